import PyProof.Rows.All
import Wide.All
import OpenK.AllK
import Wide.FinOn
import PySem.Challenge.RW_rw0084_01
set_option maxRecDepth 1000000
set_option maxHeartbeats 8000000
set_option Elab.async false
set_option linter.all false
set_option exponentiation.threshold 2000
set_option genInjectivity false
set_option genSizeOf false
set_option genCtorIdx false
set_option tactic.hygienic false
set_option backward.match.sparseCases false
set_option bootstrap.genMatcherCode false
namespace Mine
theorem Zt:type_of%@And.intro:=@And.intro
theorem Zu:type_of%@Nat.le_trans:=@Nat.le_trans
theorem Zv:type_of%@List.getElem?_eq_some_iff:=@List.getElem?_eq_some_iff
theorem Zw:type_of%@List.length_append:=@List.length_append
theorem Zx:type_of%@Nat.le_of_lt:=@Nat.le_of_lt
theorem Zy:type_of%@Nat.le_of_add_right_le:=@Nat.le_of_add_right_le
theorem Zz:type_of%@Nat.le_of_ble_eq_true:=@Nat.le_of_ble_eq_true
theorem ZA:type_of%@Nat.le_refl:=@Nat.le_refl
theorem ZB:type_of%@List.getElem?_eq_getElem:=@List.getElem?_eq_getElem
theorem ZC:type_of%@List.getD_eq_getElem?_getD:=@List.getD_eq_getElem?_getD
theorem ZD:type_of%@Nat.lt_of_lt_of_le:=@Nat.lt_of_lt_of_le
theorem ZE:type_of%@List.mem_of_getElem?:=@List.mem_of_getElem?
theorem ZF:type_of%@List.mem_cons:=@List.mem_cons
theorem ZG:type_of%@List.mem_singleton:=@List.mem_singleton
theorem ZH:type_of%@List.append_assoc:=@List.append_assoc
theorem ZI:type_of%@List.length_map:=@List.length_map
theorem ZJ:type_of%@Option.isSome_iff_exists:=@Option.isSome_iff_exists
theorem ZK:type_of%@Bool.and_eq_true:=@Bool.and_eq_true
theorem ZL:type_of%@List.length_cons:=@List.length_cons
theorem ZM:type_of%@Nat.zero_le:=@Nat.zero_le
theorem ZN:type_of%@List.mem_range:=@List.mem_range
theorem ZO:type_of%@Int.toNat_natCast:=@Int.toNat_natCast
theorem ZP:type_of%@Int.natCast_nonneg:=@Int.natCast_nonneg
theorem ZQ:type_of%@List.getElem?_append_left:=@List.getElem?_append_left
theorem ZR:type_of%@List.getElem?_concat_length:=@List.getElem?_concat_length
theorem ZS:type_of%@List.getElem?_eq_none_iff:=@List.getElem?_eq_none_iff
theorem ZT:type_of%@List.map_append:=@List.map_append
theorem ZU:type_of%@List.all_eq_true:=@List.all_eq_true
theorem ZV:type_of%@List.append_nil:=@List.append_nil
theorem ZW:type_of%@Nat.lt_of_le_of_lt:=@Nat.lt_of_le_of_lt
theorem ZX:type_of%@PySem.Heap.get?_push_of_some:=@PySem.Heap.get?_push_of_some
theorem ZY:type_of%@Nat.le_add_right_of_le:=@Nat.le_add_right_of_le
theorem ZZ:type_of%@Nat.lt_succ_of_lt:=@Nat.lt_succ_of_lt
theorem Z0:type_of%@Nat.lt_succ_self:=@Nat.lt_succ_self
theorem Z1:type_of%@List.mem_append:=@List.mem_append
theorem Z2:type_of%@List.count_cons_of_ne:=@List.count_cons_of_ne
theorem Z3:type_of%@Nat.pow_le_pow_right:=@Nat.pow_le_pow_right
theorem Z4:type_of%@Nat.eq_of_beq_eq_true:=@Nat.eq_of_beq_eq_true
theorem Z5:type_of%@Nat.mod_lt:=@Nat.mod_lt
theorem Z6:type_of%@List.length_take:=@List.length_take
theorem Z7:type_of%@Nat.ne_of_lt:=@Nat.ne_of_lt
theorem Z8:type_of%@Nat.le_of_eq:=@Nat.le_of_eq
theorem Z9:type_of%@List.getElem?_map:=@List.getElem?_map
theorem aaa:type_of%@And.imp_right:=@And.imp_right
theorem aab:type_of%@List.length_reverse:=@List.length_reverse
theorem aac:type_of%@Nat.add_le_add:=@Nat.add_le_add
theorem aad:type_of%@List.filterMap_cons_some:=@List.filterMap_cons_some
theorem aae:type_of%@PyProof.Rows.assign_Name:=@PyProof.Rows.assign_Name
theorem aaf:type_of%@Int.ofNat_le:=@Int.ofNat_le
theorem aag:type_of%@List.getElem?_toArray:=@List.getElem?_toArray
theorem aah:type_of%@List.getElem?_append_right:=@List.getElem?_append_right
theorem aai:type_of%@PySem.Heap.get?_push_size:=@PySem.Heap.get?_push_size
theorem aaj:type_of%@List.take_add_one:=@List.take_add_one
theorem aak:type_of%@Int.ofNat_lt:=@Int.ofNat_lt
theorem aal:type_of%@List.mem_map:=@List.mem_map
theorem aam:type_of%@Nat.ne_of_gt:=@Nat.ne_of_gt
theorem aan:type_of%@Option.some.inj:=@Option.some.inj
theorem aao:type_of%@Nat.add_comm:=@Nat.add_comm
theorem aap:type_of%@List.cons_append:=@List.cons_append
theorem aaq:type_of%@Nat.le_add_right:=@Nat.le_add_right
theorem aar:type_of%@List.size_toArray:=@List.size_toArray
theorem aas:type_of%@Bool.and_eq_true_iff:=@Bool.and_eq_true_iff
theorem aat:type_of%@Nat.mul_le_mul_right:=@Nat.mul_le_mul_right
theorem aau:type_of%@Nat.zero_add:=@Nat.zero_add
theorem aav:type_of%@Nat.lt_or_eq_of_le:=@Nat.lt_or_eq_of_le
theorem aaw:type_of%@Nat.lt_irrefl:=@Nat.lt_irrefl
theorem aax:type_of%@List.lookup_cons:=@List.lookup_cons
theorem aay:type_of%@List.take_length:=@List.take_length
theorem aaz:type_of%@List.reverse_append:=@List.reverse_append
theorem aaA:type_of%@Nat.add_assoc:=@Nat.add_assoc
theorem aaB:type_of%@Int.natCast_mul:=@Int.natCast_mul
theorem aaC:type_of%@PySem.Heap.lt_size:=@PySem.Heap.lt_size
theorem aaD:type_of%@PySem.Heap.get?_update_self:=@PySem.Heap.get?_update_self
theorem aaE:type_of%@List.length_set:=@List.length_set
theorem aaF:type_of%@Bool.false_ne_true:=@Bool.false_ne_true
theorem aaG:type_of%@List.not_mem_nil:=@List.not_mem_nil
theorem aaH:type_of%@List.eq_nil_of_length_eq_zero:=@List.eq_nil_of_length_eq_zero
theorem aaI:type_of%@Int.ofNat.inj:=@Int.ofNat.inj
theorem aaJ:type_of%@Nat.lt_trans:=@Nat.lt_trans
theorem aaK:type_of%@List.length_range:=@List.length_range
theorem aaL:type_of%@Int.toNat_of_nonneg:=@Int.toNat_of_nonneg
theorem aaM:type_of%@PySem.Heap.SameBut.update:=@PySem.Heap.SameBut.update
theorem aaN:type_of%@Int.fmod_nonneg_of_pos:=@Int.fmod_nonneg_of_pos
theorem aaO:type_of%@Ne.symm:=@Ne.symm
theorem aaP:type_of%@Nat.succ_le_succ:=@Nat.succ_le_succ
theorem aaQ:type_of%@Nat.min_le_right:=@Nat.min_le_right
theorem aaR:type_of%@List.getElem?_eq_none:=@List.getElem?_eq_none
theorem aaS:type_of%@List.sum_cons:=@List.sum_cons
theorem aaU:type_of%@Nat.mul_comm:=@Nat.mul_comm
theorem aaV:type_of%@List.length_replicate:=@List.length_replicate
theorem aaW:type_of%@Int.mul_fdiv_add_fmod:=@Int.mul_fdiv_add_fmod
theorem aaX:type_of%@List.mem_append_left:=@List.mem_append_left
theorem aaY:type_of%@List.reverse_reverse:=@List.reverse_reverse
theorem aa1:type_of%@Nat.lt_succ_of_le:=@Nat.lt_succ_of_le
theorem aa2:type_of%@List.filterMap_cons:=@List.filterMap_cons
theorem aa3:type_of%@Nat.mul_le_mul_left:=@Nat.mul_le_mul_left
theorem aa4:type_of%@List.mem_reverse:=@List.mem_reverse
theorem aa5:type_of%@List.length_drop:=@List.length_drop
theorem aa6:type_of%@Nat.sub_le:=@Nat.sub_le
theorem abb:type_of%@Int.add_zero:=@Int.add_zero
theorem abc:type_of%@Int.natCast_add:=@Int.natCast_add
theorem abd:type_of%@List.foldl_cons:=@List.foldl_cons
theorem abe:type_of%@Bool.or_eq_true:=@Bool.or_eq_true
theorem abf:type_of%@List.of_mem_zip:=@List.of_mem_zip
theorem abh:type_of%@List.nil_append:=@List.nil_append
theorem abi:type_of%@List.length_nil:=@List.length_nil
theorem abo:type_of%@Nat.ble_eq:=@Nat.ble_eq

inductive LA where
 |q (k i:Nat)|u (k i:Nat) (x:LA)|o (k:Nat) (x y:LA)
noncomputable abbrev LA.v (i:Nat):LA:=.q 0 i
noncomputable abbrev LA.V (i:Nat):LA:=.q 1 i
noncomputable abbrev LA.n (i:Nat):LA:=.q 2 i
noncomputable abbrev LA.m (i:Nat) (x:LA):LA:=.u 0 i x
noncomputable abbrev LA.M (x:LA) (i:Nat):LA:=.u 1 i x
noncomputable abbrev LA.g (x:LA):LA:=.u 2 0 x
noncomputable abbrev LA.c (x:LA):LA:=.u 3 0 x
noncomputable abbrev LA.d (x:LA) (i:Nat):LA:=.u 4 i x
noncomputable abbrev LA.r (x:LA) (i:Nat):LA:=.u 5 i x
noncomputable abbrev LA.t (x:LA):LA:=.u 6 0 x
noncomputable abbrev LA.b (x:LA):LA:=.u 7 0 x
noncomputable abbrev LA.a (x y:LA):LA:=.o 0 x y
noncomputable abbrev LA.s (x y:LA):LA:=.o 1 x y
noncomputable abbrev LA.i (x y:LA):LA:=.o 2 x y
noncomputable abbrev LA.x (x y:LA):LA:=.o 3 x y
noncomputable abbrev LA.v0:LA:=.q 0 0
noncomputable abbrev LA.v1:LA:=.q 0 1
noncomputable abbrev LA.v2:LA:=.q 0 2
noncomputable abbrev LA.v3:LA:=.q 0 3
noncomputable abbrev LA.v4:LA:=.q 0 4
noncomputable abbrev LA.v5:LA:=.q 0 5
noncomputable abbrev LA.v6:LA:=.q 0 6
noncomputable abbrev LA.v7:LA:=.q 0 7
noncomputable abbrev LA.V0:LA:=.q 1 0
noncomputable abbrev LA.V1:LA:=.q 1 1
noncomputable abbrev LA.V2:LA:=.q 1 2
noncomputable abbrev LA.V3:LA:=.q 1 3
noncomputable abbrev LA.V4:LA:=.q 1 4
noncomputable abbrev LA.V5:LA:=.q 1 5
noncomputable abbrev LA.V6:LA:=.q 1 6
noncomputable abbrev LA.V7:LA:=.q 1 7
noncomputable abbrev LA.n0:LA:=.q 2 0
noncomputable abbrev LA.n1:LA:=.q 2 1
noncomputable abbrev LA.n2:LA:=.q 2 2
noncomputable def LA.at {α:Type} (z:α):List α->Nat->α
 | [],_=>z
 |a::_,0=>a
 |_::r,i+1=>LA.at z r i
noncomputable def LA.D (c:List Nat) (d:List Int):LA->Nat×Int
 |.q k i=>match k with
  |0=>(LA.at 0 c i,0)
  |1=>(0,LA.at 0 d i)
  |_=>(i,i)
 |.u k i x=>match k with
  |0=>(i*(x.D c d).1,i*(x.D c d).2)
  |1=>((x.D c d).1*i,(x.D c d).2*i)
  |2=>(0,-(x.D c d).2)
  |3=>(0,(x.D c d).1)
  |4=>((x.D c d).1/i,(x.D c d).2/i)
  |5=>((x.D c d).1%i,(x.D c d).2%i)
  |6=>((x.D c d).2.toNat,0)
  |_=>((x.D c d).2.natAbs,0)
 |.o k x y=>match k with
  |0=>((x.D c d).1+(y.D c d).1,(x.D c d).2+(y.D c d).2)
  |1=>((x.D c d).1-(y.D c d).1,(x.D c d).2-(y.D c d).2)
  |2=>(min (x.D c d).1 (y.D c d).1,min (x.D c d).2 (y.D c d).2)
  |_=>(max (x.D c d).1 (y.D c d).1,max (x.D c d).2 (y.D c d).2)
noncomputable def LA.beq:LA->LA->Bool
 |.q k i,y=>match y with
  |.q k' i'=>Nat.beq k k'&&Nat.beq i i'
  |_=>false
 |.u k i x,y=>match y with
  |.u k' i' x'=>Nat.beq k k'&&(Nat.beq i i'&&LA.beq x x')
  |_=>false
 |.o k x y,z=>match z with
  |.o k' x' y'=>Nat.beq k k'&&(LA.beq x x'&&LA.beq y y')
  |_=>false
theorem iu {a b:Bool} (h:(a&&b)=true):a=true/\b=true:=by cases a<;>cases b<;>first|exact⟨rfl,rfl⟩|cases h
theorem LA.beq_eq:∀ {x y:LA},LA.beq x y=true->x=y:=λ{x}=>by
 induction x with
 |q k i=>
  intro y h
  cases y with
  |q k' i'=>rw[Z4 (iu h).1,Z4 (iu h).2]
  |u=>cases h
  |o=>cases h
 |u k i x ih=>
  intro y h
  cases y with
  |u k' i' x'=>rw[Z4 (iu h).1,Z4 (iu (iu h).2).1,ih (iu (iu h).2).2]
  |q=>cases h
  |o=>cases h
 |o k x y ih xy=>
  intro z h
  cases z with
  |o k' x' y'=>rw[Z4 (iu h).1,ih (iu (iu h).2).1,xy (iu (iu h).2).2]
  |u=>cases h
  |q=>cases h
noncomputable abbrev Py:=Int×List (Int×LA)
noncomputable def Py.ev (f:LA->Int):List (Int×LA)->Int
 | []=>0
 |e::r=>e.1*f e.2+Py.ev f r
noncomputable def Py.val (f:LA->Int) (p:Py):Int:=p.1+Py.ev f p.2
noncomputable def Py.ins (k:Int) (t:LA):List (Int×LA)->List (Int×LA)
 | []=>[(k,t)]
 |e::r=>bif LA.beq t e.2 then(k+e.1,e.2)::r else e::Py.ins k t r
noncomputable def Py.mulL (k:Int):List (Int×LA)->List (Int×LA)
 | []=>[]
 |e::r=>(k*e.1,e.2)::Py.mulL k r
noncomputable def Py.addL (p:List (Int×LA)):List (Int×LA)->List (Int×LA)
 | []=>p
 |e::r=>Py.ins e.1 e.2 (Py.addL p r)
noncomputable def Py.mul (k:Int) (p:Py):Py:=(k*p.1,Py.mulL k p.2)
noncomputable def Py.add (p q:Py):Py:=(p.1+q.1,Py.addL p.2 q.2)
theorem Py.ev_ins (f:LA->Int) (k:Int) (t:LA):∀ l,Py.ev f (Py.ins k t l)=k*f t+Py.ev f l
 | []=>rfl
 |e::r=>by
  rw[Py.ins]
  cases h:LA.beq t e.2 with
  |true=>
   rw[LA.beq_eq h]
   exact(congrArg (. +Py.ev f r) (Int.add_mul k e.1 (f e.2))).trans (Int.add_assoc _ _ _)
  |false=>exact(congrArg (e.1*f e.2+.) (Py.ev_ins f k t r)).trans (Int.add_left_comm _ _ _)
theorem Py.val_mul (f:LA->Int) (k:Int) (p:Py):Py.val f (Py.mul k p)=k*Py.val f p:=
 have h:∀ l,Py.ev f (Py.mulL k l)=k*Py.ev f l:=λl=>by
  induction l with
  |nil=>exact(Int.mul_zero k).symm
  |cons e r ih=>
   show k*e.1*f e.2+Py.ev f (Py.mulL k r)=k*(e.1*f e.2+Py.ev f r)
   rw[ih,Int.mul_add,Int.mul_assoc]
 (congrArg (k*p.1+.) (h p.2)).trans (Int.mul_add _ _ _).symm
theorem Py.val_add (f:LA->Int) (p q:Py):Py.val f (Py.add p q)=Py.val f p+Py.val f q:=
 have h:∀ l,Py.ev f (Py.addL p.2 l)=Py.ev f p.2+Py.ev f l:=λl=>by
  induction l with
  |nil=>exact(abb _).symm
  |cons e r ih=>exact(Py.ev_ins f _ _ _).trans ((congrArg (e.1*f e.2+.) ih).trans (Int.add_left_comm _ _ _))
 (congrArg (p.1+q.1+.) (h q.2)).trans (by show p.1+q.1+(_+_)=p.1+_+(q.1+_);rw[Int.add_assoc,Int.add_assoc,Int.add_left_comm q.1])
noncomputable def LA.atm (b:Bool) (e:LA):Py:=(0,[(1,bif b then .u 3 0 e else e)])
noncomputable def LA.lin (b:Bool):LA->Py
 |.q k i=>match k with
  |2=>(i,[])
  |k=>LA.atm b (.q k i)
 |.u k i x=>match k,b with
  |0,b=>Py.mul i (x.lin b)
  |1,b=>Py.mul i (x.lin b)
  |2,false=>Py.mul (-1) (x.lin false)
  |3,false=>x.lin true
  |k,b=>LA.atm b (.u k i x)
 |.o k x y=>match k,b with
  |0,b=>Py.add (x.lin b) (y.lin b)
  |1,false=>Py.add (x.lin false) (Py.mul (-1) (y.lin false))
  |k,b=>LA.atm b (.o k x y)
noncomputable def LA.J (c:List Nat) (d:List Int) (b:Bool) (e:LA):Int:=bif b then(e.D c d).1 else(e.D c d).2
noncomputable abbrev Py.on (c:List Nat) (d:List Int) (p:Py):Int:=Py.val (λe=>(e.D c d).2) p
theorem LA.atm_ok (c:List Nat) (d:List Int) (b:Bool) (e:LA):(LA.atm b e).on c d=e.J c d b:=by
 cases b
 .show 0+(1*(e.D c d).2+0)=_;rw[Int.one_mul,abb,Int.zero_add];rfl
 .show 0+(1*((e.D c d).1:Int)+0)=_;rw[Int.one_mul,abb,Int.zero_add];rfl
theorem LA.lin_ok (c:List Nat) (d:List Int) (e:LA):∀ b,(e.lin b).on c d=e.J c d b:=by
 induction e with
 |q k i=>
  intro b
  rcases k with _|_|_|k<;>first
   |exact LA.atm_ok c d b _
   |(cases b<;>exact abb _)
 |u k i x ih=>
  intro b
  rcases k with _|_|_|_|k
  .cases b<;>exact(Py.val_mul _ _ _).trans ((congrArg ((i:Int)*.) (ih _)).trans (by first|rfl|exact(aaB _ _).symm))
  .cases b<;>exact(Py.val_mul _ _ _).trans ((congrArg ((i:Int)*.) (ih _)).trans (by first|exact Int.mul_comm _ _|exact(Int.mul_comm _ _).trans (aaB _ _).symm))
  .cases b
   .exact(Py.val_mul _ _ _).trans ((congrArg ((-1:Int)*.) (ih _)).trans (Int.neg_one_mul _))
   .exact LA.atm_ok c d true _
  .cases b
   .exact ih true
   .exact LA.atm_ok c d true _
  .cases b<;>exact LA.atm_ok c d _ _
 |o k x y ih xy=>
  intro b
  rcases k with _|_|k
  .cases b<;>exact(Py.val_add _ _ _).trans ((congr (congrArg _ (ih _)) (xy _)).trans (by first|rfl|exact(abc _ _).symm))
  .cases b
   .exact(Py.val_add _ _ _).trans ((congr (congrArg _ (ih _)) ((Py.val_mul _ _ _).trans ((congrArg ((-1:Int)*.) (xy _)).trans (Int.neg_one_mul _)))).trans Int.sub_eq_add_neg.symm)
   .exact LA.atm_ok c d true _
  .cases b<;>exact LA.atm_ok c d _ _
inductive CA where
 |p (k:Nat) (x y:LA)|n (x:CA)|o (b:Bool) (x y:CA)
noncomputable abbrev CA.l (x y:LA):CA:=.p 0 x y
noncomputable abbrev CA.t (x y:LA):CA:=.p 1 x y
noncomputable abbrev CA.e (x y:LA):CA:=.p 2 x y
noncomputable abbrev CA.L (x y:LA):CA:=.p 3 x y
noncomputable abbrev CA.T (x y:LA):CA:=.p 4 x y
noncomputable abbrev CA.E (x y:LA):CA:=.p 5 x y
noncomputable abbrev CA.f:CA:=.p 6 (.n 0) (.n 0)
noncomputable abbrev CA.a (x y:CA):CA:=.o true x y
noncomputable abbrev CA.r (x y:CA):CA:=.o false x y
noncomputable def CA.P (c:List Nat) (d:List Int):CA->Prop
 |.p k x y=>match k with
  |0=>(x.D c d).1<=(y.D c d).1
  |1=>(x.D c d).1<(y.D c d).1
  |2=>(x.D c d).1=(y.D c d).1
  |3=>(x.D c d).2<=(y.D c d).2
  |4=>(x.D c d).2<(y.D c d).2
  |5=>(x.D c d).2=(y.D c d).2
  |_=>False
 |.n x=> ¬ x.P c d
 |.o b x y=>match b with
  |true=>x.P c d/\y.P c d
  |false=>x.P c d\/y.P c d
inductive QA where
 |e (p:Py)|o (b:Bool) (x y:QA)
noncomputable def QA.P (c:List Nat) (d:List Int):QA->Prop
 |.e p=>0<=p.on c d
 |.o b x y=>match b with
  |true=>x.P c d/\y.P c d
  |false=>x.P c d\/y.P c d
noncomputable def Py.df (b:Bool) (x y:LA) (k:Int):Py:=Py.add (k,[]) (Py.add (y.lin b) (Py.mul (-1) (x.lin b)))
theorem Py.df_ok (c:List Nat) (d:List Int) (b:Bool) (x y:LA) (k:Int):(Py.df b x y k).on c d=k+(y.J c d b-x.J c d b):=
 (Py.val_add _ _ _).trans (congr (congrArg _ (abb k)) ((Py.val_add _ _ _).trans ((congr (congrArg _ (LA.lin_ok c d _ _)) ((Py.val_mul _ _ _).trans ((congrArg ((-1:Int)*.) (LA.lin_ok c d _ _)).trans (Int.neg_one_mul _)))).trans Int.sub_eq_add_neg.symm)))
noncomputable def CA.at0 (b:Bool) (nt:Bool) (k:Nat) (x y:LA):QA:=match k with
 |0=>bif b then .e (Py.df nt x y 0) else .e (Py.df nt y x (-1))
 |1=>bif b then .e (Py.df nt x y (-1)) else .e (Py.df nt y x 0)
 |2=>bif b then .o true (.e (Py.df nt x y 0)) (.e (Py.df nt y x 0)) else .o false (.e (Py.df nt x y (-1))) (.e (Py.df nt y x (-1)))
 |_=>bif b then .e (-1,[]) else .e (0,[])
noncomputable def CA.nf (b:Bool):CA->QA
 |.p k x y=>match k with
  |0=>CA.at0 b true 0 x y
  |1=>CA.at0 b true 1 x y
  |2=>CA.at0 b true 2 x y
  |3=>CA.at0 b false 0 x y
  |4=>CA.at0 b false 1 x y
  |5=>CA.at0 b false 2 x y
  |_=>CA.at0 b false 3 x y
 |.n x=>x.nf (!b)
 |.o k x y=>.o (bif b then k else !k) (x.nf b) (y.nf b)
theorem Pl {c:List Nat} {d:List Int} {nt:Bool} {x y:LA} (h:x.J c d nt<=y.J c d nt):(QA.e (Py.df nt x y 0)).P c d:=by
 show 0<=Py.on c d _
 rw[Py.df_ok,Int.zero_add];exact Int.sub_nonneg_of_le h
theorem Pn {c:List Nat} {d:List Int} {nt:Bool} {x y:LA} (h:x.J c d nt<y.J c d nt):(QA.e (Py.df nt x y (-1))).P c d:=by
 show 0<=Py.on c d _
 rw[Py.df_ok,Int.add_comm];exact Int.le_sub_one_of_lt (Int.sub_pos_of_lt h)
noncomputable def CA.R (k:Nat) (a b:Int):Prop:=match k with
 |0=>a<=b
 |1=>a<b
 |2=>a=b
 |_=>False
theorem CA.at0_ok {c:List Nat} {d:List Int} {nt:Bool} {x y:LA} (b:Bool) (k:Nat) (h:bif b then CA.R k (x.J c d nt) (y.J c d nt) else ¬ CA.R k (x.J c d nt) (y.J c d nt)):(CA.at0 b nt k x y).P c d:=by
 rcases k with _|_|_|k<;>cases b
 .exact Pn (Int.not_le.mp h)
 .exact Pl h
 .exact Pl (Int.not_lt.mp h)
 .exact Pn h
 .exact(Int.lt_or_gt_of_ne h).imp Pn Pn
 .exact⟨Pl (Int.le_of_eq h),Pl (Int.le_of_eq (Eq.symm h))⟩
 .exact Int.le_refl 0
 .exact h.elim
theorem CA.nf_ok {c:List Nat} {d:List Int} (g:CA):∀ b:Bool,(bif b then g.P c d else ¬ g.P c d)->(g.nf b).P c d:=by
 induction g with
 |p k x y=>
  intro b h
  rcases k with _|_|_|_|_|_|k
  .refine CA.at0_ok (nt:=true) (x:=x) (y:=y) b 0 ?_
   cases b
   .exact λz=>h (aaf.mp z)
   .exact aaf.mpr h
  .refine CA.at0_ok (nt:=true) (x:=x) (y:=y) b 1 ?_
   cases b
   .exact λz=>h (aak.mp z)
   .exact aak.mpr h
  .refine CA.at0_ok (nt:=true) (x:=x) (y:=y) b 2 ?_
   cases b
   .exact λz=>h (aaI z)
   .exact congrArg Int.ofNat h
  .refine CA.at0_ok (nt:=false) (x:=x) (y:=y) b 0 ?_;cases b<;>exact h
  .refine CA.at0_ok (nt:=false) (x:=x) (y:=y) b 1 ?_;cases b<;>exact h
  .refine CA.at0_ok (nt:=false) (x:=x) (y:=y) b 2 ?_;cases b<;>exact h
  .refine CA.at0_ok (nt:=false) (x:=x) (y:=y) b 3 ?_;cases b<;>exact h
 |n x ih=>
  intro b h
  cases b
  .exact ih true (Classical.byContradiction h)
  .exact ih false h
 |o k x y ih xy=>
  intro b h
  cases b<;>cases k
  .exact⟨ih false λz=>h (.inl z),xy false λz=>h (.inr z)⟩
  .exact(Classical.em (x.P c d)).elim (λz=>.inr (xy false λw=>h ⟨z,w⟩)) λz=>.inl (ih false z)
  .exact h.imp (ih true) (xy true)
  .exact⟨ih true h.1,xy true h.2⟩
noncomputable def LA.fact (b:Bool) (e:LA):CA:=
 let le:LA->LA->CA:=λx y=>.p (bif b then 0 else 3) x y
 let eq:LA->LA->CA:=λx y=>.p (bif b then 2 else 5) x y
 match e with
 |.o k x y=>match k with
  |1=>bif b then .o false (.o true (.l x y) (.e e (.n 0))) (.o true (.l y x) (.e (.a e y) x)) else eq e e
  |2=>.o false (.o true (le x y) (eq e x)) (.o true (le y x) (eq e y))
  |3=>.o false (.o true (le x y) (eq e y)) (.o true (le y x) (eq e x))
  |_=>eq e e
 |.u k i x=>match k,i with
  |4,i+1=>.o true (le (.m (i+1) e) x) (.n (le (.a (.m (i+1) e) (.n (i+1))) x))
  |5,i+1=>.o true (.o true (le (.n 0) e) (.n (le (.n (i+1)) e))) (eq x (.a (.m (i+1) (.d x (i+1))) e))
  |6,_=>bif b then .o false (.o true (.L (.n 0) x) (.E (.c e) x)) (.o true (.L x (.n 0)) (.e e (.n 0))) else eq e e
  |7,_=>bif b then .o false (.o true (.L (.n 0) x) (.E (.c e) x)) (.o true (.L x (.n 0)) (.E (.c e) (.g x))) else eq e e
  |_,_=>eq e e
 |_=>eq e e
theorem LA.fact_ok (c:List Nat) (d:List Int) (b:Bool) (e:LA):(LA.fact b e).P c d:=by
 have i0:∀ i:Nat,0<((i+1:Nat):Int):=λi=>aak.mpr (Nat.succ_pos i)
 have n0:∀ i:Nat,((i+1:Nat):Int)≠0:=λi=>Int.ne_of_gt (i0 i)
 have tt:(CA.p (bif b then 2 else 5) e e).P c d:=by cases b<;>exact rfl
 cases e with
 |q k i=>exact tt
 |u k i x=>
  rcases k with _|_|_|_|_|_|_|_|k
  .exact tt
  .exact tt
  .exact tt
  .exact tt
  .cases i with
   |zero=>exact tt
   |succ i=>
    cases b
    .exact⟨Int.mul_ediv_self_le (n0 i),Int.not_le.mpr (Int.lt_mul_ediv_self_add (i0 i))⟩
    .exact⟨Nat.mul_div_le _ _,Nat.not_le.mpr (Nat.lt_mul_div_succ _ (Nat.succ_pos i))⟩
  .cases i with
   |zero=>exact tt
   |succ i=>
    cases b
    .exact⟨⟨Int.emod_nonneg _ (n0 i),Int.not_le.mpr (Int.emod_lt_of_pos _ (i0 i))⟩,(Int.mul_ediv_add_emod _ _).symm⟩
    .exact⟨⟨ZM _,Nat.not_le.mpr (Z5 _ (Nat.succ_pos i))⟩,(Nat.div_add_mod _ _).symm⟩
  .cases b
   .exact tt
   .exact(Int.le_total 0 (x.D c d).2).imp (λh=>⟨h,aaL h⟩) (λh=>⟨h,Int.toNat_of_nonpos h⟩)
  .cases b
   .exact tt
   .exact(Int.le_total 0 (x.D c d).2).imp (λh=>⟨h,Int.natAbs_of_nonneg h⟩) (λh=>⟨h,Int.ofNat_natAbs_of_nonpos h⟩)
  .exact tt
 |o k x y=>
  rcases k with _|_|_|_|k
  .exact tt
  .cases b
   .exact tt
   .exact(Nat.le_total (x.D c d).1 (y.D c d).1).imp (λh=>⟨h,Nat.sub_eq_zero_of_le h⟩) (λh=>⟨h,Nat.sub_add_cancel h⟩)
  .cases b
   .exact(Int.le_total (x.D c d).2 (y.D c d).2).imp (λh=>⟨h,Int.min_eq_left h⟩) (λh=>⟨h,Int.min_eq_right h⟩)
   .exact(Nat.le_total (x.D c d).1 (y.D c d).1).imp (λh=>⟨h,Nat.min_eq_left h⟩) (λh=>⟨h,Nat.min_eq_right h⟩)
  .cases b
   .exact(Int.le_total (x.D c d).2 (y.D c d).2).imp (λh=>⟨h,Int.max_eq_right h⟩) (λh=>⟨h,Int.max_eq_left h⟩)
   .exact(Nat.le_total (x.D c d).1 (y.D c d).1).imp (λh=>⟨h,Nat.max_eq_right h⟩) (λh=>⟨h,Nat.max_eq_left h⟩)
  .exact tt
noncomputable abbrev SA:=List Py×List (QA×QA)
noncomputable def QA.push:QA->SA->SA
 |.e p,s=>(p::s.1,s.2)
 |.o b x y,s=>match b with
  |true=>y.push (x.push s)
  |false=>(s.1,(x,y)::s.2)
noncomputable def SA.ok (c:List Nat) (d:List Int) (s:SA):Prop:=(∀ p∈s.1,0<=p.on c d)/\∀ (i:Nat) (a:QA×QA),s.2[i]? =some a->a.1.P c d\/a.2.P c d
theorem QA.push_ok {c:List Nat} {d:List Int} (q:QA):∀ {s:SA},q.P c d->s.ok c d->(q.push s).ok c d:=by
 induction q with
 |e p=>exact λh o=>⟨λr hr=>(ZF.mp hr).elim (λz=>z▸h) (o.1 r),o.2⟩
 |o b x y ih xy=>
  intro s h o
  cases b
  .refine⟨o.1,λi a e=>?_⟩
   cases i with
   |zero=>cases e;exact h
   |succ i=>exact o.2 i a e
  .exact xy h.2 (ih h.1 o)
noncomputable def Py.comb:List Nat->List Py->Py
 | [],_=>(0,[])
 |_::_,[]=>(0,[])
 |m::ms,p::ps=>Py.add (Py.mul m p) (Py.comb ms ps)
theorem Py.comb_ok {c:List Nat} {d:List Int}:∀ (ms:List Nat) (ps:List Py),(∀ p∈ps,0<=p.on c d)->0<=(Py.comb ms ps).on c d
 | [],_,_=>Int.le_refl 0
 |_::_,[],_=>Int.le_refl 0
 |m::ms,p::ps,h=>by
  show 0<=Py.on c d (Py.add _ _)
  rw[Py.on,Py.val_add,Py.val_mul]
  exact Int.add_nonneg (Int.mul_nonneg (ZP m) (h p (.head _))) (Py.comb_ok ms ps λq hq=>h q (.tail _ hq))
noncomputable def LA.isC:LA->Bool
 |.u k _ _=>Nat.beq k 3
 |_=>false
theorem LA.isC_ok {c:List Nat} {d:List Int} {e:LA} (h:e.isC=true):0<=(e.D c d).2:=by
 cases e with
 |u k i x=>rw[Z4 h];exact ZP _
 |q=>cases h
 |o=>cases h
noncomputable def Py.neg:List (Int×LA)->Bool
 | []=>true
 |e::r=>(match e.1 with
  |.ofNat i=>Nat.beq i 0
  |.negSucc _=>e.2.isC)&&Py.neg r
theorem Py.neg_ok {c:List Nat} {d:List Int}:∀ l,Py.neg l=true->Py.ev (λe=>(e.D c d).2) l<=0
 | [],_=>Int.le_refl 0
 |(i,e)::r,h=>by
  refine Int.add_nonpos ?_ (Py.neg_ok r (iu h).2)
  have h:=(iu h).1
  cases i with
  |ofNat i=>rw[show i=0 from Z4 h];exact Int.le_of_eq (Int.zero_mul _)
  |negSucc i=>exact Int.mul_nonpos_of_nonpos_of_nonneg (Int.le_of_lt (Int.negSucc_lt_zero i)) (LA.isC_ok h)
noncomputable def Py.bad (p:Py):Bool:=(match p.1 with
  |.ofNat _=>false
  |.negSucc _=>true)&&Py.neg p.2
theorem Py.bad_ok {c:List Nat} {d:List Int} {p:Py} (h:p.bad=true): ¬ 0<=p.on c d:=by
 obtain⟨i,l⟩:=p
 have h1:=(iu h).1
 cases i with
 |ofNat i=>cases h1
 |negSucc i=>exact Int.not_le.mpr (Int.lt_of_le_of_lt (Int.add_le_add_left (Py.neg_ok l (iu h).2) _) (by rw[abb];exact Int.negSucc_lt_zero i))
inductive TA where
 |f (ms:List Nat)|o (i:Nat) (x y:TA)|k (b:Bool) (e:LA) (x:TA)
noncomputable def TA.chk:TA->SA->Bool
 |.f ms,s=>Py.bad (Py.comb ms s.1)
 |.o i x y,s=>match s.2[i]? with
  |some a=>x.chk (a.1.push s)&&y.chk (a.2.push s)
  |none=>false
 |.k b e x,s=>x.chk (((LA.fact b e).nf true).push s)
theorem TA.chk_ok {c:List Nat} {d:List Int} (t:TA):∀ {s:SA},t.chk s=true-> ¬ s.ok c d:=by
 induction t with
 |f ms=>exact λh o=>Py.bad_ok h (Py.comb_ok ms _ o.1)
 |k b e x ih=>exact λh o=>ih h (QA.push_ok _ (CA.nf_ok _ true (LA.fact_ok c d b e)) o)
 |o i x y ih xy=>
  intro s h o
  rw[TA.chk] at h
  have o2:=o.2 i
  revert h o2
  cases s.2[i]? with
  |none=>exact λh=>nomatch h
  |some a=>exact λh o2=>(o2 a rfl).elim (λz=>ih (iu h).1 (QA.push_ok _ z o)) λz=>xy (iu h).2 (QA.push_ok _ z o)
noncomputable def CA.imp (c:List Nat) (d:List Int) (G:Prop):List CA->Prop
 | []=>G
 |h::r=>h.P c d->CA.imp c d G r
noncomputable def CA.start (s:SA):List CA->SA
 | []=>s
 |h::r=>CA.start ((h.nf true).push s) r
theorem la (c:List Nat) (d:List Int) (hs:List CA) (g:CA) (t:TA) (ok:t.chk (CA.start ((g.nf false).push ([],[])) hs)=true):CA.imp c d (g.P c d) hs:=
 have h1:g.P c d->∀ hs:List CA,CA.imp c d (g.P c d) hs:=λh hs=>by
  induction hs with
  |nil=>exact h
  |cons x r ih=>exact λø=>ih
 have h2:∀ (hs:List CA) (s:SA),s.ok c d->t.chk (CA.start s hs)=true->CA.imp c d (g.P c d) hs:=λhs=>by
  induction hs with
  |nil=>exact λs o h=>(TA.chk_ok t h o).elim
  |cons x r ih=>exact λs o h z=>ih _ (QA.push_ok _ (CA.nf_ok x true z) o) h
 (Classical.em (g.P c d)).elim (λh=>h1 h hs) λh=>h2 hs _ (QA.push_ok _ (CA.nf_ok g false h) ⟨λø z=>absurd z aaG,λi a z=>by cases i<;>cases z⟩) ok
end Mine
namespace Mine
open PySem PySem.W PySem.Calls PyProof.Rows
theorem c6 {α:Type} {l:List α} {a b:α} {i:Nat} (e:(l++[a])[i]? =some b):l[i]? =some b\/(i=l.length/\b=a):=by
 rcases Nat.lt_trichotomy i l.length with h|h|h
 .rw[ZQ h] at e;exact .inl e
 .subst h;rw[ZR] at e;cases e;exact .inr ⟨rfl,rfl⟩
 .rw[aaR (by rw[Zw];exact h)] at e;cases e
set_option genCtorIdx true in
inductive B where
 |len|range|list|min|max|sum|str|hex|sorted|isinstance|iter|next|divmod|tuple
noncomputable def B.value:B->Value
 |.len=>.builtin "len" |.range=>.type "range" |.list=>.type "list" |.min=>.builtin "min" |.max=>.builtin "max" |.sum=>.builtin "sum"
 |.str=>.type "str" |.hex=>.builtin "hex" |.sorted=>.builtin "sorted" |.isinstance=>.builtin "isinstance" |.iter=>.builtin "iter" |.next=>.builtin "next"
 |.divmod=>.builtin "divmod" |.tuple=>.type "tuple"
set_option genCtorIdx true in
inductive PV where
 |none|bool (b:Bool)|int (i:Int)|str (s:Str)|ref (i:Nat)|val (v:Value)|fn (b:B)
set_option genCtorIdx true in
inductive PF where
 |next|brk|ret (v:PV)
set_option genCtorIdx true in
inductive PO where
 |list (xs:List PV)|tup (xs:List PV)|cell (v:Option PV)|rng (a c:Int) (n:Nat)|lit (l i:Nat)|clo (k:Nat) (dk:List Nat)|code (q:Str)|ctab (p:Pos) (k:Option Nat)|junk|slist (xs:List PV) (o:Obj)
noncomputable abbrev Loc:=List (Nat×PV)
noncomputable def Loc.get:Loc->Nat->Option PV
 | [],_=>.none
 |a::r,x=>bif Nat.beq x a.1 then some a.2 else Loc.get r x
noncomputable def Loc.set (l:Loc) (x:Nat) (v:PV):Loc:=(x,v)::l
theorem Loc.gc (y:Nat) (v:PV) (r:Loc) (x:Nat):Loc.get ((y,v)::r) x=if x=y then some v else r.get x:=by
 by_cases h:x=y
 .subst h;simp [Loc.get]
 .rw[if_neg h,Loc.get,show Nat.beq x (y,v).1=false from Bool.eq_false_iff.mpr λq=>h (Z4 q)];rfl
theorem Loc.get_set (l:Loc) (x:Nat) (v:PV) (y:Nat):(l.set x v).get y=if y=x then some v else l.get y:=Loc.gc x v l y
noncomputable def look (l:List (Nat×Nat)) (x:Nat):Option Nat:=match l with
 | []=>.none
 |(y,v)::r=>if x=y then some v else look r x
structure St where
 loc:Loc
 ce:List (Nat×Nat)
 hp:List PO
noncomputable abbrev Spec:=List PV->List PO->(PV->List PO->Prop)->Prop
noncomputable def Ck:List String:=[
 "ch_a","ch_b","a","b","max_cost","pre","post","row","result","bindex","bchar","distance","minimum","index","substitute","insert_delete",
 "n","pad","half_n","mask","b1","b2","q1","r","q2","a12","a3","q","a_digits","inner","x","L","R","mid","shift","upper","lower",
 "digits","q_digits","a_digit","q_digit","flags","names","i","flag","iterator","val","numbers","tape","number","k","figure","octet","place",
 "told","octets","first","second","parents","edges","kind","turned","size","other","more","above","below","fault","part","kinds","lengths","turn",
 "words","node","way","pieces","table","j","edge","due","near","pair","side","bare","twice","word","far","ends","around","drawn","fresh","rest",
 "script","cells","texts","odd","others",
 "_CASE_COST","_MOVE_COST","_MAX_STRING_SIZE","_DIV_LIMIT","COMPILER_FLAG_NAMES",
 "_substitution_cost","_levenshtein_distance","_div2n1n","_div3n2n","_int2digits","_digits2int","_divmod_pos","int_divmod","pretty_flags","_parse_varint",
 "_law_names","_law_tape","_law_read","_law_way","_law_piece","_law_split","_law_table","_law_due","_law_taken_out",
 "len","range","list","min","max","sum","str","hex","sorted","isinstance","enumerate","iter","next","divmod","reversed","tuple","ZeroDivisionError","StopIteration",
 "append","extend","join","get","bit_length","count","reverse",".0"]
noncomputable def nm (x:Nat):Str:=match Ck[x]? with
 |some s=>Str.ofString s
 |.none=>⟨#[0,x]⟩
theorem xz:(Ck.map Str.ofString).Nodup:=by decide+kernel
theorem vm:∀ s∈Ck.map Str.ofString,s.cps[0]? ≠some 0:=by decide+kernel
theorem kO {x y:Nat} (h:nm x=nm y):x=y:=by
 unfold nm at h
 have vn:∀ {z:Nat} {s:String},Ck[z]? =some s->(Ck.map Str.ofString)[z]? =some (Str.ofString s):=λe=>by rw[Z9,e];rfl
 cases hx:Ck[x]? with
 |some s=>
  cases hy:Ck[y]? with
  |some t=>
   rw[hx,hy] at h
   have kx:=vn hx
   have ky:=vn hy
   dsimp only at h
   rw[<-h] at ky
   obtain⟨lx,ex⟩:=Zv.mp kx
   obtain⟨ly,ey⟩:=Zv.mp ky
   exact(List.getElem?_inj lx xz).mp (kx.trans ky.symm)
  |none=>
   rw[hx,hy] at h
   dsimp only at h
   exact absurd (by rw[h];rfl) (vm _ (ZE (vn hx)))
 |none=>
  cases hy:Ck[y]? with
  |some t=>
   rw[hx,hy] at h
   dsimp only at h
   exact absurd (by rw[<-h];rfl) (vm _ (ZE (vn hy)))
  |none=>
   rw[hx,hy] at h
   dsimp only at h
   have:=congrArg Str.cps h
   simpa using this
noncomputable abbrev aT:=List Addr
noncomputable def mx (ab aj:aT):Prop:=∀ (i:Nat) (a:Addr),ab[i]? =some a->aj[i]? =some a
theorem mx.refl (ab:aT):mx ab ab:=λø ø h=>h
theorem mx.trans {a b c:aT} (h:mx a b) (k:mx b c):mx a c:=λi x e=>k i x (h i x e)
theorem mx.snoc (ab:aT) (a:Addr):mx ab (ab++[a]):=λi x e=>by
 obtain⟨l,_⟩:=Zv.mp e
 rw[ZQ l];exact e
noncomputable def cY (ab:aT):PV->Value->Prop
 |.none,v=>v=.none
 |.bool b,v=>v=.bool b
 |.int i,v=>∃ t,v=.int i t
 |.str s,v=>∃ t,v=.str s t
 |.ref i,v=>∃ a,ab[i]? =some a/\v=.ref a
 |.val u,v=>v=u
 |.fn b,v=>v=b.value
theorem cY.mono {ab aj:aT} (E:mx ab aj) {p:PV} {v:Value}:cY ab p v->cY aj p v:=by
 cases p
 case ref=>exact .imp λø=>And.imp_left (E _ _)
 all_goals exact id
noncomputable def aU (ab:aT):List PV->List Value->Prop
 | [],[]=>True
 |p::ps,v::vs=>cY ab p v/\aU ab ps vs
 |_,_=>False
theorem aU.ind {ab:aT} {P:List PV->List Value->Prop} (n:P [] []) (c:∀ p v ps vs,cY ab p v->aU ab ps vs->P ps vs->P (p::ps) (v::vs)) {ps:List PV}:∀ {vs},aU ab ps vs->P ps vs:=by
 induction ps with
 |nil=>intro vs h;cases vs with
  |nil=>exact n
  |cons v vs=>exact h.elim
 |cons p ps ih=>intro vs h;cases vs with
  |nil=>exact h.elim
  |cons v vs=>exact c _ _ _ _ h.1 h.2 (ih h.2)
theorem aU.mono {ab aj:aT} (E:mx ab aj) {ps:List PV} {vs:List Value} (h:aU ab ps vs):aU aj ps vs:=
 h.ind trivial λø ø ø ø a ø i=>⟨a.mono E,i⟩
theorem aU.length {ab:aT} {ps:List PV} {vs:List Value} (h:aU ab ps vs):ps.length=vs.length:=
 h.ind (P:=λa b=>a.length=b.length) rfl λø ø ø ø ø ø i=>congrArg Nat.succ i
theorem aU.get {ab:aT} {ps:List PV} {vs:List Value} (h:aU ab ps vs) {i:Nat} {p:PV}:ps[i]? =some p->∃ v,vs[i]? =some v/\cY ab p v:=
 h.ind (P:=λa b=>∀ i:Nat,a[i]? =some p->∃ v,b[i]? =some v/\cY ab p v) (λi e=>by cases i<;>cases e) (λq v ø ø a ø k i e=>by
  cases i with
  |zero=>cases e;exact⟨v,rfl,a⟩
  |succ i=>exact k i e) i
theorem Cv {ab:aT} {ps:List PV}:∀ {vs:List Value},ps.length=vs.length->(∀ (i:Nat) (p:PV),ps[i]? =some p->∃ v,vs[i]? =some v/\cY ab p v)->aU ab ps vs:=by
 induction ps with
 |nil=>intro vs hl h;cases vs with
  |nil=>trivial
  |cons=>cases hl
 |cons p ps ih=>intro vs hl h;cases vs with
  |nil=>cases hl
  |cons v vs=>
   obtain⟨v',h1,h2⟩:=h 0 p rfl
   cases h1
   exact⟨h2,ih (Nat.succ.inj hl) λi=>h (i+1)⟩
theorem aU.append {ab:aT} {ps qs:List PV} {vs ws:List Value} (h:aU ab ps vs) (k:aU ab qs ws):aU ab (ps++qs) (vs++ws):=
 h.ind (P:=λa b=>aU ab (a++qs) (b++ws)) k λø ø ø ø a ø i=>⟨a,i⟩
theorem aU.set {ab:aT} {p:PV} {v:Value} (d:cY ab p v) {ps:List PV} {vs:List Value} (i:Nat) (h:aU ab ps vs):aU ab (ps.set i p) (vs.set i v):=
 h.ind (P:=λa b=>∀ i,aU ab (a.set i p) (b.set i v)) (λø=>trivial) (λø ø ø ø a b k i=>by
  cases i with
  |zero=>exact⟨d,b⟩
  |succ i=>exact⟨a,k i⟩) i
theorem aU.reverse {ab:aT} {ps:List PV} {vs:List Value} (h:aU ab ps vs):aU ab ps.reverse vs.reverse:=
 h.ind (P:=λa b=>aU ab a.reverse b.reverse) trivial λø ø ø ø a ø i=>by rw[List.reverse_cons,List.reverse_cons];exact i.append ⟨a,trivial⟩
noncomputable abbrev bN (vs:List Value) (n:Nat):Obj:={cls:=.type "list",dict:=none,data:=.seq vs.toArray n,slots:=#[]}
noncomputable abbrev tX (vs:List Value) (n:Nat):Obj:={cls:=.type "tuple",dict:=none,data:=.seq vs.toArray n,slots:=#[]}
noncomputable abbrev GQ (a b c:Int) (t u v:Tok):Obj:={cls:=.type "range",dict:=none,data:=.fields #[.int a t,.int b u,.int c v],slots:=#[]}
noncomputable abbrev mW (l:Addr) (i:Nat):Obj:={cls:=.type "list_iterator",dict:=none,data:=.fields #[.ref l,.int i 0],slots:=#[]}
noncomputable abbrev rP:=Nat->List Addr->Obj->Prop
noncomputable def lI (ab:aT):List Nat->List Addr->Prop
 | [],[]=>True
 |i::is,a::as=>ab[i]? =some a/\lI ab is as
 |_,_=>False
theorem gU {ab aj:aT} (E:mx ab aj) {is:List Nat}:∀ {as:List Addr},lI ab is as->lI aj is as:=by
 induction is with
 |nil=>intro as h;cases as with
  |nil=>exact h
  |cons a as=>exact h
 |cons i is ih=>intro as h;cases as with
  |nil=>exact h
  |cons a as=>exact⟨E _ _ h.1,ih h.2⟩
open PySem.Spec in
structure Cx where
 prog:Program
 w:World
 h₀:Heap
 cs:rP
 D:Addr->Option Spec
 DC:Nat->List Nat->Option Spec
 G:Nat->Option PV
 T:Addr->Option (List (PyData×PyData))
 EN:Nat->Prop
 RV:Nat->Prop
 XE:Nat->Option Expr
 XW:Nat->(PV->St->Prop)->St->Prop
 SE:Nat->Stmt->List (Nat×NameKind)->Prop
 SW:Nat->(PF->St->Prop)->St->Prop
 fr:List Env
 tb:Nat->Option Addr
noncomputable def Cx.at (cx:Cx) (fr:List Env):Cx:={cx with fr:=fr}
noncomputable def eP (o:Obj):Bool:=match o.data with
 |.dict _ _=>true
 |_=>false
noncomputable def FF (h₀ h:Heap):List Env->Prop
 | []=>True
 |env::r=>(env.scope.kind≠ .module/\∃ L o,env.frame=some L/\h₀.get? L=none/\h.get? L=some o/\eP o=true)/\FF h₀ h r
theorem FF.keep {h₀ h h':Heap} (k:∀ b o,h₀.get? b=none->h.get? b=some o->eP o=true->∃ o',h'.get? b=some o'/\eP o'=true) {l:List Env}:FF h₀ h l->FF h₀ h' l:=by
 induction l with
 |nil=>exact id
 |cons e r ih=>
  rintro⟨⟨a,L,o,b,c,d,e⟩,r⟩
  obtain⟨o',d',e'⟩:=k L o c d e
  exact⟨⟨a,L,o',b,c,d',e'⟩,ih r⟩
theorem iC {h:Heap} {a:Addr} {m:Str->Option Value} (n:h.Ns a m):∃ o,h.get? a=some o/\eP o=true:=by
 obtain⟨o,_,_,e,d,_⟩:=n
 exact⟨o,e,by unfold eP;rw[d]⟩
noncomputable def cN (cx:Cx) (ab:aT) (ob:Obj):PO->Prop
 |.list xs=>∃ vs n,aU ab xs vs/\ob=bN vs n
 |.tup xs=>∃ vs n,aU ab xs vs/\ob=tX vs n
 |.cell .none=>ob.data=.cell none
 |.cell (some p)=>∃ v,cY ab p v/\ob.data=.cell (some v)
 |.rng a c k=>∃ b t u v,ob=GQ a b c t u v/\Builtin.Range.small a b c=true/\Builtin.Range.rangeSize a b c=(k:Int)
 |.lit l i=>∃ al,ab[l]? =some al/\ob=mW al i
 |.clo k dk=>∃ as,lI ab dk as/\cx.cs k as ob/\ob.isFreed=false/\eP ob=false
 |.code q=>∃ vs t,ob.data=.fields vs/\vs[1]? =some (.str q t)/\ob.isFreed=false
 |.ctab _ .none=>ob=tabObj #[]
 |.ctab p (some j)=>∃ c,ab[j]? =some c/\ob=tabObj #[rawInt p.line,rawInt p.col,.ref c]
 |.junk=>ob.isFreed=false/\eP ob=false
 |.slist xs o=>∃ vs n,aU ab xs vs/\ob.cls=.type "list"/\ob.data=.seq vs.toArray n/\o=ob
theorem cN.mono {cx:Cx} {ab aj:aT} (E:mx ab aj) {ob:Obj}:∀ {o:PO},cN cx ab ob o->cN cx aj ob o:=λ{o}=>by
 cases o with
 |list ø=>
  intro h
  obtain⟨vs,n,d,e⟩:=h
  exact⟨vs,n,d.mono E,e⟩
 |tup ø=>
  intro h
  obtain⟨vs,n,d,e⟩:=h
  exact⟨vs,n,d.mono E,e⟩
 |cell v=>
  cases v with
  |none=>
   intro h
   exact h
  |some ø=>
   intro h
   obtain⟨v,d,e⟩:=h
   exact⟨v,d.mono E,e⟩
 |rng ø ø ø=>
  intro h
  exact h
 |lit ø ø=>
  intro h
  obtain⟨al,d,e⟩:=h
  exact⟨al,E _ _ d,e⟩
 |clo ø ø=>
  intro h
  obtain⟨as,d,e⟩:=h
  exact⟨as,gU E d,e⟩
 |code ø=>
  intro h
  exact h
 |ctab ø v=>
  cases v with
  |none=>
   intro h
   exact h
  |some ø=>
   intro h
   obtain⟨c,d,e⟩:=h
   exact⟨c,E _ _ d,e⟩
 |junk=>
  intro h
  exact h
 |slist ø ø=>
  intro h
  obtain⟨vs,n,d,e⟩:=h
  exact⟨vs,n,d.mono E,e⟩
theorem cN.live {cx:Cx} {ab:aT} {ob:Obj}:∀ {o:PO},cN cx ab ob o->ob.isFreed=false:=λ{o}=>by
 cases o with
 |list ø=>
  intro h
  obtain⟨_,_,_,e⟩:=h
  subst e;rfl
 |tup ø=>
  intro h
  obtain⟨_,_,_,e⟩:=h
  subst e;rfl
 |cell v=>
  cases v with
  |none=>
   intro h
   have h:ob.data=_:=h;obtain⟨c,d,dt,sl⟩:=ob;subst h;rfl
  |some ø=>
   intro h
   obtain⟨_,_,h⟩:=h
   obtain⟨c,d,dt,sl⟩:=ob;subst h;rfl
 |rng ø ø ø=>
  intro h
  obtain⟨_,_,_,_,e,_⟩:=h
  subst e;rfl
 |lit ø ø=>
  intro h
  obtain⟨_,_,e⟩:=h
  subst e;rfl
 |clo ø ø=>
  intro h
  obtain⟨_,_,_,e,_⟩:=h
  exact e
 |code ø=>
  intro h
  obtain⟨_,_,_,_,e⟩:=h
  exact e
 |ctab ø v=>
  cases v with
  |none=>
   intro h
   have e:=h
   have e:_=_:=e;subst e;rfl
  |some ø=>
   intro h
   obtain⟨_,_,e⟩:=h
   subst e;rfl
 |junk=>
  intro h
  exact h.1
 |slist ø ø=>
  intro h
  obtain⟨_,_,_,_,e,_⟩:=h
  exact PySem.Obj.isFreed_of_seq e
theorem cN.notD {cx:Cx} {ab:aT} {ob:Obj}:∀ {o:PO},cN cx ab ob o->eP ob=false:=λ{o}=>by
 cases o with
 |list ø=>
  intro h
  obtain⟨_,_,_,e⟩:=h
  subst e;rfl
 |tup ø=>
  intro h
  obtain⟨_,_,_,e⟩:=h
  subst e;rfl
 |cell v=>
  cases v with
  |none=>
   intro h
   have h:ob.data=_:=h;unfold eP;rw[h]
  |some ø=>
   intro h
   obtain⟨_,_,h⟩:=h
   unfold eP;rw[h]
 |rng ø ø ø=>
  intro h
  obtain⟨_,_,_,_,e,_⟩:=h
  subst e;rfl
 |lit ø ø=>
  intro h
  obtain⟨_,_,e⟩:=h
  subst e;rfl
 |clo ø ø=>
  intro h
  obtain⟨_,_,_,_,e⟩:=h
  exact e
 |code ø=>
  intro h
  obtain⟨_,_,e,_,_⟩:=h
  unfold eP;rw[e]
 |ctab ø v=>
  cases v with
  |none=>
   intro h
   have e:=h
   have e:_=_:=e;subst e;rfl
  |some ø=>
   intro h
   obtain⟨_,_,e⟩:=h
   subst e;rfl
 |junk=>
  intro h
  exact h.2
 |slist ø ø=>
  intro h
  obtain⟨_,_,_,_,e,_⟩:=h
  unfold eP;rw[e]
structure aH (cx:Cx) (env:Env) (ab:aT) (σ:St) (h:Heap):Prop where
 keep:∀ b o,cx.h₀.get? b=some o->h.get? b=some o
 off:∀ (i:Nat) (a:Addr),ab[i]? =some a->cx.h₀.get? a=none
 offL:cx.h₀.get? env.locals=none
 inj:∀ (i j:Nat) (a:Addr),ab[i]? =some a->ab[j]? =some a->i=j
 notL:∀ (i:Nat) (a:Addr),ab[i]? =some a->a≠env.locals
 len:ab.length=σ.hp.length
 obj:∀ (i:Nat) (o:PO),σ.hp[i]? =some o->∃ a ob,ab[i]? =some a/\h.get? a=some ob/\cN cx ab ob o
 loc:∃ m,h.Ns env.locals m/\∀ x p,σ.loc.get x=some p->∃ v,m (nm x)=some v/\cY ab p v
 cel:∀ (x i:Nat),look σ.ce x=some i->∃ a,ab[i]? =some a/\env.cells.lookup (nm x)=some a
 ff:FF cx.h₀ h cx.fr
 tb:∀ (i:Nat) (a:Addr),cx.tb i=some a->ab[i]? =some a
structure Step (L:Addr) (ab:aT) (h:Heap) (aj:aT) (h':Heap):Prop where
 ext:mx ab aj
 fresh:∀ (i:Nat) (a:Addr),aj[i]? =some a->ab[i]? =some a\/h.get? a=none
 live:∀ b,(h.get? b).isSome=true->(h'.get? b).isSome=true
 frame:∀ b o,h.get? b=some o->b≠L->(∀ i:Nat,ab[i]? ≠some b)->∃ sl,h'.get? b=some {o with slots:=sl}/\(eP o=false->sl=o.slots)
theorem Step.refl (L:Addr) (ab:aT) (h:Heap):Step L ab h ab h:=⟨.refl _,λø ø e=>.inl e,λø e=>e,λø o e ø ø=>⟨o.slots,e,λø=>rfl⟩⟩
theorem Step.trans {L:Addr} {ab ag aM:aT} {h ai bf:Heap} (a:Step L ab h ag ai) (b:Step L ag ai aM bf):Step L ab h aM bf:=by
 refine⟨a.ext.trans b.ext,λi x e=>?_,λy e=>b.live y (a.live y e),λy o e hL hn=>?_⟩
 .rcases b.fresh i x e with e'|e'
  .exact a.fresh i x e'
  .cases q:h.get? x with
   |none=>exact .inr rfl
   |some o=>have:=a.live x (by rw[q];rfl);rw[e'] at this;cases this
 .obtain⟨sl,e1,e2⟩:=a.frame y o e hL hn
  obtain⟨GR,e3,e4⟩:=b.frame y _ e1 hL λi q=>by
   rcases a.fresh i y q with e'|e'
   .exact hn i e'
   .rw[e] at e';cases e'
  exact⟨GR,e3,λq=>(e4 q).trans (e2 q)⟩
theorem Step.exact {L:Addr} {ab aj:aT} {h h':Heap} (a:Step L ab h aj h') {b:Addr} {o:Obj} (e:h.get? b=some o) (hL:b≠L) (hn:∀ i:Nat,ab[i]? ≠some b) (d:eP o=false):h'.get? b=some o:=by
 obtain⟨sl,e1,e2⟩:=a.frame b o e hL hn
 rw[e1,e2 d]
theorem Step.ns {L:Addr} {ab aj:aT} {h h':Heap} (a:Step L ab h aj h') {b:Addr} {m:Str->Option Value} (e:h.Ns b m) (hL:b≠L) (hn:∀ i:Nat,ab[i]? ≠some b):h'.Ns b m:=by
 obtain⟨o,es,ep,e1,e2,e3⟩:=e
 obtain⟨sl,e4,_⟩:=a.frame b o e1 hL hn
 exact⟨_,es,ep,e4,e2,e3⟩
theorem j1 {h h':Heap} (hk:∀ b o,h.get? b=some o->h'.get? b=some o) (b:Addr) (e:(h.get? b).isSome=true):(h'.get? b).isSome=true:=by
 obtain⟨o,q⟩:=ZJ.mp e
 rw[hk b o q];rfl
theorem aO {h:Heap} {a:Addr} (l:h.objs.size<=a):h.get? a=none:=by
 cases q:h.get? a with
 |none=>rfl
 |some o=>exact absurd (aaC q) (Nat.not_lt.mpr l)
section
variable {cx:Cx} {env:Env} {ab:aT} {σ:St} {h h':Heap}
theorem aH.here (R:aH cx env ab σ h) {i:Nat} {a:Addr} (e:ab[i]? =some a):∃ o ob,σ.hp[i]? =some o/\h.get? a=some ob/\cN cx ab ob o:=by
 obtain⟨l,_⟩:=Zv.mp e
 have l':i<σ.hp.length:=R.len▸l
 obtain⟨a',ob,e1,e2,e3⟩:=R.obj i σ.hp[i] (by simp [l'])
 rw[e] at e1;cases e1
 exact⟨_,ob,by simp [l'],e2,e3⟩
theorem aH.at (R:aH cx env ab σ h) {i:Nat} {a:Addr} {o:PO} (e:ab[i]? =some a) (ho:σ.hp[i]? =some o):∃ ob,h.get? a=some ob/\cN cx ab ob o:=by
 obtain⟨a',ob,e1,e2,e3⟩:=R.obj i o ho
 rw[e] at e1;cases e1
 exact⟨ob,e2,e3⟩
theorem aH.lt (R:aH cx env ab σ h) {i:Nat} {a:Addr} (e:ab[i]? =some a):a<h.objs.size:=by
 obtain⟨_,ob,_,e2,_⟩:=R.here e
 exact aaC e2
theorem aH.ltL (R:aH cx env ab σ h):env.locals<h.objs.size:=by obtain⟨_,hn,_⟩:=R.loc;exact hn.lt
theorem aH.grow (R:aH cx env ab σ h) (hk:∀ b o,h.get? b=some o->h'.get? b=some o):aH cx env ab σ h'/\Step env.locals ab h ab h':=by
 refine⟨⟨λb o e=>hk b o (R.keep b o e),R.off,R.offL,R.inj,R.notL,R.len,λi o e=>?_,?_,R.cel,R.ff.keep λb o ø e d=>⟨o,hk b o e,d⟩,R.tb⟩,⟨.refl _,λø ø e=>.inl e,j1 hk,λb o e ø ø=>⟨o.slots,hk b o e,λø=>rfl⟩⟩⟩
 .obtain⟨a,ob,e1,e2,e3⟩:=R.obj i o e
  exact⟨a,ob,e1,hk _ _ e2,e3⟩
 .obtain⟨m,hn,hm⟩:=R.loc
  exact⟨m,hn.keeps hk,hm⟩
theorem aH.alloc (R:aH cx env ab σ h) {ob:Obj} {o:PO} (ho:cN cx (ab++[h.objs.size]) ob o):
  aH cx env (ab++[h.objs.size]) {σ with hp:=σ.hp++[o]} (h.push ob)/\Step env.locals ab h (ab++[h.objs.size]) (h.push ob):=by
 have hk:∀ b x,h.get? b=some x->(h.push ob).get? b=some x:=λb x e=>ZX _ e
 have hE:mx ab (ab++[h.objs.size]):=.snoc _ _
 have oC:∀ (i:Nat) (a:Addr),(ab++[h.objs.size])[i]? =some a->(ab[i]? =some a)\/(i=ab.length/\a=h.objs.size):=λi a e=>c6 e
 have new:cx.h₀.get? h.objs.size=none:=by
  cases q:cx.h₀.get? h.objs.size with
  |none=>rfl
  |some o=>exact absurd (aaC (R.keep _ _ q)) (aaw _)
 refine⟨⟨λb o e=>hk b o (R.keep b o e),λi a e=>?_,R.offL,λi j a e1 e2=>?_,λi a e=>?_,by simp [R.len],λi o' e=>?_,?_,λx i e=>?_,R.ff.keep λb o ø e d=>⟨o,hk b o e,d⟩,λi a e=>hE _ _ (R.tb i a e)⟩,⟨hE,λi a e=>?_,j1 hk,λb o e ø ø=>⟨o.slots,hk b o e,λø=>rfl⟩⟩⟩
 .rcases oC i a e with q|⟨_,rfl⟩
  .exact R.off i a q
  .exact new
 .rcases oC i a e1 with q1|⟨rfl,q1⟩<;>rcases oC j a e2 with q2|⟨rfl,q2⟩
  .exact R.inj i j a q1 q2
  .subst q2;exact absurd (R.lt q1) (aaw _)
  .subst q1;exact absurd (R.lt q2) (aaw _)
  .rfl
 .rcases oC i a e with q|⟨_,rfl⟩
  .exact R.notL i a q
  .exact aam R.ltL
 .dsimp only at e
  rcases c6 e with e|⟨rfl,rfl⟩
  .obtain⟨a,tT,e1,e2,e3⟩:=R.obj i o' e
   exact⟨a,tT,hE _ _ e1,hk _ _ e2,e3.mono hE⟩
  .exact⟨h.objs.size,ob,by rw[<-R.len];exact ZR,aai _ ho.live,ho⟩
 .obtain⟨m,hn,hm⟩:=R.loc
  exact⟨m,hn.keeps hk,λx p e=>(hm x p e).imp λø=>aaa (.mono hE)⟩
 .obtain⟨a,b,c⟩:=R.cel x i e
  exact⟨a,hE _ _ b,c⟩
 .rcases oC i a e with q|⟨_,rfl⟩
  .exact .inl q
  .exact .inr (aO (ZA _))
theorem aH.write (R:aH cx env ab σ h) {i:Nat} {a:Addr} {ob:Obj} {o:PO} (ha:ab[i]? =some a) (hs:Heap.SameBut a h h') (hg:h'.get? a=some ob) (ho:cN cx ab ob o):
  aH cx env ab {σ with hp:=σ.hp.set i o} h'/\Step env.locals ab h ab h':=by
 have aL:=R.notL i a ha
 refine⟨⟨λb x e=>?_,R.off,R.offL,R.inj,R.notL,by simp [R.len],λj o' e=>?_,?_,R.cel,R.ff.keep λb x ø e d=>⟨x,(hs.2 b λq=>by
   obtain⟨_,tT,_,z1,z2⟩:=R.here ha
   subst q;rw[e] at z1;cases z1;rw[z2.notD] at d;cases d).trans e,d⟩,R.tb⟩,⟨.refl _,λø ø e=>.inl e,λb e=>?_,λb x e ø hn=>⟨x.slots,(hs.2 b λq=>hn i (q▸ha)).trans e,λø=>rfl⟩⟩⟩
 .refine(hs.2 b λq=>?_).trans (R.keep b x e)
  subst q;rw[R.off i _ ha] at e;cases e
 .dsimp only at e
  rw[List.getElem?_set] at e
  by_cases kP:i=j
  .subst kP
   rw[if_pos rfl] at e
   split at e
   .cases e;exact⟨a,ob,ha,hg,ho⟩
   .cases e
  .rw[if_neg kP] at e
   obtain⟨a',tT,e1,e2,e3⟩:=R.obj j o' e
   exact⟨a',tT,e1,(hs.2 a' λq=>kP (R.inj i j a ha (q▸e1))).trans e2,e3⟩
 .obtain⟨m,hn,hm⟩:=R.loc
  exact⟨m,hn.sameBut hs aL.symm,hm⟩
 .by_cases q:b=a
  .subst q;rw[hg];rfl
  .rw[hs.2 b q];exact e
theorem aH.store (R:aH cx env ab σ h) {x:Nat} {p:PV} {v:Value} {m:Str->Option Value} (hm:∀ x p,σ.loc.get x=some p->∃ v,m (nm x)=some v/\cY ab p v) (hs:Heap.SameBut env.locals h h') (yV:h'.Ns env.locals (λy=>if y=nm x then some v else m y)) (hd:cY ab p v):
  aH cx env ab {σ with loc:=σ.loc.set x p} h'/\Step env.locals ab h ab h':=by
 refine⟨⟨λb o e=>?_,R.off,R.offL,R.inj,R.notL,R.len,λj o' e=>?_,?_,R.cel,R.ff.keep λb ox ø e d=>?_,R.tb⟩,⟨.refl _,λø ø e=>.inl e,λb e=>?_,λb x e hL ø=>⟨x.slots,(hs.2 b hL).trans e,λø=>rfl⟩⟩⟩
 .refine(hs.2 b λq=>?_).trans (R.keep b o e)
  subst q;rw[R.offL] at e;cases e
 .obtain⟨a',tT,e1,e2,e3⟩:=R.obj j o' e
  exact⟨a',tT,e1,(hs.2 a' (R.notL j a' e1)).trans e2,e3⟩
 .refine⟨_,yV,λy q e=>?_⟩
  dsimp only at e
  rw[Loc.get_set] at e
  by_cases hy:y=x
  .subst hy;rw[if_pos rfl] at e;cases e;exact⟨v,if_pos rfl,hd⟩
  .rw[if_neg hy] at e
   have:nm y≠nm x:=λq=>hy (kO q)
   obtain⟨u,h1,h2⟩:=hm y q e
   exact⟨u,(if_neg this).trans h1,h2⟩
 .by_cases q:b=env.locals
  .subst q;exact iC yV
  .exact⟨ox,(hs.2 b q).trans e,d⟩
 .by_cases q:b=env.locals
  .obtain⟨o,_,_,ho,_⟩:=yV
   rw[q,ho];rfl
  .rw[hs.2 b q];exact e
end
end Mine
namespace Mine
open PySem PySem.W PySem.Calls PyProof.Rows PySem.Builtin.Str PySem.Builtin.Int
set_option genCtorIdx true in
inductive Mt where
 |lower|append|extend|join|get|bit_length|count|reverse
noncomputable def Mt.name:Mt->Str
 |.lower=>Str.ofString "lower" |.append=>Str.ofString "append" |.extend=>Str.ofString "extend" |.join=>Str.ofString "join"
 |.get=>Str.ofString "get" |.bit_length=>Str.ofString "bit_length" |.count=>Str.ofString "count" |.reverse=>Str.ofString "reverse"
inductive gj where
 |name (x:Nat) (p:Pos)
 |cel (x:Nat) (p:Pos)
 |tup (xs:List (Nat×Pos)) (k:Nat) (p:Pos)
mutual
inductive PE where
 |int (i:Int) (p:Pos)
 |str (s:Str) (p:Pos)
 |none (p:Pos)
 |bool (b:Bool) (p:Pos)
 |loc (x:Nat) (p:Pos)
 |cel (x:Nat) (p:Pos)
 |glob (x:Nat) (p:Pos)
 |bin (op:Operator) (l r:PE) (p:Pos)
 |un (op:UnaryOp) (e:PE) (p:Pos)
 |cmp (op:CmpOp) (l r:PE) (p:Pos)
 |bop (op:PySem.BoolOp) (es:ca) (p:Pos)
 |ite (t a b:PE) (p:Pos)
 |call (f:PE) (bo:ca) (p:Pos)
 |meth (o:PE) (m:Mt) (ap:Pos) (bo:ca) (p:Pos)
 |sub (o i:PE) (p:Pos)
 |slice (o lo hi st:PE) (sp p:Pos)
 |absent
 |list (es:ca) (p:Pos)
 |tup (es:ca) (k:Nat) (p:Pos)
 |comp (bI:PE) (bU:gj) (it:PE) (iz:ca) (fr:List Nat) (sc:Scope) (p:Pos)
 |compEn (bI:PE) (bU:gj) (gx:Nat) (gp:Pos) (x:PE) (cp:Pos) (fr:List Nat) (sc:Scope) (p:Pos)
 |ext (k:Nat) (e:Expr)
inductive ca where
 |nil
 |cons (e:PE) (es:ca)
end
noncomputable def ca.isNil:ca->Bool
 |.nil=>true
 |.cons .. =>false
noncomputable def ca.hd:ca->PE
 |.nil=>.absent
 |.cons e _=>e
inductive PT where
 |name (x:Nat) (p:Pos)
 |cel (x:Nat) (p:Pos)
 |tup (xs:List (Nat×Pos)) (k:Nat) (p:Pos)
 |sub (o i:PE) (p:Pos)
mutual
inductive PS where
 |assign (t:PT) (e:PE) (p:Pos)
 |assign2 (t u:PT) (e:PE) (p:Pos)
 |aug (x:Nat) (np:Pos) (op:Operator) (e:PE) (p:Pos)
 |expr (e:PE) (p:Pos)
 |ite (t:PE) (body gB:ao) (p:Pos)
 |whl (t:PE) (body gB:ao) (p:Pos)
 |fo (t:gj) (it:PE) (body gB:ao) (p:Pos)
 |foRev (t:gj) (x:Nat) (xp:Pos) (it:PE) (ip:Pos) (body gB:ao) (p:Pos)
 |ret (e:PE) (p:Pos)
 |ret0 (p:Pos)
 |brk (p:Pos)
 |ext (k:Nat) (s:Stmt) (xs:List (Nat×NameKind))
inductive ao where
 |nil
 |cons (s:PS) (ss:ao)
end
noncomputable def gj.ex:gj->Expr
 |.name x p=>.Name (nm x) p
 |.cel x p=>.Name (nm x) p
 |.tup xs k p=>.Tuple (xs.map λy=>.Name (nm y.1) y.2) k p
mutual
noncomputable def PE.ex:PE->Expr
 |.int i p=>.Constant (.int i) 0 p
 |.str s p=>.Constant (.str s) 0 p
 |.none p=>.Constant .none 0 p
 |.bool b p=>.Constant (.bool b) 0 p
 |.loc x p=>.Name (nm x) p
 |.cel x p=>.Name (nm x) p
 |.glob x p=>.Name (nm x) p
 |.bin op l r p=>.BinOp l.ex op r.ex p
 |.un op e p=>.UnaryOp op e.ex p
 |.cmp op l r p=>.Compare l.ex [op] [r.ex] p
 |.bop op es p=>.BoolOp op es.ex p
 |.ite t a b p=>.IfExp t.ex a.ex b.ex p
 |.call f bo p=>.Call f.ex bo.ex [] p
 |.meth o m ap bo p=>.Call (.Attribute o.ex m.name ap) bo.ex [] p
 |.sub o i p=>.Subscript o.ex i.ex p
 |.slice o lo hi st sp p=>.Subscript o.ex (.Slice lo.exO hi.exO st.exO sp) p
 |.absent=>.Constant .none 0 ⟨0,0,0,0⟩
 |.list es p=>.List es.ex p
 |.tup es k p=>.Tuple es.ex k p
 |.comp bI bU it iz _ sc p=>.ListComp bI.ex [⟨bU.ex,it.ex,iz.ex,0⟩] sc p
 |.compEn bI bU gx gp x cp _ sc p=>.ListComp bI.ex [⟨bU.ex,.Call (.Name (nm gx) gp) [x.ex] [] cp,[],0⟩] sc p
 |.ext _ e=>e
noncomputable def PE.exO:PE->Option Expr
 |.absent=>Option.none
 |.int i p=>some (.Constant (.int i) 0 p)
 |.loc x p=>some (.Name (nm x) p)
 |.un op e p=>some (.UnaryOp op e.ex p)
 |.bop op es p=>some (.BoolOp op es.ex p)
 |_=>Option.none
noncomputable def ca.ex:ca->List Expr
 |.nil=>[]
 |.cons e es=>e.ex::es.ex
end
noncomputable def PT.ex:PT->Expr
 |.name x p=>.Name (nm x) p
 |.cel x p=>.Name (nm x) p
 |.tup xs k p=>.Tuple (xs.map λy=>.Name (nm y.1) y.2) k p
 |.sub o i p=>.Subscript o.ex i.ex p
mutual
noncomputable def PS.st:PS->Stmt
 |.assign t e p=>.Assign [t.ex] e.ex p
 |.assign2 t u e p=>.Assign [t.ex,u.ex] e.ex p
 |.aug x np op e p=>.AugAssign (.Name (nm x) np) op e.ex p
 |.expr e p=>.Expr e.ex p
 |.ite t body gB p=>.If t.ex body.sts gB.sts p
 |.whl t body gB p=>.While t.ex body.sts gB.sts p
 |.fo t it body gB p=>.For t.ex it.ex body.sts gB.sts p
 |.foRev t x xp it ip body gB p=>.For t.ex (.Call (.Name (nm x) xp) [it.ex] [] ip) body.sts gB.sts p
 |.ret e p=>.Return (some e.ex) p
 |.ret0 p=>.Return none p
 |.brk p=>.Break p
 |.ext _ s _=>s
noncomputable def ao.sts:ao->List Stmt
 |.nil=>[]
 |.cons s ss=>s.st::ss.sts
end
noncomputable def kdOf (sc:Scope) (x:Nat):Nat:=match sc.names.lookup (nm x) with
 |some .local=>1
 |some .cell=>2
 |some .free=>2
 |some .globalImplicit=>3
 |_=>0
noncomputable def gj.ok (sc:Scope):gj->Bool
 |.name x _=>kdOf sc x==1
 |.cel x _=>sc.names.lookup (nm x)==some .cell
 |.tup xs _ _=>xs.all λy=>kdOf sc y.1==1
noncomputable def gj.isTup:gj->Bool
 |.tup .. =>true
 |_=>false
noncomputable def PE.noExt:PE->Bool
 |.ext .. =>false
 |_=>true
noncomputable def PE.isName:PE->Bool
 |.loc .. |.cel .. |.glob .. =>true
 |_=>false
noncomputable def PE.noCall:PE->Bool
 |.loc .. |.cel .. |.str .. |.glob .. =>true
 |_=>false
noncomputable def PE.partOk:PE->Bool
 |.absent|.int .. |.loc .. |.un .. |.bop .. =>true
 |_=>false
noncomputable def kQ (fr:List Nat) (sc:Scope):Bool:=
 sc.kind== .function&&sc.names.all (λy=>y.2 != .cell)&&sc.names.all (λy=>y.2 != .local||sc.names.lookup y.1==some .local)
  &&((sc.names.filter λy=>y.2== .free).map (·.1)==fr.map nm)
mutual
noncomputable def PE.ok (sc:Scope):PE->Bool
 |.loc x _=>kdOf sc x==1&&nm x !=Str.ofString "__debug__"
 |.cel x _=>kdOf sc x==2&&nm x !=Str.ofString "__debug__"&&nm x !=Str.ofString "__classdict__"
 |.glob x _=>kdOf sc x==3&&nm x !=Str.ofString "__debug__"
 |.bin _ l r _=>l.ok sc&&r.ok sc
 |.un _ e _=>e.ok sc
 |.cmp _ l r _=>l.ok sc&&r.ok sc&&r.noExt
 |.bop _ es _=>es.ok sc
 |.ite t a b _=>t.ok sc&&a.ok sc&&b.ok sc
 |.call f bo _=>f.ok sc&&bo.ok sc&&f.isName
 |.meth o _ ap bo p=>o.ok sc&&bo.ok sc&&o.noCall&&(ap.endLine==p.line)&&decide (bo.ex.length<30)
 |.sub o i _=>o.ok sc&&i.ok sc&&i.noExt
 |.slice o lo hi st _ _=>o.ok sc&&lo.ok sc&&hi.ok sc&&st.ok sc&&lo.partOk&&hi.partOk&&st.partOk
 |.list es _=>es.ok sc
 |.tup es _ _=>es.ok sc
 |.comp bI bU it iz fr fp _=>it.ok sc&&it.noExt&&kQ fr fp&&bI.ok fp&&bU.ok fp&&iz.ok fp
 |.compEn bI bU gx _ x _ fr fp _=>x.ok sc&&x.noExt&&kdOf sc gx==3&&nm gx !=Str.ofString "__debug__"&&kQ fr fp&&bI.ok fp&&bU.ok fp&&bU.isTup
 |.ext _ _=>kdOf sc 122==3
 |.int .. |.str .. |.none .. |.bool .. |.absent=>true
noncomputable def ca.ok (sc:Scope):ca->Bool
 |.nil=>true
 |.cons e es=>e.ok sc&&e.noExt&&es.ok sc
end
noncomputable def PT.ok (sc:Scope):PT->Bool
 |.name x _=>kdOf sc x==1
 |.cel x _=>sc.names.lookup (nm x)==some .cell
 |.tup xs _ _=>xs.all λy=>kdOf sc y.1==1
 |.sub o i _=>o.ok sc&&i.ok sc
noncomputable def PT.isNm:PT->Bool
 |.name .. =>true
 |_=>false
noncomputable def PE.isCall:PE->Bool
 |.call .. |.meth .. =>true
 |_=>false
noncomputable def vq:List (Nat×Pos)->ca->Bool
 | [(x,p),(y,q)],.cons a (.cons b .nil)=>x !=y&&p.line==q.line&& !(constantsAlone 8 a.ex&&constantsAlone 8 b.ex)&& !(foldedForSure 8 a.ex&&foldedForSure 8 b.ex)&&a.noExt&&b.noExt
 |_,_=>false
noncomputable def mX (t:PT) (e:PE):Bool:=match t with
 |.tup xs _ _=>(match e with
   |.tup es _ _=>vq xs es
   |.comp .. |.compEn .. =>false
   |_=>true)
 |_=>true
mutual
noncomputable def PS.ok (sc:Scope):PS->Bool
 |.assign t e _=>t.ok sc&&e.ok sc&&e.noExt&&mX t e
 |.assign2 t u e _=>t.ok sc&&u.ok sc&&e.ok sc&&t.isNm&&u.isNm
 |.aug x _ _ e _=>kdOf sc x==1&&e.ok sc
 |.expr e _=>e.ok sc&&e.isCall
 |.ite t b e _=>t.ok sc&&b.ok sc&&e.ok sc
 |.whl t b e _=>t.ok sc&&b.ok sc&&e.ok sc
 |.fo t it b e _=>t.ok sc&&it.ok sc&&it.noExt&&b.ok sc&&e.ok sc
 |.foRev t x _ it _ b e _=>t.ok sc&&(kdOf sc x==3)&&nm x !=Str.ofString "__debug__"&&it.ok sc&&it.noExt&&b.ok sc&&e.ok sc
 |.ret e _=>e.ok sc
 |.ext _ _ xs=>xs.all λy=>sc.names.lookup (nm y.1)==some y.2
 |_=>true
noncomputable def ao.ok (sc:Scope):ao->Bool
 |.nil=>true
 |.cons s ss=>s.ok sc&&ss.ok sc
end
noncomputable abbrev bu:=PV->St->Prop
noncomputable def push (o:PO) (Q:bu) (σ:St):Prop:=Q (.ref σ.hp.length) {σ with hp:=σ.hp++[o]}
noncomputable def aV (n:Nat):Prop:=n<=1000000
noncomputable abbrev bl (a:Int):Nat:=Builtin.Int.intBits a
noncomputable def binI (op:Operator) (a b:Int) (Q:bu) (σ:St):Prop:=match op with
 |.Add=>Q (.int (a+b)) σ
 |.Sub=>Q (.int (a-b)) σ
 |.Mult=>bl a+bl b<=134217728/\Q (.int (a*b)) σ
 |.FloorDiv=>b≠0/\bl b<=9000/\Q (.int (a.fdiv b)) σ
 |.Mod=>b≠0/\Q (.int (a.fmod b)) σ
 |.Pow=>0<=b/\(bl a:Int)*b<=134217728/\Q (.int (a^b.toNat)) σ
 |.LShift=>0<=b/\(bl a:Int)+b<=134217728/\Q (.int (a*2^b.toNat)) σ
 |.RShift=>0<=b/\Q (.int (a.fdiv (2^b.toNat))) σ
 |.BitAnd=>Q (.int (Builtin.bitAnd a b)) σ
 |.BitOr=>Q (.int (Builtin.bitOr a b)) σ
 |.BitXor=>Q (.int (Builtin.bitXor a b)) σ
 |_=>False
noncomputable def yW (xs:List PV):Nat->List PV
 |0=>[]
 |n+1=>xs++yW xs n
noncomputable def yX (op:Operator) (a b:PV) (Q:bu) (σ:St):Prop:=match a,b with
 |.int a,.int b=>binI op a b Q σ
 |.str a,.str b=>(match op with
   |.Add=>aV (a.length+b.length)/\Q (.str (a++b)) σ
   |_=>False)
 |.str a,.int n=>(match op with
   |.Mult=>0<=n/\n<=1000/\a.length<=1000/\Q (.str (Txt.mul a n)) σ
   |_=>False)
 |.ref i,.ref j=>(match op,σ.hp[i]?,σ.hp[j]? with
   |.Add,some (.list xs),some (.list ys)=>aV (xs.length+ys.length)/\push (.list (xs++ys)) Q σ
   |_,_,_=>False)
 |.ref i,.int n=>(match op,σ.hp[i]? with
   |.Mult,some (.list xs)=>0<=n/\aV (xs.length*n.toNat)/\n<=1000000/\push (.list (yW xs n.toNat)) Q σ
   |_,_=>False)
 |_,_=>False
noncomputable def cS:List PV->Option (List Int)
 | []=>some []
 |.int i::r=>(cS r).map (i::.)
 |_::_=>none
noncomputable def cC:List PV->Option (List Str)
 | []=>some []
 |.str i::r=>(cC r).map (i::.)
 |_::_=>none
noncomputable def vr:List PV->Prop
 | []=>True
 |.str s::r=>PyData.strOk s=true/\vr r
 |_::r=>vr r
noncomputable def oI (xs ys:List PV):Option Bool:=match cS xs,cS ys with
 |some ns,some ms=>some (!decide (ns=ms))
 |_,_=>match cC xs,cC ys with
  |some ns,some ms=>some (!decide (ns=ms))
  |_,_=>none
noncomputable def Qc (op:CmpOp) (a b:Int) (Q:bu) (σ:St):Prop:=match op with
 |.Eq=>Q (.bool (a==b)) σ
 |.NotEq=>Q (.bool (a !=b)) σ
 |.Lt=>Q (.bool (decide (a<b))) σ
 |.LtE=>Q (.bool (decide (a<=b))) σ
 |.Gt=>Q (.bool (decide (b<a))) σ
 |.GtE=>Q (.bool (decide (b<=a))) σ
 |_=>False
noncomputable def xA (op:CmpOp) (a b:PV) (Q:bu) (σ:St):Prop:=match a,b with
 |.int a,.int b=>Qc op a b Q σ
 |.str a,.str b=>(match op with
   |.Eq=>Q (.bool (a==b)) σ
   |.NotEq=>Q (.bool (a !=b)) σ
   |_=>False)
 |.ref i,.ref j=>(match op,σ.hp[i]?,σ.hp[j]? with
   |.NotEq,some (.list xs),some (.list ys)=>(match oI xs ys with
     |some c=>vr xs/\vr ys/\Q (.bool c) σ
     |none=>False)
   |.Eq,some (.list xs),some (.list ys)=>(match cS xs,cS ys with
     |some ns,some ms=>Q (.bool (decide (ns=ms))) σ
     |_,_=>False)
   |_,_,_=>False)
 |.ref _,.none=>(match op with
   |.Is=>Q (.bool false) σ
   |_=>False)
 |.none,.none=>(match op with
   |.Is=>Q (.bool true) σ
   |_=>False)
 |_,_=>False
noncomputable def oJ (v:PV) (Q:Bool->St->Prop) (σ:St):Prop:=match v with
 |.bool b=>Q b σ
 |.int i=>Q (i !=0) σ
 |.str s=>aV s.length/\Q ((s.length:Int)!=0) σ
 |.none=>Q false σ
 |.ref i=>(match σ.hp[i]? with
   |some (.list xs)=>aV xs.length/\Q (!xs.isEmpty) σ
   |_=>False)
 |_=>False
noncomputable def pj (n:Nat) (k:Int):Nat:=if k<0 then(k+n).toNat else k.toNat
noncomputable def GS (o i:PV) (Q:bu) (σ:St):Prop:=match o,i with
 |.ref r,.int k=>(match σ.hp[r]? with
   |some (.list xs)=>(match xs[pj xs.length k]? with
     |some v=> -(xs.length:Int)<=k/\k.natAbs<=1000000/\Q v σ
     |none=>False)
   |_=>False)
 |.str s,.int k=>(match s.cps[pj s.length k]? with
   |some c=> -(s.length:Int)<=k/\k.natAbs<=1000000/\Q (.str ⟨#[c]⟩) σ
   |none=>False)
 |_,_=>False
noncomputable def tY:PV->Option (Option Int)
 |.none=>some none
 |.int i=>some (some i)
 |_=>none
noncomputable def fD (x:Str) (lo hi:Option Int):Str:=
 if(strSliceIndices lo hi 1 x.length).length==x.length then x else⟨((strSliceIndices lo hi 1 x.length).filterMap (x.cps[.]?)).toArray⟩
noncomputable def cG (xs:List PV) (lo hi st:Option Int):List PV:=
 (sliceRange (sliceBounds lo hi st xs.length).1 (sliceBounds lo hi st xs.length).2.1 (sliceBounds lo hi st xs.length).2.2).filterMap (xs[.]?)
noncomputable def mY (o lo hi st:PV) (Q:bu) (σ:St):Prop:=match tY lo,tY hi,tY st with
 |some lo,some hi,some st=>(match o with
   |.str s=>st=none/\aV s.length/\Q (.str (fD s lo hi)) σ
   |.ref r=>(match σ.hp[r]? with
     |some (.list xs)=>st≠some 0/\aV xs.length/\push (.list (cG xs lo hi st)) Q σ
     |some (.slist xs _)=>st≠some 0/\aV xs.length/\push (.list (cG xs lo hi st)) Q σ
     |_=>False)
   |_=>False)
 |_,_,_=>False
noncomputable def KV (o i v:PV) (Q:St->Prop) (σ:St):Prop:=match o,i with
 |.ref r,.int k=>(match σ.hp[r]? with
   |some (.list xs)=>0<=k/\k<xs.length/\k<=1000000/\Q {σ with hp:=σ.hp.set r (.list (xs.set k.toNat v))}
   |_=>False)
 |_,_=>False
noncomputable def Qd (op:UnaryOp) (v:PV) (Q:bu) (σ:St):Prop:=match op,v with
 |.USub,.int a=>Q (.int (-a)) σ
 |.Invert,.int a=>Q (.int (Builtin.bitNot a)) σ
 |_,_=>False
noncomputable def aa (ns:List Int):List PV:=ns.map .int
theorem b2 {a b:Bool} (h:(a&&b)=true):a=true/\b=true:=(aas ..).mp h
theorem b3 {a b c:Bool} (h:((a&&b)&&c)=true):(a=true/\b=true)/\c=true:=⟨b2 (b2 h).1,(b2 h).2⟩
theorem b4 {a b c d:Bool} (h:(((a&&b)&&c)&&d)=true):((a=true/\b=true)/\c=true)/\d=true:=⟨b3 (b2 h).1,(b2 h).2⟩
theorem b5 {a b c d e:Bool} (h:((((a&&b)&&c)&&d)&&e)=true):(((a=true/\b=true)/\c=true)/\d=true)/\e=true:=⟨b4 (b2 h).1,(b2 h).2⟩
theorem b6 {a b c d e f:Bool} (h:(((((a&&b)&&c)&&d)&&e)&&f)=true):((((a=true/\b=true)/\c=true)/\d=true)/\e=true)/\f=true:=⟨b5 (b2 h).1,(b2 h).2⟩
theorem b7 {a b c d e f g:Bool} (h:((((((a&&b)&&c)&&d)&&e)&&f)&&g)=true):(((((a=true/\b=true)/\c=true)/\d=true)/\e=true)/\f=true)/\g=true:=⟨b6 (b2 h).1,(b2 h).2⟩
theorem b8 {a b c d e f g k:Bool} (h:(((((((a&&b)&&c)&&d)&&e)&&f)&&g)&&k)=true):((((((a=true/\b=true)/\c=true)/\d=true)/\e=true)/\f=true)/\g=true)/\k=true:=⟨b7 (b2 h).1,(b2 h).2⟩
noncomputable def A0 (k:Prop):List PV->Prop
 | []=>k
 |_=>False
noncomputable def A1 (k:PV->Prop):List PV->Prop
 | [v]=>k v
 |_=>False
noncomputable def A2 (k:PV->PV->Prop):List PV->Prop
 | [v,u]=>k v u
 |_=>False
noncomputable def vI (k:Int->Prop):PV->Prop
 |.int a=>k a
 |_=>False
noncomputable def vS (k:Str->Prop):PV->Prop
 |.str a=>k a
 |_=>False
noncomputable def vR (k:Nat->Prop):PV->Prop
 |.ref a=>k a
 |_=>False
theorem A0.inv {k:Prop}:∀ {vs:List PV},A0 k vs->vs=[]/\k
 | [],h=>⟨rfl,h⟩
 |_::_,h=>h.elim
theorem A1.inv {k:PV->Prop}:∀ {vs:List PV},A1 k vs->∃ v,vs=[v]/\k v
 | [],h=>h.elim
 | [v],h=>⟨v,rfl,h⟩
 |_::_::_,h=>h.elim
theorem A2.inv {k:PV->PV->Prop}:∀ {vs:List PV},A2 k vs->∃ v u,vs=[v,u]/\k v u
 | [],h=>h.elim
 | [_],h=>h.elim
 | [v,u],h=>⟨v,u,rfl,h⟩
 |_::_::_::_,h=>h.elim
theorem vI.inv {k:Int->Prop} {v:PV} (h:vI k v):∃ a,v=.int a/\k a:=by
 cases v with
 |int a=>exact⟨a,rfl,h⟩
 |_=>exact h.elim
theorem vS.inv {k:Str->Prop} {v:PV} (h:vS k v):∃ a,v=.str a/\k a:=by
 cases v with
 |str a=>exact⟨a,rfl,h⟩
 |_=>exact h.elim
theorem vR.inv {k:Nat->Prop} {v:PV} (h:vR k v):∃ a,v=.ref a/\k a:=by
 cases v with
 |ref a=>exact⟨a,rfl,h⟩
 |_=>exact h.elim
theorem fg {o:Option PO} {A:List PV->Prop}:(match o with|some (.list v)=>A v|_=>False)->∃ v,o=some (.list v)/\A v:=by
 intro h
 cases o with
 |none=>exact h.elim
 |some p=>cases p with
  |list v=>exact⟨v,rfl,h⟩
  |_=>exact h.elim
theorem yY {o:Option PO} {A:List PV->Prop}:(match o with|some (.tup v)=>A v|_=>False)->∃ v,o=some (.tup v)/\A v:=by
 intro h
 cases o with
 |none=>exact h.elim
 |some p=>cases p with
  |tup v=>exact⟨v,rfl,h⟩
  |_=>exact h.elim
theorem KW {o:Option PO} {A:Int->Int->Nat->Prop}:(match o with|some (.rng a c n)=>A a c n|_=>False)->∃ a c n,o=some (.rng a c n)/\A a c n:=by
 intro h
 cases o with
 |none=>exact h.elim
 |some p=>cases p with
  |rng a c n=>exact⟨a,c,n,rfl,h⟩
  |_=>exact h.elim
theorem KY {o:Option PO} {A:Nat->Nat->Prop}:(match o with|some (.lit a c)=>A a c|_=>False)->∃ a c,o=some (.lit a c)/\A a c:=by
 intro h
 cases o with
 |none=>exact h.elim
 |some p=>cases p with
  |lit a c=>exact⟨a,c,rfl,h⟩
  |_=>exact h.elim
theorem Cw {o:Option PV} {A:PV->Prop}:(match o with|some v=>A v|none=>False)->∃ v,o=some v/\A v:=by
 intro h
 cases o with
 |none=>exact h.elim
 |some p=>exact⟨p,rfl,h⟩
theorem tZ {o:Option (List Int)} {A:(List Int)->Prop}:(match o with|some v=>A v|none=>False)->∃ v,o=some v/\A v:=by
 intro h
 cases o with
 |none=>exact h.elim
 |some p=>exact⟨p,rfl,h⟩
theorem GU {o:Option (List Str)} {A:(List Str)->Prop}:(match o with|some v=>A v|none=>False)->∃ v,o=some v/\A v:=by
 intro h
 cases o with
 |none=>exact h.elim
 |some p=>exact⟨p,rfl,h⟩
theorem KZ {o:Option (List (PyData×PyData))} {A:List (PyData×PyData)->Prop}:(match o with|some v=>A v|none=>False)->∃ v,o=some v/\A v:=by
 intro h
 cases o with
 |none=>exact h.elim
 |some p=>exact⟨p,rfl,h⟩
theorem vu {v:PV} {A:Nat->Prop} (h:match v with|.ref i=>A i|_=>False):∃ i,v=.ref i/\A i:=by
 cases v<;>first|exact False.elim h|exact⟨_,rfl,h⟩
theorem K0 {v:PV} {A:Int->Prop} (h:match v with|.int i=>A i|_=>False):∃ i,v=.int i/\A i:=by
 cases v<;>first|exact False.elim h|exact⟨_,rfl,h⟩
theorem K3 {o:Option PV} {A:Int->Prop} (h:match o with|some (.int a)=>A a|_=>False):∃ a,o=some (.int a)/\A a:=by
 rcases o with _|v
 .exact False.elim h
 cases v<;>first|exact False.elim h|exact⟨_,rfl,h⟩
theorem yZ {o:Option Nat} {A:Nat->Prop} (h:match o with|some v=>A v|none=>False):∃ a,o=some a/\A a:=by
 rcases o with _|v
 .exact False.elim h
 .exact⟨_,rfl,h⟩
theorem GV {o:Option PO} {A:Prop} (h:match o with|some (.cell _)=>A|_=>False):∃ c,o=some (.cell c)/\A:=by
 rcases o with _|v
 .exact False.elim h
 cases v<;>first|exact False.elim h|exact⟨_,rfl,h⟩
theorem K4 {o:Option PO} {A:PV->Prop} (h:match o with|some (.cell (some v))=>A v|_=>False):∃ v,o=some (.cell (some v))/\A v:=by
 rcases o with _|v
 .exact False.elim h
 rcases v with _|_|_|v<;>first|exact False.elim h|skip
 rcases v with _|v
 .exact False.elim h
 .exact⟨_,rfl,h⟩
theorem K5 {o:Option PO} {A:Nat->List Nat->Prop} (h:match o with|some (.clo k l)=>A k l|_=>False):∃ k l,o=some (.clo k l)/\A k l:=by
 rcases o with _|v
 .exact False.elim h
 cases v<;>first|exact False.elim h|exact⟨_,_,rfl,h⟩
theorem y0 {o:Option Spec} {A:Spec->Prop} (h:match o with|some v=>A v|none=>False):∃ a,o=some a/\A a:=by
 rcases o with _|v
 .exact False.elim h
 .exact⟨_,rfl,h⟩
theorem Cy {o p:Option PO} {A:List PV->List PV->Prop}:(match o,p with|some (.list v),some (.list w)=>A v w|_,_=>False)->∃ v,o=some (.list v)/\∃ w,p=some (.list w)/\A v w:=by
 intro h
 cases o with
 |none=>exact h.elim
 |some o=>cases o with
  |list v=>cases p with
   |none=>exact h.elim
   |some p=>cases p with
    |list w=>exact⟨v,rfl,w,rfl,h⟩
    |_=>exact h.elim
  |_=>exact h.elim
noncomputable def Cz (f:B) (vs:List PV) (Q:bu) (σ:St):Prop:=match f with
 |.len=>A1 (λ
   |.str s=>aV s.length/\Q (.int s.length) σ
   |.ref i=>(match σ.hp[i]? with
     |some (.list xs)=>aV xs.length/\Q (.int xs.length) σ
     |_=>False)
   |_=>False) vs
 |.range=>(match vs with
   | [b]=>vI (λb=>b.natAbs<=1000000/\push (.rng 0 1 b.toNat) Q σ) b
   | [a,b]=>vI (λa=>vI (λb=>a.natAbs<=1000000/\b.natAbs<=1000000/\push (.rng a 1 (b-a).toNat) Q σ) b) a
   | [a,b,c]=>vI (λa=>vI (λb=>vI (λc=>∃ n:Nat,c≠0/\c.natAbs<=1000000/\Builtin.Range.small a b c=true/\Builtin.Range.rangeSize a b c=(n:Int)/\push (.rng a c n) Q σ) c) b) a
   |_=>False)
 |.list=>A1 (vR λi=>match σ.hp[i]? with
   |some (.rng a c n)=>aV n/\push (.list ((List.range n).map λk=>.int (a+(k:Nat)*c))) Q σ
   |_=>False) vs
 |.max=>A2 (λa b=>vI (λa=>vI (λb=>Q (.int (if b>a then b else a)) σ) b) a) vs
 |.min=>A2 (λa b=>vI (λa=>vI (λb=>Q (.int (if b<a then b else a)) σ) b) a) vs
 |.sum=>A1 (vR λi=>match σ.hp[i]? with
   |some (.list xs)=>(match cS xs with
     |some ns=>Q (.int ns.sum) σ
     |none=>False)
   |_=>False) vs
 |.str=>A1 (vI λn=>n.natAbs.log2<1920/\Q (.str (Str.ofString (toString n))) σ) vs
 |.hex=>A1 (vI λn=>(baseText "0x" 16 n).length<=sizeLine/\Q (.str (baseText "0x" 16 n)) σ) vs
 |.sorted=>A1 (vR λi=>match σ.hp[i]? with
   |some (.list xs)=>(match cS xs with
     |some ns=>ns.length<64/\∀ GW:List Int,GW.Perm ns->GW.Pairwise (. <= .)->push (.list (aa GW)) Q σ
     |none=>False)
   |_=>False) vs
 |.isinstance=>A2 (λv u=>vR (λi=>u=.fn .tuple/\(match σ.hp[i]? with
   |some (.tup _)=>Q (.bool true) σ
   |_=>False)) v) vs
 |.iter=>A1 (vR λi=>match σ.hp[i]? with
   |some (.list _)=>push (.lit i 0) Q σ
   |_=>False) vs
 |.next=>A1 (vR λi=>match σ.hp[i]? with
   |some (.lit l k)=>(match σ.hp[l]? with
     |some (.list xs)=>(match xs[k]? with
       |some v=>Q v {σ with hp:=σ.hp.set i (.lit l (k+1))}
       |none=>False)
     |_=>False)
   |_=>False) vs
 |.divmod=>A2 (λa b=>vI (λa=>vI (λb=>b≠0/\bl b<=9000/\push (.tup [.int (a.fdiv b),.int (a.fmod b)]) Q σ) b) a) vs
 |_=>False
noncomputable def Mt.id:Mt->String
 |.lower=>"str.lower" |.append=>"list.append" |.extend=>"list.extend" |.join=>"str.join"
 |.get=>"dict.get" |.bit_length=>"int.bit_length" |.count=>"list.count" |.reverse=>"list.reverse"
noncomputable def pn (cx:Cx) (m:Mt) (o:PV) (σ:St):Prop:=match m with
 |.lower|.join=>vS (λø=>True) o
 |.bit_length=>vI (λø=>True) o
 |.get=>(match o with
   |.val (.ref d)=>(cx.T d).isSome=true
   |_=>False)
 |_=>vR (λi=>match σ.hp[i]? with
   |some (.list _)=>True
   |_=>False) o
noncomputable def CB (cx:Cx) (m:Mt) (o:PV) (as:List PV) (Q:bu) (σ:St):Prop:=match m with
 |.lower=>vS (λs=>A0 (aV (Txt.lower s).length/\Q (.str (Txt.lower s)) σ) as) o
 |.append=>vR (λi=>A1 (λv=>match σ.hp[i]? with
   |some (.list xs)=>aV xs.length/\Q .none {σ with hp:=σ.hp.set i (.list (xs++[v]))}
   |_=>False) as) o
 |.extend=>vR (λi=>A1 (vR λj=>match σ.hp[i]?,σ.hp[j]? with
   |some (.list xs),some (.list ys)=>aV (xs.length+ys.length)/\Q .none {σ with hp:=σ.hp.set i (.list (xs++ys))}
   |_,_=>False) as) o
 |.join=>vS (λs=>A1 (vR λi=>match σ.hp[i]? with
   |some (.list xs)=>(match cC xs with
     |some ys=>aV ((ys.map (·.length)).sum+ys.length*s.length)/\Q (.str (Txt.join s ys)) σ
     |none=>False)
   |_=>False) as) o
 |.get=>(match o with
   |.val (.ref d)=>A2 (λk z=>vI (λk=>vS (λz=>match cx.T d with
     |some D=>(match PySem.Spec.lookup (.int k) D with
       |some (.str x)=>Q (.str x) σ
       |none=>Q (.str z) σ
       |_=>False)
     |none=>False) z) k) as
   |_=>False)
 |.bit_length=>vI (λn=>A0 (Q (.int (bl n)) σ) as) o
 |.count=>vR (λi=>A1 (vI λk=>match σ.hp[i]? with
   |some (.list xs)=>(match cS xs with
     |some ns=>Q (.int (ns.count k:Nat)) σ
     |none=>False)
   |_=>False) as) o
 |.reverse=>vR (λi=>A0 (match σ.hp[i]? with
   |some (.list xs)=>aV xs.length/\Q .none {σ with hp:=σ.hp.set i (.list xs.reverse)}
   |_=>False) as) o
end Mine
namespace Mine
open PySem PySem.W PySem.Calls PyProof PyProof.Rows
noncomputable def bB (cx:Cx) (env:Env) (ab:aT) (s:Shared) (P:bu) (Q:Value->Shared->Prop):Prop:=
 ∀ p br aj v h' tk,P p br->cY aj p v->aH cx env aj br h'->Step env.locals ab s.heap aj h'->Q v {s with heap:=h',toks:=tk}
theorem iD {a b:Int} (h:bl b<=9000):Builtin.divisionGoesByPylong a b=false:=by
 refine noPylong_of_log2 ?_
 unfold bl Builtin.Int.intBits at h
 by_cases q:(b==0)=true
 .have:b=0:=by simpa using q
  subst this;decide
 .rw[if_neg q] at h;exact la [_] [] [.l (.a .v0 .n1) (.n 9000)] (.t .v0 (.n 9000)) (.f [1,1]) rfl h
theorem xB (xs:List Value):∀ n:Nat,List.foldl (λx1 x2=>x1++x2) #[] (List.replicate n xs.toArray)=((List.replicate n xs).flatten).toArray:=by
 have vn:∀ (n:Nat) (aD:Array Value),List.foldl (λx1 x2=>x1++x2) aD (List.replicate n xs.toArray)=aD++((List.replicate n xs).flatten).toArray:=by
  intro n
  induction n with
  |zero=>intro aD;simp
  |succ n ih=>
   intro aD
   rw[List.replicate_succ,abd,ih,List.replicate_succ,List.flatten_cons]
   apply Array.ext'
   simp
 intro n
 rw[vn];simp
theorem xC {ab:aT} {xs:List PV} {vs:List Value} (d:aU ab xs vs) (n:Nat):aU ab (yW xs n) (List.replicate n vs).flatten:=by
 induction n with
 |zero=>trivial
 |succ n ih=>rw[List.replicate_succ,List.flatten_cons];exact d.append ih
theorem y1 (n:Nat):yW [] n=[]:=by
 induction n with
 |zero=>rfl
 |succ n ih=>exact ih
section
variable {cx:Cx} {env:Env} {ab:aT} {σ:St} {s:Shared} {A:Around} {P:bu} {Q:Value->Shared->Prop} {E:Value->Shared->Prop}
theorem bB.same (k:bB cx env ab s P Q) (R:aH cx env ab σ s.heap) {p:PV} {v:Value} {tk:Nat} (hp:P p σ) (d:cY ab p v):Q v {s with toks:=tk}:=
 k p σ ab v s.heap tk hp d R (.refl _ _ _)
theorem bB.new (k:bB cx env ab s P Q) (R:aH cx env ab σ s.heap) {o:PO} {ob:Obj} {tk:Nat} (hp:push o P σ) (d:cN cx ab ob o):Q (.ref s.heap.objs.size) {s with heap:=s.heap.push ob,toks:=tk}:=by
 obtain⟨R',S'⟩:=R.alloc (o:=o) (d.mono (.snoc _ _))
 exact k _ _ _ _ _ tk hp ⟨s.heap.objs.size,by rw[<-R.len];simp,rfl⟩ R' S'
theorem xD {l:Addr} {vs:List Value} {k:Nat} {x:Int} {u:Tok} {Q:Value->Shared->Prop} (hl:s.heap.get? l=some (bN vs k))
  (po: -(2^63:Int)<=x) (Cm:x<2^63) (GX:vs.length*x.toNat<=2^24)
  (h:Q (.ref s.heap.objs.size) {s with heap:=s.heap.push (bN (List.replicate (if vs.isEmpty then 0 else x.toNat) vs).flatten 0)}):
  wpAny (model cx.prog cx.w) A (binaryOp .Mult (.ref l) (.int x u)) Q E s:=by
 refine wpAny_binaryOp_repeat_ref (T:="list") (U:="int") (by decide) ⟨_,hl,rfl⟩ (λs'=>typeIs_int s' x u) noFill_list_mul F.fills_int_mul F.slot_int_rmul repeat_list F.slot_int_index.lookup
  (call_meets F.slot_int_rmul (typeIs_int s x u) F.entry_int_rmul (F.args_int_rmul_2 _ _) (int___rmul___int_list x u l vs.toArray k)
   ⟨hl,rfl,⟨_,hl,rfl⟩,call_meets F.slot_list_mul ⟨_,hl,rfl⟩ F.entry_list_mul (F.args_list_mul_2 _ _)
    (AutoListH.list___mul___list_int_3 l vs.toArray k x u (by simp [Builtin.List.listFitsIndex];exact la [] [_] [.L (.g (.n 9223372036854775808)) .V0,.T .V0 (.n 9223372036854775808)] (.a (.L (.g (.n 9223372036854775808)) .V0) (.T .V0 (.n 9223372036854775808))) (.o 0 (.f [1,0,1]) (.f [1,1])) rfl po Cm) (by simp only[aar];exact la [_] [] [.l .v0 (.n 16777216)] (.n (.t (.d (.s (.n 9223372036854775808) .n1) 8) .v0)) (.k true (.d (.s (.n 9223372036854775808) .n1) 8) (.k true (.s (.n 9223372036854775808) .n1) (.o 0 (.f [0,0,1]) (.f [1,0,0,1,0,8,8])))) rfl GX) (by rw[aar];simp [Builtin.List.listTooLong,sizeLine];exact la [_] [] [.l .v0 (.n 16777216)] (.l .v0 (.n 16777216)) (.f [1,1]) rfl GX))
    ⟨hl,?_⟩⟩)
 have e:(if vs.toArray.isEmpty=true then 0 else x.toNat)=(if vs.isEmpty=true then 0 else x.toNat):=by simp
 rw[e,xB]
 exact h
theorem t3 {op:Operator} {a b:Int} {t u:Tok} (hw:binI op a b P σ) (R:aH cx env ab σ s.heap) (k:bB cx env ab s P Q):
  wpAny (model cx.prog cx.w) A (binaryOp op (.int a t) (.int b u)) Q E s:=by
 cases op<;>first|exact False.elim hw|skip
 .exact PyProof.Rows.add_int (k.same R hw ⟨_,rfl⟩)
 .exact sub_int' (k.same R hw ⟨_,rfl⟩)
 .exact PyProof.Rows.mul_int (k.same R hw.2 ⟨_,rfl⟩) (IntMulOk.of_le (ZA _) (ZA _) hw.1)
 .exact mod_int' hw.1 (k.same R hw.2 ⟨_,rfl⟩)
 .exact pow_int hw.1 ((show(2:Int)^27=134217728 from rfl)▸hw.2.1) (k.same R hw.2.2 ⟨_,rfl⟩)
 .exact lshift_int hw.1 ((show(2:Int)^27=134217728 from rfl)▸hw.2.1) (k.same R hw.2.2 ⟨_,rfl⟩)
 .exact rshift_int hw.1 (k.same R hw.2 ⟨_,rfl⟩)
 .exact or_int (k.same R hw ⟨_,rfl⟩)
 .exact xor_int (k.same R hw ⟨_,rfl⟩)
 .exact and_int (k.same R hw ⟨_,rfl⟩)
 .exact floordiv_int hw.1 (k.same R hw.2.2 ⟨_,rfl⟩) (.inl (iD hw.2.1))
theorem rQ {op:Operator} {a b:Int} {t u:Tok} (hw:binI op a b P σ) (R:aH cx env ab σ s.heap) (k:bB cx env ab s P Q):
  wpAny (model cx.prog cx.w) A (inplaceOp op (.int a t) (.int b u)) Q E s:=by
 cases op<;>first|exact False.elim hw|skip
 .exact PySem.P.iadd_int (k.same R hw ⟨_,rfl⟩)
 .exact PySem.P.isub_int (k.same R hw ⟨_,rfl⟩)
 .exact PySem.P.imul_int (k.same R hw.2 ⟨_,rfl⟩) (IntMulOk.of_le (ZA _) (ZA _) hw.1)
 .exact imod_int hw.1 (k.same R hw.2 ⟨_,rfl⟩)
 .exact ipow_int hw.1 ((show(2:Int)^27=134217728 from rfl)▸hw.2.1) (k.same R hw.2.2 ⟨_,rfl⟩)
 .exact ilshift_int hw.1 ((show(2:Int)^27=134217728 from rfl)▸hw.2.1) (k.same R hw.2.2 ⟨_,rfl⟩)
 .exact irshift_int hw.1 (k.same R hw.2 ⟨_,rfl⟩)
 .exact ior_int (k.same R hw ⟨_,rfl⟩)
 .exact ixor_int (k.same R hw ⟨_,rfl⟩)
 .exact iand_int (k.same R hw ⟨_,rfl⟩)
 .exact ifloordiv_int hw.1 (k.same R hw.2.2 ⟨_,rfl⟩) (.inl (iD hw.2.1))
noncomputable def fZ (cx:Cx) (env:Env) (ab:aT) (s:Shared) (P:Bool->St->Prop) (Q:Bool->Shared->Prop):Prop:=
 ∀ b br aj h' tk,P b br->aH cx env aj br h'->Step env.locals ab s.heap aj h'->Q b {s with heap:=h',toks:=tk}
theorem fZ.same {P:Bool->St->Prop} {Q:Bool->Shared->Prop} (k:fZ cx env ab s P Q) (R:aH cx env ab σ s.heap) {b:Bool} {tk:Nat} (hp:P b σ):Q b {s with toks:=tk}:=
 k b σ ab s.heap tk hp R (.refl _ _ _)
theorem aX {n:Nat} (h:aV n):n<=sizeLine:=by unfold aV at h;rw[sizeLine_eq];exact la [_] [] [.l .v0 (.n 1000000)] (.l .v0 (.n 16777216)) (.f [1,1]) rfl h
theorem aH.list (R:aH cx env ab σ s.heap) {i:Nat} {a:Addr} {xs:List PV} (e:ab[i]? =some a) (h:σ.hp[i]? =some (.list xs)):∃ vs n,aU ab xs vs/\s.heap.get? a=some (bN vs n):=by
 obtain⟨ob,h1,vs,n,d,rfl⟩:=R.at e h
 exact⟨vs,n,d,h1⟩
theorem aH.tup (R:aH cx env ab σ s.heap) {i:Nat} {a:Addr} {xs:List PV} (e:ab[i]? =some a) (h:σ.hp[i]? =some (.tup xs)):∃ vs n,aU ab xs vs/\s.heap.get? a=some (tX vs n):=by
 obtain⟨ob,h1,vs,n,d,rfl⟩:=R.at e h
 exact⟨vs,n,d,h1⟩
theorem aI {h:Heap} {a:Addr} {vs:List Value} {n:Nat} (e:h.get? a=some (bN vs n)):h.IsList a vs.toArray:=⟨_,e,rfl,n,rfl⟩
theorem K6 {o p:Option PO} {A:List PV->List PV->Prop} (h:match Operator.Add,o,p with|.Add,some (.list v),some (.list w)=>A v w|_,_,_=>False):∃ v,o=some (.list v)/\∃ w,p=some (.list w)/\A v w:=Cy (by
 rcases o with _|o
 .exact False.elim h
 cases o<;>first|exact False.elim h|skip
 rcases p with _|p
 .exact False.elim h
 cases p<;>first|exact False.elim h|exact h)
theorem K7 {o:Option PO} {A:List PV->Prop} (h:match Operator.Mult,o with|.Mult,some (.list v)=>A v|_,_=>False):∃ v,o=some (.list v)/\A v:=by
 rcases o with _|o
 .exact False.elim h
 cases o<;>first|exact False.elim h|exact⟨_,rfl,h⟩
theorem mZ {op:Operator} {a b:PV} {va vb:Value} (hw:yX op a b P σ) (R:aH cx env ab σ s.heap) (da:cY ab a va) (db:cY ab b vb) (k:bB cx env ab s P Q):
  wpAny (model cx.prog cx.w) A (binaryOp op va vb) Q E s:=by
 cases a with
 |int a=>
  obtain⟨t,rfl⟩:=da
  cases b with
  |int b=>obtain⟨u,rfl⟩:=db;exact t3 hw R k
  |_=>exact False.elim hw
 |str a=>
  obtain⟨t,rfl⟩:=da
  cases b with
  |str b=>
   obtain⟨u,rfl⟩:=db
   cases op<;>first|exact False.elim hw|skip
   refine PyProof.Rows.add_str (λt' tk=>k.same R hw.2 ⟨_,rfl⟩) (aX hw.1)
  |int n=>
   obtain⟨u,rfl⟩:=db
   cases op<;>first|exact False.elim hw|skip
   obtain⟨h0,h1,h2,hq⟩:=hw
   exact SB.mul (mulOk_of 1000 1000 h2 (by simpa using h1) (by exact la [] [_] [.L .n0 .V0] (.L (.g (.n 9223372036854775808)) .V0) (.f [1,1]) rfl h0) (by decide) (by decide)) λt' tk=>k.same R hq ⟨_,rfl⟩
  |_=>exact False.elim hw
 |ref i=>
  obtain⟨x,ex,rfl⟩:=da
  cases b with
  |ref j=>
   obtain⟨y,ey,rfl⟩:=db
   cases op<;>first|exact False.elim hw|skip
   obtain⟨xs,hx,ys,hy,hw⟩:=K6 hw
   obtain⟨vs,n,d1,h1⟩:=R.list ex hx
   obtain⟨ws,n2,d2,h2⟩:=R.list ey hy
   refine concat_meets ⟨_,h1,rfl⟩ ⟨_,h2,rfl⟩ noFill_list_add seq_list_add PySem.F.slot_list_add PySem.F.entry_list_add (PySem.F.args_list_add_2 _ _)
    (list_addW _ _ vs.toArray ws.toArray n n2 none none #[] #[] (by have:=aX hw.1;rw[d1.length,d2.length] at this;simpa using this)) ⟨h1,h2,?_⟩
   rw[show vs.toArray++ws.toArray=(vs++ws).toArray from List.append_toArray ..]
   exact k.new R hw.2 ⟨vs++ws,0,d1.append d2,rfl⟩
  |int n=>
   obtain⟨u,rfl⟩:=db
   cases op<;>first|exact False.elim hw|skip
   obtain⟨xs,hx,hw⟩:=K7 hw
   obtain⟨h0,h3,h4,hq⟩:=hw
   obtain⟨vs,n',d1,h1⟩:=R.list ex hx
   refine xD h1 (by exact la [] [_] [.L .n0 .V0] (.L (.g (.n 9223372036854775808)) .V0) (.f [1,1]) rfl h0) (by exact la [] [_] [.L .V0 (.n 1000000)] (.T .V0 (.n 9223372036854775808)) (.f [1,1]) rfl h4) (by rw[<-d1.length];unfold aV at h3;exact la [_] [] [.l .v0 (.n 1000000)] (.l .v0 (.n 16777216)) (.f [1,1]) rfl h3) ?_
   refine k.new R hq ⟨_,_,?_,rfl⟩
   cases vs with
   |nil=>
    cases xs with
    |nil=>rw[y1];exact trivial
    |cons=>exact d1.elim
   |cons v vs=>exact xC d1 _
  |_=>exact False.elim hw
 |_=>exact False.elim hw
theorem Qe {p:PV} {r:List PV} {ns:List Int} (h:cS (p::r)=some ns):∃ i ms,p=.int i/\cS r=some ms/\i::ms=ns:=by
 cases p with
 |int i=>obtain⟨ms,h1,h2⟩:=Option.map_eq_some_iff.mp h;exact⟨i,ms,rfl,h1,h2⟩
 |_=>cases h
theorem GY {p:PV} {r:List PV} {ns:List Str} (h:cC (p::r)=some ns):∃ i ms,p=.str i/\cC r=some ms/\i::ms=ns:=by
 cases p with
 |str i=>obtain⟨ms,h1,h2⟩:=Option.map_eq_some_iff.mp h;exact⟨i,ms,rfl,h1,h2⟩
 |_=>cases h
theorem intsAre_of {xs:List PV} {vs:List Value} {ns:List Int} (d:aU ab xs vs):cS xs=some ns->IntsAre vs ns:=
 d.ind (P:=λa b=>∀ ns,cS a=some ns->IntsAre b ns) (λns h=>by cases h;exact .nil) (λp v ps vs a ø ih ns h=>by
  obtain⟨i,ms,rfl,h1,rfl⟩:=Qe h
  obtain⟨t,rfl⟩:=a
  exact .cons _ _ (ih _ h1)) ns
theorem j2 {xs:List PV} {vs:List Value} {ns:List Str} (d:aU ab xs vs):cC xs=some ns->CarriedAll vs (ns.map PyData.str):=
 d.ind (P:=λa b=>∀ ns,cC a=some ns->CarriedAll b (ns.map PyData.str)) (λns h=>by cases h;exact .nil) (λp v ps vs a ø ih ns h=>by
  obtain⟨i,ms,rfl,h1,rfl⟩:=GY h
  obtain⟨t,rfl⟩:=a
  exact .cons (.str _ _) (ih _ h1)) ns
theorem xE {xs:List PV}:∀ {ns:List Str},cC xs=some ns->vr xs->PyData.canLayAll0 (ns.map PyData.str)=true:=by
 induction xs with
 |nil=>intro ns h ø;cases h;rfl
 |cons p r ih=>
  intro ns h o
  obtain⟨i,ms,rfl,h1,rfl⟩:=GY h
  exact look_both o.1 (ih h1 o.2)
theorem y2 (ns:List Str):PyData.depthAll (ns.map PyData.str)=0:=by
 induction ns with
 |nil=>rfl
 |cons n r ih=>exact(Nat.zero_max _).trans ih
theorem pq {xs:List PV} {ns:List Str} (h:cC xs=some ns) (o:vr xs):SeqAt.shaped (.list (ns.map PyData.str))=true:=by
 simp [SeqAt.shaped,PyData.canLay0,PyData.depth,xE h o,y2]
theorem CC (ns:List Str):∀ ms:List Str,PySem.Spec.sameAll (ns.map PyData.str) (ms.map PyData.str)=decide (ns=ms):=by
 induction ns with
 |nil=>intro ms;cases ms<;>rfl
 |cons a r ih=>intro ms;cases ms with
  |nil=>rfl
  |cons b t=>
   show((a==b)&&PySem.Spec.sameAll _ _)=_
   rw[ih t]
   by_cases h:a=b
   .subst h
    by_cases h':r=t
    .subst h';rw[beq_self_eq_true,decide_eq_true rfl,decide_eq_true rfl];rfl
    .rw[decide_eq_false h',decide_eq_false λq=>h' (List.cons.inj q).2,Bool.and_false]
   .rw[beq_false_of_ne h,decide_eq_false λq=>h (List.cons.inj q).1];rfl
theorem Qf {o p:Option PO} {A B:List PV->List PV->Prop} (h:match CmpOp.NotEq,o,p with|.NotEq,some (.list v),some (.list w)=>A v w|.Eq,some (.list v),some (.list w)=>B v w|_,_,_=>False):∃ v,o=some (.list v)/\∃ w,p=some (.list w)/\A v w:=Cy (by
 rcases o with _|o
 .exact False.elim h
 cases o<;>first|exact False.elim h|skip
 rcases p with _|p
 .exact False.elim h
 cases p<;>first|exact False.elim h|exact h)
theorem Qg {o p:Option PO} {A B:List PV->List PV->Prop} (h:match CmpOp.Eq,o,p with|.NotEq,some (.list v),some (.list w)=>A v w|.Eq,some (.list v),some (.list w)=>B v w|_,_,_=>False):∃ v,o=some (.list v)/\∃ w,p=some (.list w)/\B v w:=Cy (by
 rcases o with _|o
 .exact False.elim h
 cases o<;>first|exact False.elim h|skip
 rcases p with _|p
 .exact False.elim h
 cases p<;>first|exact False.elim h|exact h)
theorem Qh {o p:Option (List Int)} {A:List Int->List Int->Prop} (h:match o,p with|some v,some w=>A v w|_,_=>False):∃ v,o=some v/\∃ w,p=some w/\A v w:=by
 rcases o with _|o
 .exact False.elim h
 rcases p with _|p
 .exact False.elim h
 exact⟨_,rfl,_,rfl,h⟩
theorem GZ {o:Option Bool} {A:Bool->Prop} (h:match o with|some v=>A v|none=>False):∃ v,o=some v/\A v:=by
 rcases o with _|o
 .exact False.elim h
 exact⟨_,rfl,h⟩
theorem y3 {xs ys:List PV} {c:Bool} (h:oI xs ys=some c):(∃ ns ms,cS xs=some ns/\cS ys=some ms/\(!decide (ns=ms))=c)\/∃ ns ms,cC xs=some ns/\cC ys=some ms/\(!decide (ns=ms))=c:=by
 unfold oI at h
 revert h
 have st:(match cC xs,cC ys with|some ns,some ms=>some (!decide (ns=ms))|_,_=>none)=some c->∃ ns ms,cC xs=some ns/\cC ys=some ms/\(!decide (ns=ms))=c:=by
  cases cC xs with
  |none=>exact nofun
  |some ns=>cases cC ys with
   |none=>exact nofun
   |some ms=>exact λh=>⟨_,_,rfl,rfl,aan h⟩
 cases cS xs with
 |none=>exact λh=>.inr (st h)
 |some ns=>cases cS ys with
  |some ms=>exact λh=>.inl ⟨_,_,rfl,rfl,aan h⟩
  |none=>exact λh=>.inr (st h)
theorem m6 {op:CmpOp} {a b:PV} {va vb:Value} (hu:A.units+64<cLine) (hw:xA op a b P σ) (R:aH cx env ab σ s.heap) (da:cY ab a va) (db:cY ab b vb) (k:bB cx env ab s P Q):
  wpAny (model cx.prog cx.w) A (compareOp op va vb) Q E s:=by
 cases a with
 |int a=>
  obtain⟨t,rfl⟩:=da
  cases b with
  |int b=>
   obtain⟨u,rfl⟩:=db
   cases op<;>first|exact False.elim hw|skip
   .exact PySem.P.eq_int (k.same R hw rfl)
   .exact PySem.P.ne_int (k.same R hw rfl)
   .exact PySem.P.lt_int (k.same R hw rfl)
   .exact PySem.P.le_int (k.same R hw rfl)
   .exact PySem.P.gt_int (k.same R hw rfl)
   .exact PySem.P.ge_int (k.same R hw rfl)
  |_=>exact False.elim hw
 |str a=>
  obtain⟨t,rfl⟩:=da
  cases b with
  |str b=>
   obtain⟨u,rfl⟩:=db
   cases op<;>first|exact False.elim hw|skip
   .exact PyProof.Rows.eq_str (k.same R hw rfl)
   .exact PyProof.Rows.ne_str (k.same R hw rfl)
  |_=>exact False.elim hw
 |ref i=>
  obtain⟨x,ex,rfl⟩:=da
  cases b with
  |ref j=>
   obtain⟨y,ey,rfl⟩:=db
   cases op<;>first|exact False.elim hw|skip
   .obtain⟨xs,hx,ys,hy,hw⟩:=Qg hw
    obtain⟨vs,n,d1,h1⟩:=R.list ex hx
    obtain⟨ws,n2,d2,h2⟩:=R.list ey hy
    obtain⟨ns,e1,ms,e2,hw⟩:=Qh hw
    exact ke_eq_ints (aI h1) (aI h2) (intsAre_of d1 e1) (intsAre_of d2 e2) hu (k.same R hw rfl)
   .obtain⟨xs,hx,ys,hy,hw⟩:=Qf hw
    obtain⟨vs,n,d1,h1⟩:=R.list ex hx
    obtain⟨ws,n2,d2,h2⟩:=R.list ey hy
    obtain⟨c,hc,hw⟩:=GZ hw
    rcases y3 hc with⟨ns,ms,e1,e2,rfl⟩|⟨ns,ms,e1,e2,rfl⟩
    .exact ke_ne_ints (aI h1) (aI h2) (intsAre_of d1 e1) (intsAre_of d2 e2) hu (k.same R hw.2.2 rfl)
    .refine ne_dataH_same (reads_newData (aI h1) (j2 d1 e1)) (reads_newData (aI h2) (j2 d2 e2)) (pq e1 hw.1) (pq e2 hw.2.1) hu (SeqAt.noMix_of_shape (.list .str) rfl _ _ (list_map_has λø=>rfl) (list_map_has λø=>rfl)) ?_
     rw[show PySem.Spec.same (.list (ns.map PyData.str)) (.list (ms.map PyData.str))=decide (ns=ms) from CC ns ms]
     exact k.same R hw.2.2 rfl
  |none=>
   have hb:vb=.none:=db
   subst hb
   cases op<;>first|exact False.elim hw|skip
   exact is_ref_none (k.same R hw rfl)
  |_=>exact False.elim hw
 |none=>
  have ha:va=.none:=da
  subst ha
  cases b with
  |none=>
   have hb:vb=.none:=db
   subst hb
   cases op<;>first|exact False.elim hw|skip
   exact is_none_none (k.same R hw rfl)
  |_=>exact False.elim hw
 |_=>exact False.elim hw
theorem ef {v:PV} {u:Value} {P:Bool->St->Prop} {Q:Bool->Shared->Prop} (hw:oJ v P σ) (R:aH cx env ab σ s.heap) (d:cY ab v u) (k:fZ cx env ab s P Q):
  wpAny (model cx.prog cx.w) A (truthy u) Q E s:=by
 cases v with
 |bool b=>
  have h:u=_:=d
  subst h
  exact wpAny_truthy_bool (k.same R hw)
 |int i=>
  obtain⟨t,rfl⟩:=d
  exact PySem.P.truthy_int (k.same R hw)
 |str s=>
  obtain⟨t,rfl⟩:=d
  exact PySem.P.truthy_str (by have:=hw.1;unfold aV at this;exact la [_] [] [.l .v0 (.n 1000000)] (.n (.L (.n 9223372036854775808) (.c .v0))) (.f [1,1]) rfl this) (k.same R hw.2)
 |none=>
  have h:u=_:=d
  subst h
  exact PyProof.Rows.truthy_none (k.same R hw)
 |ref i=>
  obtain⟨x,ex,rfl⟩:=d
  obtain⟨xs,hx,hw⟩:=fg hw
  obtain⟨vs,n,d1,h1⟩:=R.list ex hx
  have hl:=d1.length
  refine wpAny_truthy_list (aI h1) (by have:=hw.1;unfold aV at this;simp;exact la [_,_] [] [.e .v0 .v1,.l .v0 (.n 1000000)] (.T (.c .v1) (.n 9223372036854775808)) (.f [1,1,0,1]) rfl hl this) ?_
  have e:(!vs.toArray.isEmpty)=(!xs.isEmpty):=by
   cases xs with
   |nil=>cases vs with
    |nil=>rfl
    |cons=>exact d1.elim
   |cons a r=>cases vs with
    |nil=>exact d1.elim
    |cons b r'=>rfl
  rw[e]
  exact k.same R hw.2
 |_=>exact False.elim hw
theorem xF {op:UnaryOp} {v:PV} {u:Value} (hw:Qd op v P σ) (R:aH cx env ab σ s.heap) (d:cY ab v u) (k:bB cx env ab s P Q):
  wpAny (model cx.prog cx.w) A (unaryOp op u) Q E s:=by
 cases op<;>first
  |exact False.elim hw
  |(cases v<;>first|exact False.elim hw|skip)
 .obtain⟨t,rfl⟩:=d
  exact invert_int (k.same R hw ⟨_,rfl⟩)
 .obtain⟨t,rfl⟩:=d
  exact PySem.P.neg_int (k.same R hw ⟨_,rfl⟩)
end
end Mine
namespace Mine
open PySem PySem.W PySem.Calls PyProof PyProof.Rows PySem.Builtin.Str
section
variable {cx:Cx} {env:Env} {ab:aT} {σ:St} {s:Shared} {A:Around} {P:bu} {Q:Value->Shared->Prop} {E:Value->Shared->Prop}
theorem oK {l:Addr} {vs:List Value} {n:Nat} {k:Int} {t:Tok} {v:Value} {Q:Unit->Shared->Prop} (hl:s.heap.get? l=some (bN vs n))
  (h0:0<=k) (Qi:k<2^63) (hn:k<vs.length)
  (hQ:∀ h' n',h'.get? l=some (bN (vs.set k.toNat v) n')->Heap.SameBut l s.heap h'->Q () {s with heap:=h'}):
  wpAny (model cx.prog cx.w) A (setItem (.ref l) (.int k t) v) Q E s:=by
 have iL:s.heap.IsList l vs.toArray:=aI hl
 unfold setItem
 try with_reducible refine wpAny_holding ?_
 first|refine wpAny_bind (wpAny_pure ?_)|skip
 refine wpAny_bind (wpAny_sequenceKey iL.typeIs (by decide) (wpAny_bind (wpAny_callSpecial?_slot (name:=Str.ofString "__setitem__") iL.typeIs slot_list_setitem
  (wpAny_call_entry slot_list_setitem iL.typeIs entry_list_setitem ?_ (args_list_setitem _ _ _)))))
 show wpAny _ _ (Builtin.List.listSubscript? (.int k t)>>=_) _ _ s
 refine wpAny_bind (wpAny_listSubscript_int (fitsIndex_of h0 Qi) ?_)
 have Vl:k=((k.toNat:Nat):Int):=(aaL h0).symm
 have lt:k.toNat<vs.length:=by exact la [_] [_] [.T .V0 (.c .v0),.E .V0 (.c (.t .V0))] (.t (.t .V0) .v0) (.f [1,0,1,1]) rfl hn Vl
 have K8:vs.toArray[k.toNat]? =some vs[k.toNat]:=by simp [lt]
 rw[Vl]
 show wpAny _ _ ((seqItemAt l k.toNat>>=λr=>pure (r.map (k.toNat,.)))>>=_) _ _ s
 refine wpAny_bind (wpAny_bind (wpAny_seqItemAt hl rfl (wpAny_pure ?_)))
 rw[K8]
 show wpAny _ _ (setSeqItemAt l k.toNat v>>=_) _ _ s
 have ck:∃ n',(s.heap.update l (Obj.mapSeq (·.setIfInBounds k.toNat v))).get? l=some (bN (vs.set k.toNat v) n'):=by
  have e:Obj.mapSeq (·.setIfInBounds k.toNat v) (bN vs n)=bN (vs.set k.toNat v) n:=by
   simp [Obj.mapSeq,bN]
  exact⟨n,by rw[<-e];exact aaD _ hl (by rw[e];rfl)⟩
 obtain⟨n',ck⟩:=ck
 refine wpAny_bind (wpAny_setSeqItemAt hl rfl ?_)
 first
  |exact wpAny_bind (wpAny_pure (wpAny_pure ⟨.none,rfl,wpAny_pure (hQ _ _ ck (aaM ..))⟩))
  |exact wpAny_pure ⟨.none,rfl,wpAny_pure (hQ _ _ ck (aaM ..))⟩
set_option tactic.hygienic true in
theorem t4 {o i v:PV} {vo vi vv:Value} {P:St->Prop} {Q:Unit->Shared->Prop} (hw:KV o i v P σ) (R:aH cx env ab σ s.heap) (d1:cY ab o vo) (d2:cY ab i vi) (d3:cY ab v vv)
  (k:∀ br h',P br->aH cx env ab br h'->Step env.locals ab s.heap ab h'->Q () {s with heap:=h'}):
  wpAny (model cx.prog cx.w) A (setItem vo vi vv) Q E s:=by
 cases o<;>first|exact False.elim hw|skip
 cases i<;>first|exact False.elim hw|skip
 obtain⟨x,ex,rfl⟩:=d1
 obtain⟨u,rfl⟩:=d2
 obtain⟨xs,hx,h0,h1,h2,hq⟩:=fg hw
 obtain⟨vs,n,d,hl⟩:=R.list ex hx
 refine oK hl h0 (by exact la [] [_] [.L .V0 (.n 1000000)] (.T .V0 (.n 9223372036854775808)) (.f [1,1]) rfl h2) (by rw[<-d.length];exact h1) λh' n' hg hs=>?_
 obtain⟨R',S'⟩:=R.write ex hs hg (o:=.list _) ⟨_,n',d.set d3 _,rfl⟩
 exact k _ _ hq R' S'
theorem CD {n:Nat} {k:Int} (h:k<0):pj n k=(k+n).toNat:=if_pos h
theorem CE {n:Nat} {k:Int} (h: ¬ k<0):pj n k=k.toNat:=if_neg h
set_option tactic.hygienic true in
theorem vw {iE slice:Expr} {o i:Value} {T id:String} (hT:s.TypeIs o T) (hl:typeLookup (.type T) "__getitem__"=pure (some (.builtin id))) (Y9:(∃ n t,i=.int n t))
  (hs:∀ lo hi p,slice≠ .Slice lo hi none p) (hg:wpAny (model cx.prog cx.w) A (getItem o i) Q E s):wpAny (model cx.prog cx.w) A (subscriptTail iE slice o i) Q E s:=by
 refine tail_any (ops:=[o,i]) hT hl hg ?_
 cases slice with
 |Slice lo hi st p=>cases st with
  |none=>exact absurd rfl (hs _ _ _)
  |some x=>rfl
 |_=>rfl
set_option tactic.hygienic true in
theorem t5 {o i:PV} {vo vi:Value} {iE slice:Expr} (hs:∀ lo hi p,slice≠ .Slice lo hi none p) (hw:GS o i P σ) (R:aH cx env ab σ s.heap) (d1:cY ab o vo) (d2:cY ab i vi) (k:bB cx env ab s P Q):
  wpAny (model cx.prog cx.w) A (subscriptTail iE slice vo vi) Q E s:=by
 cases o<;>first|exact False.elim hw|skip
 .rename_i str
  cases i<;>first|exact False.elim hw|skip
  rename_i kk
  obtain⟨t,rfl⟩:=d1
  obtain⟨u,rfl⟩:=d2
  obtain⟨c,hc,h1,h2,hq⟩:=yZ hw
  refine vw (typeIs_str _ _ _) PySem.F.slot_str_getitem.lookup ⟨_,_,rfl⟩ hs ?_
  have lt:pj str.length kk<str.length:=by
   have:=(Array.getElem?_eq_some_iff.mp hc).1
   exact this
  refine PyProof.Rows.getItem_str (c:=c) (by simp;exact la [] [_] [.l (.b .V0) (.n 1000000)] (.a (.L (.g (.n 9223372036854775808)) .V0) (.T .V0 (.n 9223372036854775808))) (.o 0 (.k true (.b .V0) (.o 0 (.f [0,0,1,1]) (.f [1,0,0,1,1]))) (.k true (.b .V0) (.o 0 (.f [1,0,0,1,1]) (.f [0,0,1,1])))) rfl h2) ?_ (k.same R hq ⟨_,rfl⟩)
  have e:seqIndex? kk str.length=some (pj str.length kk):=by
   unfold seqIndex? pj at*
   by_cases hn:kk<0
   .rw[if_pos hn] at lt ⊢
    rw[if_pos hn]
    rw[if_pos (by simp;exact la [_] [_] [.L (.g (.c .v0)) .V0,.T .V0 .n0] (.a (.L .n0 (.a .V0 (.c .v0))) (.T (.a .V0 (.c .v0)) (.c .v0))) (.o 0 (.f [1,0,1]) (.f [1,1])) rfl h1 hn)]
   .rw[if_neg hn] at lt ⊢
    rw[if_neg hn]
    rw[if_pos (by simp;exact la [_] [_] [.t (.t .V0) .v0,.n (.T .V0 .n0)] (.a (.L .n0 .V0) (.T .V0 (.c .v0))) (.o 0 (.f [1,1]) (.k true (.t .V0) (.o 0 (.f [1,0,0,1,0,1]) (.f [0,0,1,1,0,1])))) rfl lt hn)]
  rw[e]
  exact hc
 .cases i<;>first|exact False.elim hw|skip
  rename_i kk
  obtain⟨x,ex,rfl⟩:=d1
  obtain⟨u,rfl⟩:=d2
  obtain⟨xs,hx,hw⟩:=fg hw
  obtain⟨vs,n,d,hl⟩:=R.list ex hx
  obtain⟨v,hv,h1,h2,hq⟩:=Cw hw
  obtain⟨w,iA,kR⟩:=d.get hv
  refine vw (aI hl).typeIs slot_list_getitem.lookup ⟨_,_,rfl⟩ hs ?_
  by_cases hn:kk<0
  .rw[CD hn,d.length] at iA
   exact wpAny_getItem_list_neg (aI hl) hn (by rw[aar,<-d.length];exact h1) (by exact la [] [_] [.l (.b .V0) (.n 1000000)] (.L (.g (.n 9223372036854775808)) .V0) (.k true (.b .V0) (.o 0 (.f [0,0,1,0,1]) (.f [1,0,0,1,1]))) rfl h2) (by simpa using iA) (k.same R hq kR)
  .rw[CE hn] at iA
   exact wpAny_getItem_list (aI hl) (by exact la [] [_] [.n (.T .V0 .n0)] (.L .n0 .V0) (.f [1,1]) rfl hn) (by exact la [] [_] [.l (.b .V0) (.n 1000000)] (.T .V0 (.n 9223372036854775808)) (.k true (.b .V0) (.o 0 (.f [1,0,0,1,1]) (.f [0,0,1,0,1]))) rfl h2) (by simpa using iA) (k.same R hq kR)
theorem j3 {ab:aT} {xs:List PV} {vs:List Value} (d:aU ab xs vs) (is:List Nat):aU ab (is.filterMap (xs[.]?)) (is.filterMap (vs.toArray[.]?)):=by
 induction is with
 |nil=>trivial
 |cons i is ih=>
  cases hx:xs[i]? with
  |none=>
   have hv:vs[i]? =none:=ZS.mpr (d.length▸ZS.mp hx)
   rw[List.filterMap_cons_none hx,List.filterMap_cons_none (by rw[aag];exact hv)];exact ih
  |some p=>
   obtain⟨v,hv,hd⟩:=d.get hx
   rw[aad hx,aad (b:=v) (by rw[aag];exact hv)];exact⟨hd,ih⟩
theorem lJ {ab:aT} {xs:List PV} {vs:List Value} (d:aU ab xs vs) (lo hi st:Option Int):aU ab (cG xs lo hi st) (slicePick vs.toArray lo hi st).toList:=by
 unfold cG slicePick
 rw[d.length]
 simpa using j3 d _
theorem fC {p:PV} {v:Value} {o:Option Int} (h:tY p=some o) (d:cY ab p v):IsPart v o:=by
 cases p<;>simp only[tY] at h<;>cases h
 .have h:v=_:=d
  subst h;exact .none
 .obtain⟨t,rfl⟩:=d
  exact .int _ _
theorem m7 {p:PV} {v:Value} {o:Option Int} (h:tY p=some o) (d:cY ab p v):∃ l:Option (Int×Tok),v=partValue l/\l.map (·.1)=o:=by
 cases p<;>simp only[tY] at h<;>cases h
 .have h:v=_:=d
  subst h;exact⟨none,rfl,rfl⟩
 .obtain⟨t,rfl⟩:=d
  exact⟨some (_,t),rfl,rfl⟩
theorem xG (lo hi:Option Int) (n:Nat):(strSliceIndices lo hi 1 n).length<=n:=by
 unfold strSliceIndices
 refine sliceRange_length_le _ _ _ n (λø=>⟨?_,?_⟩) (λh=>absurd (by decide) h)
 .cases lo<;>simp<;>exact la [_] [_] [] (.L .n0 (.x .n0 (.i .V0 (.c .v0)))) (.k false (.x .n0 (.i .V0 (.c .v0))) (.o 0 (.f [1,0,1,1]) (.f [1,0,0,1]))) rfl
 .cases hi<;>simp<;>exact la [_] [_] [] (.L (.x .n0 (.i .V0 (.c .v0))) (.c .v0)) (.k false (.x .n0 (.i .V0 (.c .v0))) (.o 0 (.k false (.i .V0 (.c .v0)) (.o 0 (.f [0,1,1,0,1,0,1]) (.f [0,1,0,0,1,0,1]))) (.f [0,1,0,1]))) rfl
theorem Qj {a b c:Option (Option Int)} {A:Option Int->Option Int->Option Int->Prop} (h:match a,b,c with|some a,some b,some c=>A a b c|_,_,_=>False):∃ x y z,a=some x/\b=some y/\c=some z/\A x y z:=by
 rcases a with _|a
 .exact False.elim h
 rcases b with _|b
 .exact False.elim h
 rcases c with _|c
 .exact False.elim h
 exact⟨_,_,_,rfl,rfl,rfl,h⟩
theorem K9 {o:Option PO} {A B:List PV->Prop} (h:match o with|some (.list v)=>A v|some (.slist v _)=>B v|_=>False):(∃ v,o=some (.list v)/\A v)\/∃ v ob,o=some (.slist v ob)/\B v:=by
 rcases o with _|o
 .exact False.elim h
 cases o<;>first|exact False.elim h|exact .inl ⟨_,rfl,h⟩|exact .inr ⟨_,_,rfl,h⟩
set_option tactic.hygienic true in
theorem qC {o lo hi st:PV} {vo vl vh vs:Value} {iE:Expr} {Vm Vn Qk:Option Expr} {sp:Pos} (hw:mY o lo hi st P σ) (R:aH cx env ab σ s.heap) (d1:cY ab o vo) (d2:cY ab lo vl) (d3:cY ab hi vh) (d4:cY ab st vs)
  (k:bB cx env ab s P Q):
  wpAny (model cx.prog cx.w) A (subscriptTail iE (.Slice Vm Vn Qk sp) vo (.ref s.heap.objs.size)) Q E {s with heap:=s.heap.push {cls:=.type "slice",data:=.fields #[vl,vh,vs]}}:=by
 obtain⟨Pp,Cn,Pq,el,eh,es,hw⟩:=Qj hw
 have hk:∀ b x,s.heap.get? b=some x->(s.heap.push {cls:=.type "slice",data:=.fields #[vl,vh,vs]}).get? b=some x:=λb x e=>ZX _ e
 obtain⟨R',S'⟩:=R.grow hk
 have k':bB cx env ab {s with heap:=s.heap.push {cls:=.type "slice",data:=.fields #[vl,vh,vs]}} P Q:=λp br aj v h' tk a b c d=>k p br aj v h' tk a b c (S'.trans d)
 have tail:∀ {T id:String} {o i:Value} {s:Shared},s.TypeIs o T->typeLookup (.type T) "__getitem__"=pure (some (.builtin id))->wpAny (model cx.prog cx.w) A (getItem o i) Q E s->wpAny (model cx.prog cx.w) A (subscriptTail iE (.Slice Vm Vn Qk sp) o i) Q E s:=by
  intro T id o i s hT hl hg
  cases Qk with
  |none=>exact tail_any (ops:=[i,o]) hT hl hg rfl
  |some x=>exact tail_any (ops:=[o,i]) hT hl hg rfl
 cases o<;>first|exact False.elim hw|skip
 .obtain⟨t,rfl⟩:=d1
  obtain⟨rfl,h1,hq⟩:=hw
  obtain⟨l,rfl,rfl⟩:=m7 el d2
  obtain⟨u,rfl,rfl⟩:=m7 eh d3
  obtain⟨w,rfl,Pr⟩:=m7 es d4
  have:w=none:=by simpa using Pr
  subst this
  refine tail (typeIs_str _ _ _) PySem.F.slot_str_getitem.lookup (wpAny_getItem_str_slice (l:=l) (u:=u) (st:=none) ⟨_,aai _ rfl,rfl,rfl⟩ rfl ?_)
  unfold sliceMade slicePicked
  refine post_val_or_made (λhc=>?_) λt' tk=>?_
  .refine Zu ?_ (aX h1)
   show((List.filterMap _ _).toArray).size<=_
   rw[aar]
   refine Zu (List.length_filterMap_le _ _) ?_
   exact xG _ _ _
  .exact k'.same R' (p:=.str (fD _ (l.map (·.1)) (u.map (·.1)))) hq ⟨t',rfl⟩
 .obtain⟨x,ex,rfl⟩:=d1
  rcases K9 hw with⟨xs,hx,hw⟩|⟨xs,Za,hx,hw⟩
  .obtain⟨h0,h1,hq⟩:=hw
   obtain⟨ws,n,d,hl⟩:=R'.list (s:={s with heap:=s.heap.push {cls:=.type "slice",data:=.fields #[vl,vh,vs]}}) ex hx
   refine tail (aI hl).typeIs slot_list_getitem.lookup (wpAny_getItem_list_slice (aI hl) (Heap.IsSliceOf.new _ _ _ _) (fC el d2) (fC eh d3) (fC es d4) h0 ?_ (by rw[aar,<-d.length];exact aX h1))
   have e:slicePick ws.toArray Pp Cn Pq=(slicePick ws.toArray Pp Cn Pq).toList.toArray:=by simp
   rw[e]
   exact k'.new R' hq ⟨_,0,lJ d _ _ _,rfl⟩
  .obtain⟨h0,h1,hq⟩:=hw
   obtain⟨ob,hl,ws,n,d,e1,e2,_⟩:=R'.at ex hx
   have hl:Heap.IsList _ x ws.toArray:=⟨ob,hl,e1,n,e2⟩
   refine tail hl.typeIs slot_list_getitem.lookup (wpAny_getItem_list_slice hl (Heap.IsSliceOf.new _ _ _ _) (fC el d2) (fC eh d3) (fC es d4) h0 ?_ (by rw[aar,<-d.length];exact aX h1))
   have e:slicePick ws.toArray Pp Cn Pq=(slicePick ws.toArray Pp Cn Pq).toList.toArray:=by simp
   rw[e]
   exact k'.new R' hq ⟨_,0,lJ d _ _ _,rfl⟩
end
end Mine
namespace Mine
open PySem PySem.W PySem.Calls PyProof PyProof.Rows PySem.Builtin.Str PySem.Builtin.Int
section
variable {cx:Cx} {env:Env} {ab:aT} {σ:St} {s:Shared} {A:Around} {P:bu} {Q:Value->Shared->Prop} {E:Value->Shared->Prop}
theorem t6:entryFor table "iter"=some Builtin.«iter» :=entryFor_of_tree (by kernel_rfl)
theorem xH:builtinKind "iter"=none:=by decide+kernel
theorem t7:plainId "iter"=true:=by decide+kernel
theorem t8 (a:Value):argsOk "iter" ⟨[a],[]⟩:=by unfold argsOk;kernel_rfl
theorem m8:entryFor table "next"=some Builtin.«next» :=entryFor_of_tree (by kernel_rfl)
theorem pt:builtinKind "next"=none:=by decide+kernel
theorem m9:plainId "next"=true:=by decide+kernel
theorem ng (a:Value):argsOk "next" ⟨[a],[]⟩:=by unfold argsOk;kernel_rfl
theorem nh {l:Addr} {vs:List Value} {n:Nat} {Q:Value->Shared->Prop} (hl:s.heap.get? l=some (bN vs n))
  (h:Q (.ref s.heap.objs.size) {s with heap:=s.heap.push (mW l 0)}):wpAny (model cx.prog cx.w) A (call (.builtin "iter") [.ref l]) Q E s:=by
 refine Calls.call_function_entry xH t7 t6 (t8 _) ?_
 unfold Builtin.«iter»
 refine wpAny_bind (m:=someArgs "iter" 1 2 _) (wpAny_pure ?_)
 show wpAny _ _ (pyIter (.ref l)>>=λv=>ret v) _ _ s
 refine wpAny_bind (wpAny_pyIter_list (aI hl) ?_)
 exact wpAny_pure ⟨_,rfl,h⟩
theorem ni {it l:Addr} {i:Nat} {vs:List Value} {n:Nat} {x:Value} {Q:Value->Shared->Prop} (eQ:s.heap.get? it=some (mW l i)) (hl:s.heap.get? l=some (bN vs n)) (hx:vs[i]? =some x)
  (hQ:∀ h',h'.get? it=some (mW l (i+1))->Heap.SameBut it s.heap h'->Q x {s with heap:=h'}):
  wpAny (model cx.prog cx.w) A (call (.builtin "next") [.ref it]) Q E s:=by
 have hT:s.TypeIs (.ref it) "list_iterator":=Heap.IsListIter.typeIs (i:=i) (l:=l) ⟨_,eQ,rfl,rfl⟩
 refine Calls.call_function_entry pt m9 m8 (ng _) ?_
 unfold Builtin.«next»
 refine wpAny_bind (m:=someArgs "next" 1 2 _) (wpAny_pure ?_)
 dsimp only[List.headD]
 refine wpAny_bind (wpAny_specialOf (name:=Str.ofString "__next__") hT slot_listiter_next.lookup ?_)
 show wpAny _ _ (callSpecial? (.ref it) (Str.ofString "__next__")>>=_) _ _ s
 refine wpAny_bind (wpAny_callSpecial?_slot (name:=Str.ofString "__next__") hT slot_listiter_next
  (wpAny_call_entry slot_listiter_next hT entry_listiter_next ?_ (args_listiter_next _)))
 show wpAny _ _ (field (.ref it) 0>>=_) _ _ s
 refine wpAny_bind (wpAny_field eQ rfl (x:=.ref l) rfl ?_)
 show wpAny _ _ (if(Value.ref l==Value.none)=true then _ else _) _ _ s
 rw[if_neg (show ¬ ((Value.ref l==Value.none)=true) from aaF)]
 show wpAny _ _ (field (.ref it) 1>>=_) _ _ s
 refine wpAny_bind (wpAny_field eQ rfl (x:=.int i 0) rfl ?_)
 show wpAny _ _ (seqItems? (.ref l)>>=_) _ _ s
 refine wpAny_bind (wpAny_seqItems hl rfl ?_)
 have La:vs.toArray[i]? =some x:=by simpa using hx
 simp only[ZO,La]
 refine wpAny_bind (wpAny_setField eQ rfl (by simp) ?_)
 have ck:Q x {s with heap:=s.heap.update it (Obj.mapFields (·.setIfInBounds 1 (rawInt (i+1))))}:=hQ _ (aaD _ eQ rfl) (aaM ..)
 first
  |exact wpAny_pure ⟨x,rfl,wpAny_pure ⟨x,rfl,ck⟩⟩
  |exact wpAny_pure ⟨_,rfl,wpAny_pure ⟨_,rfl,ck⟩⟩
theorem aH.adopt {h ai:Heap} (R:aH cx env ab σ h) {a:Addr} {ob:Obj} {o:PO} (hn:h.get? a=none) (hk:∀ b x,h.get? b=some x->ai.get? b=some x) (hg:ai.get? a=some ob) (ho:cN cx ab ob o):
  aH cx env (ab++[a]) {σ with hp:=σ.hp++[o]} ai/\Step env.locals ab h (ab++[a]) ai:=by
 have hE:mx ab (ab++[a]):=.snoc _ _
 have oC:∀ (i:Nat) (b:Addr),(ab++[a])[i]? =some b->(ab[i]? =some b)\/(i=ab.length/\b=a):=λi b e=>c6 e
 have off:∀ (i:Nat) (b:Addr),ab[i]? =some b->b≠a:=λi b e q=>by
  obtain⟨_,_,_,e2,_⟩:=R.here e
  rw[q,hn] at e2;cases e2
 have new:cx.h₀.get? a=none:=by
  cases q:cx.h₀.get? a with
  |none=>rfl
  |some o=>have:=R.keep _ _ q;rw[hn] at this;cases this
 have nL:a≠env.locals:=λq=>by
  obtain⟨m,⟨o,_,_,ho,_⟩,_⟩:=R.loc
  rw[<-q,hn] at ho;cases ho
 refine⟨⟨λb o e=>hk b o (R.keep b o e),λi b e=>?_,R.offL,λi j b e1 e2=>?_,λi b e=>?_,by simp [R.len],λi o' e=>?_,?_,λx i e=>?_,R.ff.keep λb o ø e d=>⟨o,hk b o e,d⟩,λi a e=>hE _ _ (R.tb i a e)⟩,⟨hE,λi b e=>?_,j1 hk,λb o e ø ø=>⟨o.slots,hk b o e,λø=>rfl⟩⟩⟩
 .rcases oC i b e with q|⟨_,rfl⟩
  .exact R.off i b q
  .exact new
 .rcases oC i b e1 with q1|⟨rfl,q1⟩<;>rcases oC j b e2 with q2|⟨rfl,q2⟩
  .exact R.inj i j b q1 q2
  .exact absurd q2 (off i b q1)
  .exact absurd q1 (off j b q2)
  .rfl
 .rcases oC i b e with q|⟨_,rfl⟩
  .exact R.notL i b q
  .exact nL
 .dsimp only at e
  rcases c6 e with e|⟨rfl,rfl⟩
  .obtain⟨b,tT,e1,e2,e3⟩:=R.obj i o' e
   exact⟨b,tT,hE _ _ e1,hk _ _ e2,e3.mono hE⟩
  .exact⟨a,ob,by rw[<-R.len];exact ZR,hg,ho.mono hE⟩
 .obtain⟨m,hn,hm⟩:=R.loc
  exact⟨m,hn.keeps hk,λx p e=>(hm x p e).imp λø=>aaa (.mono hE)⟩
 .obtain⟨b,c,d⟩:=R.cel x i e
  exact⟨b,hE _ _ c,d⟩
 .rcases oC i b e with q|⟨_,rfl⟩
  .exact .inl q
  .exact .inr hn
theorem bB.adopt (k:bB cx env ab s P Q) (R:aH cx env ab σ s.heap) {a:Addr} {o:PO} {ob:Obj} {ai:Heap} {tk:Nat} (hp:push o P σ) (hn:s.heap.get? a=none) (hk:∀ b x,s.heap.get? b=some x->ai.get? b=some x)
  (hg:ai.get? a=some ob) (ho:cN cx ab ob o):Q (.ref a) {s with heap:=ai,toks:=tk}:=by
 obtain⟨R',S'⟩:=R.adopt hn hk hg ho
 exact k _ _ _ _ _ tk hp ⟨a,by rw[<-R.len];exact ZR,rfl⟩ R' S'
theorem bB.grown (k:bB cx env ab s P Q) (R:aH cx env ab σ s.heap) {p:PV} {v:Value} {ai:Heap} {tk:Nat} (hp:P p σ) (d:cY ab p v) (hk:∀ b x,s.heap.get? b=some x->ai.get? b=some x):Q v {s with heap:=ai,toks:=tk}:=by
 obtain⟨R',S'⟩:=R.grow hk
 exact k _ _ _ _ _ tk hp d R' S'
theorem lK {p:PV} {vs:List Value} (d:aU ab [p] vs):∃ v,vs=[v]/\cY ab p v:=by
 cases vs with
 |nil=>exact d.elim
 |cons v r=>cases r with
  |nil=>exact⟨v,rfl,d.1⟩
  |cons _ _=>exact d.2.elim
theorem pu {p q:PV} {vs:List Value} (d:aU ab [p,q] vs):∃ v u,vs=[v,u]/\cY ab p v/\cY ab q u:=by
 cases vs with
 |nil=>exact d.elim
 |cons v r=>
  obtain⟨u,rfl,h⟩:=lK d.2
  exact⟨v,u,rfl,d.1,h⟩
theorem Lb {p q x:PV} {vs:List Value} (d:aU ab [p,q,x] vs):∃ v u y,vs=[v,u,y]/\cY ab p v/\cY ab q u/\cY ab x y:=by
 cases vs with
 |nil=>exact d.elim
 |cons v r=>
  obtain⟨u,y,rfl,h,g⟩:=pu d.2
  exact⟨v,u,y,rfl,d.1,h,g⟩
theorem pv {a b:Int} (ha:a.natAbs<=1000000) (hb:b.natAbs<=1000000):Builtin.Range.small a b 1=true:=by
 unfold Builtin.Range.small Builtin.Range.rangeFitsLong
 rw[rangeSize_one]
 simp
 split<;>omega
theorem pw {vs:List Value} {ns:List Int} (h:IntsAre vs ns):aU ab (aa ns) vs:=by
 induction h with
 |nil=>trivial
 |cons n t r ih=>exact⟨⟨t,rfl⟩,ih⟩
theorem rR (a b:Int):Builtin.Range.rangeSize a b 1=(((b-a).toNat:Nat):Int):=by
 rw[rangeSize_one];split<;>(first|exact la [] [_,_] [.T .V0 .V1] (.E (.s .V1 .V0) (.c (.t (.s .V1 .V0)))) (.o 0 (.k true (.t (.s .V1 .V0)) (.o 0 (.f [0,1,0,1]) (.f [0,1,0,1,1]))) (.k true (.t (.s .V1 .V0)) (.o 0 (.f [1,0,0,1]) (.f [0,0,1,0,1])))) rfl ‹_› |exact la [] [_,_] [.n (.T .V0 .V1)] (.E .n0 (.c (.t (.s .V1 .V0)))) (.o 0 (.k true (.t (.s .V1 .V0)) (.o 0 (.f [0,1,0,1,1]) (.f [0,1,0,1]))) (.f [1])) rfl ‹_›)
theorem vx {n:Nat} (h:aV n):(n:Int)<2^63:=by unfold aV at h;exact la [_] [] [.l .v0 (.n 1000000)] (.T (.c .v0) (.n 9223372036854775808)) (.f [1,1]) rfl h
theorem Ql {k:Int->Prop} {ps:List PV} {vs:List Value} (h:A1 (vI k) ps) (d:aU ab ps vs):∃ a t,vs=[.int a t]/\k a:=by
 obtain⟨v,rfl,g⟩:=h.inv
 obtain⟨a,rfl,g'⟩:=g.inv
 obtain⟨v,rfl,t,rfl⟩:=lK d
 exact⟨a,t,rfl,g'⟩
theorem G0 {k:Nat->Prop} {ps:List PV} {vs:List Value} (h:A1 (vR k) ps) (d:aU ab ps vs):∃ i a,vs=[.ref a]/\ab[i]? =some a/\k i:=by
 obtain⟨v,rfl,g⟩:=h.inv
 obtain⟨i,rfl,g'⟩:=g.inv
 obtain⟨v,rfl,a,ea,rfl⟩:=lK d
 exact⟨i,a,rfl,ea,g'⟩
theorem Qm {k:Int->Int->Prop} {ps:List PV} {vs:List Value} (h:A2 (λa b=>vI (λa=>vI (λb=>k a b) b) a) ps) (d:aU ab ps vs):∃ a b t t',vs=[.int a t,.int b t']/\k a b:=by
 obtain⟨v,u,rfl,g⟩:=h.inv
 obtain⟨a,rfl,g'⟩:=g.inv
 obtain⟨b,rfl,WJ⟩:=g'.inv
 obtain⟨v,u,rfl,⟨t,rfl⟩,⟨t',rfl⟩⟩:=pu d
 exact⟨a,b,t,t',rfl,WJ⟩
theorem G2 {ps:List PV} {vs:List Value} (hw:Cz .len ps P σ) (R:aH cx env ab σ s.heap) (d:aU ab ps vs) (k:bB cx env ab s P Q):wpAny (model cx.prog cx.w) A (call B.len.value vs) Q E s:=by
 obtain⟨v,rfl,hw⟩:=A1.inv hw
 cases v with
 |str z=>
  obtain⟨v,rfl,t,rfl⟩:=lK d
  exact PyProof.Rows.len_str (Int.not_le.mpr (vx hw.1)) (k.same R hw.2 ⟨_,rfl⟩)
 |ref i=>
  obtain⟨v,rfl,a,ea,rfl⟩:=lK d
  obtain⟨xs,hx,hw⟩:=fg hw
  obtain⟨vs,n,dd,hl⟩:=R.list ea hx
  have hs:vs.toArray.size=xs.length:=by rw[aar,dd.length]
  refine PyProof.Rows.len_list (aI hl) (by rw[hs];exact vx hw.1) ?_
  rw[hs]
  exact k.same R hw.2 ⟨_,rfl⟩
 |_=>exact hw.elim
theorem y4 {ps:List PV} {vs:List Value} (hw:Cz .range ps P σ) (R:aH cx env ab σ s.heap) (d:aU ab ps vs) (k:bB cx env ab s P Q):wpAny (model cx.prog cx.w) A (call B.range.value vs) Q E s:=by
 rcases ps with _|⟨a,_|⟨b,_|⟨c,_|⟨_,_⟩⟩⟩⟩
 .exact False.elim hw
 .obtain⟨b,rfl,iA⟩:=vI.inv (v:=a) hw
  obtain⟨v,rfl,t,rfl⟩:=lK d
  refine call_range_1 (k.new R iA.2 ⟨_,_,_,_,rfl,pv (by decide) iA.1,?_⟩)
  rw[rR,Int.sub_zero]
 .obtain⟨a,rfl,iA⟩:=vI.inv (v:=a) hw
  obtain⟨b,rfl,kR⟩:=vI.inv iA
  obtain⟨v,u,rfl,⟨t,rfl⟩,⟨t',rfl⟩⟩:=pu d
  exact call_range_2 (k.new R kR.2.2 ⟨_,_,_,_,rfl,pv kR.1 kR.2.1,rR _ _⟩)
 .obtain⟨a,rfl,iA⟩:=vI.inv (v:=a) hw
  obtain⟨b,rfl,kR⟩:=vI.inv iA
  obtain⟨c,rfl,xI⟩:=vI.inv kR
  obtain⟨v,u,y,rfl,⟨t,rfl⟩,⟨t',rfl⟩,⟨Zb,rfl⟩⟩:=Lb d
  obtain⟨n,h1,h2,h3,h4,hq⟩:=xI
  refine call_range_3 h1 (k.new R hq ⟨_,_,_,_,rfl,h3,h4⟩) (.inl (noPylong_small ?_))
  exact la [] [_] [.l (.b .V0) (.n 1000000)] (.t (.b .V0) (.n 1073741824)) (.f [1,1]) rfl h2
 .exact False.elim hw
theorem CF {ps:List PV} {vs:List Value} (hA:A.handled=none) (hw:Cz .list ps P σ) (R:aH cx env ab σ s.heap) (d:aU ab ps vs) (k:bB cx env ab s P Q):wpAny (model cx.prog cx.w) A (call B.list.value vs) Q E s:=by
 obtain⟨i,a,rfl,ea,hw⟩:=G0 hw d
 obtain⟨a,c,n,hx,hw⟩:=KW hw
 obtain⟨ob,h1,b,t,u,v,rfl,h2,h3⟩:=R.at ea hx
 refine call_list_range hA h1 h2 h3 (by have:=hw.1;unfold aV at this;exact la [_] [] [.l .v0 (.n 1000000)] (.l .v0 (.n 16777216)) (.f [1,1]) rfl this) λh' tk c7 c' hk Vo oM=>?_
 refine k.adopt R hw.2 (aO (ZA _)) hk (by rw[show c7=c7.toList.toArray from(Array.toArray_toList ..).symm] at Vo;exact Vo) ⟨c7.toList,_,?_,rfl⟩
 refine Cv (by rw[ZI,aaK,Array.length_toList,oM.1]) λi p e=>?_
 rw[Z9] at e
 obtain⟨j,hj,rfl⟩:=Option.map_eq_some_iff.mp e
 have Lc:i<n:=by
  have:=(Zv.mp hj).1
  rwa [aaK] at this
 have rL:j=i:=by
  rw[List.getElem?_range Lc] at hj
  exact(aan hj).symm
 subst rL
 have:j<c7.size:=by rw[oM.1];exact Lc
 have xJ:c7[j]? =some c7[j]:=Array.getElem?_eq_getElem this
 obtain⟨tk,e2⟩:=oM.2 j c7[j] xJ
 refine⟨c7[j],by rw[Array.getElem?_toList];exact xJ,tk,e2⟩
theorem G3 {ps:List PV} {vs:List Value} (hA:A.handled=none) (hw:Cz .sum ps P σ) (R:aH cx env ab σ s.heap) (d:aU ab ps vs) (k:bB cx env ab s P Q):wpAny (model cx.prog cx.w) A (call B.sum.value vs) Q E s:=by
 obtain⟨i,a,rfl,ea,hw⟩:=G0 hw d
 obtain⟨xs,hx,hw⟩:=fg hw
 obtain⟨vs,n,dd,hl⟩:=R.list ea hx
 obtain⟨ns,rS,hw⟩:=tZ hw
 have hi:=intsAre_of dd rS
 obtain⟨ys,hy⟩:=hi.allInts.items
 have Ps:s.heap.IsList a (intItems ys):=hy▸aI hl
 refine sum_intListG hA Ps λh' tk t' hk=>?_
 have e1:ns=ys.toList.map (·.1):=by
  rw[<-nums_intItems,<-hy]
  exact(show numsOf vs.toArray.toList=ns from hi.numsOf).symm
 have e2:preSum (numAt ys) ys.size=ns.sum:=by
  rw[preSum_eq,List.take_of_length_le (by rw[ZI,Array.length_toList];exact ZA _),e1]
 rw[e2]
 exact k.grown R hw ⟨_,rfl⟩ hk
theorem xK {ps:List PV} {vs:List Value} (hw:Cz .sorted ps P σ) (R:aH cx env ab σ s.heap) (d:aU ab ps vs) (k:bB cx env ab s P Q):wpAny (model cx.prog cx.w) A (call B.sorted.value vs) Q E s:=by
 obtain⟨i,a,rfl,ea,hw⟩:=G0 hw d
 obtain⟨xs,hx,hw⟩:=fg hw
 obtain⟨vs,n,dd,hl⟩:=R.list ea hx
 obtain⟨ns,rS,hw⟩:=tZ hw
 have hi:=intsAre_of dd rS
 refine sorted_ints (aI hl) hi (by rw[<-hi.length] at hw;exact hw.1) λout GW h1 h2 h3=>?_
 obtain⟨e,he⟩:=sortedAll_at s.heap vs out
 refine k.adopt R (hw.2 GW h2 h3) (aO (by exact la [_] [] [] (.l .v0 (.a .v0 .n1)) (.f [1]) rfl)) ?_ (by rw[show out=out.toList.toArray from(Array.toArray_toList ..).symm] at he;exact he) ⟨_,_,pw h1,rfl⟩
 exact λb x=>sortedAll_old
theorem CG {ps:List PV} {vs:List Value} (hw:Cz .next ps P σ) (R:aH cx env ab σ s.heap) (d:aU ab ps vs) (k:bB cx env ab s P Q):wpAny (model cx.prog cx.w) A (call B.next.value vs) Q E s:=by
 obtain⟨j,a,rfl,ea,hw⟩:=G0 hw d
 obtain⟨l,i,hx,hw⟩:=KY hw
 obtain⟨ob,h1,al,h2,rfl⟩:=R.at ea hx
 obtain⟨xs,hx,hw⟩:=fg hw
 obtain⟨vs,n,dd,hl⟩:=R.list h2 hx
 obtain⟨p,hp,hw⟩:=Cw hw
 obtain⟨v,hv,dv⟩:=dd.get hp
 refine ni h1 hl hv λh' hg hs=>?_
 obtain⟨R',S'⟩:=R.write ea hs hg (o:=.lit l (i+1)) ⟨al,h2,rfl⟩
 exact k _ _ _ _ _ _ hw dv R' S'
theorem G4 {ps:List PV} {vs:List Value} (hw:Cz .isinstance ps P σ) (R:aH cx env ab σ s.heap) (d:aU ab ps vs) (k:bB cx env ab s P Q):wpAny (model cx.prog cx.w) A (call B.isinstance.value vs) Q E s:=by
 obtain⟨v,u,rfl,iA⟩:=A2.inv hw
 obtain⟨i,rfl,WK,kR⟩:=vR.inv iA
 subst WK
 obtain⟨v,u,rfl,⟨a,ea,rfl⟩,hu⟩:=pu d
 have hu:u=_:=hu
 subst hu
 obtain⟨xs,hx,xI⟩:=yY kR
 obtain⟨vs,n,dd,hl⟩:=R.tup ea hx
 exact PySem.IsiPair.tuple_tuple hl rfl (k.same R xI rfl)
theorem xL {f:B} {ps:List PV} {vs:List Value} (hA:A.handled=none) (hw:Cz f ps P σ) (R:aH cx env ab σ s.heap) (d:aU ab ps vs) (k:bB cx env ab s P Q):
  wpAny (model cx.prog cx.w) A (call f.value vs) Q E s:=by
 cases f with
 |len=>exact G2 hw R d k
 |range=>exact y4 hw R d k
 |list=>exact CF hA hw R d k
 |max=>
  obtain⟨a,b,t,t',rfl,hw⟩:=Qm hw d
  refine max_two_ints hA λh' tk hk=>k.grown R hw ?_ hk
  split<;>exact⟨_,rfl⟩
 |min=>
  obtain⟨a,b,t,t',rfl,hw⟩:=Qm hw d
  refine min_two_ints hA λh' tk hk=>k.grown R hw ?_ hk
  split<;>exact⟨_,rfl⟩
 |sum=>exact G3 hA hw R d k
 |str=>
  obtain⟨a,t,rfl,hw⟩:=Ql hw d
  exact PySem.P.str_of_int hw.1 (k.same R hw.2 ⟨_,rfl⟩)
 |hex=>
  obtain⟨a,t,rfl,hw⟩:=Ql hw d
  exact PySem.P.hex_of_int (k.same R hw.2 ⟨_,rfl⟩) hw.1
 |sorted=>exact xK hw R d k
 |isinstance=>exact G4 hw R d k
 |iter=>
  obtain⟨i,a,rfl,ea,hw⟩:=G0 hw d
  obtain⟨xs,hx,hw⟩:=fg hw
  obtain⟨vs,n,dd,hl⟩:=R.list ea hx
  exact nh hl (k.new R hw ⟨a,ea,rfl⟩)
 |next=>exact CG hw R d k
 |divmod=>
  obtain⟨a,b,t,t',rfl,hw⟩:=Qm hw d
  exact divmod_int hw.1 (k.new R hw.2.2 ⟨[_,_],0,⟨⟨_,rfl⟩,⟨_,rfl⟩,trivial⟩,rfl⟩) (.inl (iD hw.2.1))
 |tuple=>exact False.elim hw
end
structure CxOk (cx:Cx):Prop where
 tab:∀ d D,cx.T d=some D->IntTab cx.prog cx.w cx.h₀ d D/\∃ o,cx.h₀.get? d=some o/\o.cls=.type "dict"/\o.dict=none
section
variable {cx:Cx} {env:Env} {ab:aT} {σ:St} {s:Shared} {A:Around} {P:bu} {Q:Value->Shared->Prop} {E:Value->Shared->Prop}
theorem t9 {xs:List PV} {vs:List Value} {ns:List Str} (d:aU ab xs vs):cC xs=some ns->StrsAre vs ns:=
 d.ind (P:=λa b=>∀ ns,cC a=some ns->StrsAre b ns) (λns h=>by cases h;exact .nil) (λp v ps vs a ø ih ns h=>by
  obtain⟨i,ms,rfl,h1,rfl⟩:=GY h
  obtain⟨t,rfl⟩:=a
  exact .cons _ _ (ih _ h1)) ns
theorem dS {k:Str->Prop} {o:PV} {v:Value} (h:vS k o) (d:cY ab o v):∃ z t,v=.str z t/\k z:=by
 obtain⟨z,rfl,g⟩:=h.inv
 obtain⟨t,rfl⟩:=d
 exact⟨z,t,rfl,g⟩
theorem dI {k:Int->Prop} {o:PV} {v:Value} (h:vI k o) (d:cY ab o v):∃ z t,v=.int z t/\k z:=by
 obtain⟨z,rfl,g⟩:=h.inv
 obtain⟨t,rfl⟩:=d
 exact⟨z,t,rfl,g⟩
theorem dR {k:Nat->Prop} {o:PV} {v:Value} (h:vR k o) (d:cY ab o v):∃ i a,v=.ref a/\ab[i]? =some a/\k i:=by
 obtain⟨z,rfl,g⟩:=h.inv
 obtain⟨a,ea,rfl⟩:=d
 exact⟨z,a,rfl,ea,g⟩
theorem d0 {k:Prop} {ps:List PV} {vs:List Value} (h:A0 k ps) (d:aU ab ps vs):vs=[]/\k:=by
 obtain⟨rfl,g⟩:=h.inv
 cases vs with
 |nil=>exact⟨rfl,g⟩
 |cons _ _=>exact d.elim
noncomputable def E6 (s:Shared) (ov:Value) (m:Mt):Prop:=∃ T,PlainAttrs T/\Slot T m.name m.id/\typeOf (.builtin m.id)=pure (.type "method_descriptor")/\s.TypeIs ov T/\(∀ a,ov=.ref a->∃ ob,s.heap.get? a=some ob/\ob.dict=none)
theorem j4 {m:Mt} {o:PV} {ov:Value} (R:aH cx env ab σ s.heap) (d:cY ab o ov) (h1:Slot "list" m.name m.id) (h2:typeOf (.builtin m.id)=pure (.type "method_descriptor")) (hw:vR (λi=>match σ.hp[i]? with
   |some (.list _)=>True
   |_=>False) o):E6 s ov m:=by
 obtain⟨i,a,rfl,ea,hw⟩:=dR hw d
 obtain⟨xs,hx,_⟩:=fg hw
 obtain⟨vs,n,dd,hl⟩:=R.list ea hx
 exact⟨"list",F.plainAttrs_list,h1,h2,(aI hl).typeIs,λb e=>by cases e;exact⟨_,hl,rfl⟩⟩
theorem CJ (C:CxOk cx) {o:PV} {ov:Value} (hw:pn cx .get o σ) (R:aH cx env ab σ s.heap) (d:cY ab o ov):E6 s ov .get:=by
 cases o with
 |val u=>cases u with
  |ref a=>
   have d:ov=_:=d
   subst d
   obtain⟨D,hD⟩:=ZJ.mp hw
   obtain⟨_,o,ho,hc,hd⟩:=C.tab _ D hD
   exact⟨"dict",F.plainAttrs_dict,F.slot_dict_get,F.type_dict_get,⟨o,R.keep _ _ ho,hc⟩,λa e=>by cases e;exact⟨o,R.keep _ _ ho,hd⟩⟩
  |_=>exact False.elim hw
 |_=>exact False.elim hw
theorem lP (C:CxOk cx) {m:Mt} {o:PV} {ov:Value} (hw:pn cx m o σ) (R:aH cx env ab σ s.heap) (d:cY ab o ov):
  ∃ T,PlainAttrs T/\Slot T m.name m.id/\typeOf (.builtin m.id)=pure (.type "method_descriptor")/\s.TypeIs ov T/\(∀ a,ov=.ref a->∃ ob,s.heap.get? a=some ob/\ob.dict=none):=by
 cases m with
 |lower=>
  obtain⟨z,t,rfl,_⟩:=dS hw d
  exact⟨"str",F.plainAttrs_str,F.slot_str_lower,F.type_str_lower,typeIs_str _ _ _,λø e=>(nomatch e)⟩
 |join=>
  obtain⟨z,t,rfl,_⟩:=dS hw d
  exact⟨"str",F.plainAttrs_str,F.slot_str_join,F.type_str_join,typeIs_str _ _ _,λø e=>(nomatch e)⟩
 |bit_length=>
  obtain⟨z,t,rfl,_⟩:=dI hw d
  exact⟨"int",F.plainAttrs_int,F.slot_int_bit_length,F.type_int_bit_length,typeIs_int _ _ _,λø e=>(nomatch e)⟩
 |get=>exact CJ C hw R d
 |append=>exact j4 R d F.slot_list_append F.type_list_append hw
 |extend=>exact j4 R d F.slot_list_extend F.type_list_extend hw
 |count=>exact j4 R d F.slot_list_count F.type_list_count hw
 |reverse=>exact j4 R d F.slot_list_reverse F.type_list_reverse hw
theorem CK {n:Nat} (h:aV n):tooLong n=false:=by
 have:=aX h
 unfold tooLong
 simp
 exact this
theorem xM {o:PV} {as:List PV} {ov:Value} {vs:List Value} (hw:CB cx .append o as P σ) (R:aH cx env ab σ s.heap) (d:cY ab o ov) (dd:aU ab as vs) (k:bB cx env ab s P Q):
  wpAny (model cx.prog cx.w) A (call (.builtin (Mt.id .append)) (ov::vs)) Q E s:=by
 obtain⟨i,a,rfl,ea,hw⟩:=dR hw d
 obtain⟨v,rfl,iA⟩:=A1.inv hw
 obtain⟨u,rfl,dv⟩:=lK dd
 obtain⟨xs,hx,kR⟩:=fg iA
 obtain⟨vs,n,dd,hl⟩:=R.list ea hx
 refine wpAny_list_append_plain ⟨n,hl⟩ (λh' hg hs=>?_) (by rw[aar,<-dd.length];exact aX kR.1)
 obtain⟨n',hg⟩:=hg
 obtain⟨R',S'⟩:=R.write ea hs hg (o:=.list _) ⟨vs++[u],n',dd.append (qs:=[_]) (ws:=[u]) ⟨dv,trivial⟩,by rw[List.push_toArray]⟩
 exact k _ _ _ _ _ _ kR.2 rfl R' S'
theorem xN {o:PV} {as:List PV} {ov:Value} {vs:List Value} (hw:CB cx .extend o as P σ) (R:aH cx env ab σ s.heap) (d:cY ab o ov) (dd:aU ab as vs) (k:bB cx env ab s P Q):
  wpAny (model cx.prog cx.w) A (call (.builtin (Mt.id .extend)) (ov::vs)) Q E s:=by
 obtain⟨i,a,rfl,ea,hw⟩:=dR hw d
 obtain⟨j,b,rfl,eb,iA⟩:=G0 hw dd
 obtain⟨xs,hx,ys,hy,kR⟩:=Cy iA
 obtain⟨vs,n,d1,hl⟩:=R.list ea hx
 obtain⟨ws,n2,d2,hb⟩:=R.list eb hy
 have GX:=aX kR.1
 rw[d1.length,d2.length] at GX
 refine call_meets F.slot_list_extend (aI hl).typeIs F.entry_list_extend (F.args_list_extend_2 _ _)
  (AutoSeq1.list_extend_list_list_0 _ vs.toArray n _ ws.toArray n2 (by simp [Builtin.List.listTooLong];intro _;omega) (by simp;omega) (by simp;omega)) ⟨hl,hb,?_⟩
 have e:Obj.mapSeq (λx=>x++ws.toArray) (bN vs n)=bN (vs++ws) (if(vs++ws).toArray.size==vs.toArray.size then n else n+1):=by
  simp [Obj.mapSeq,bN]
 obtain⟨R',S'⟩:=R.write ea (aaM _ _ (Obj.mapSeq λx=>x++ws.toArray)) (by rw[aaD _ hl (by rw[e];rfl),e]) (o:=.list _) ⟨vs++ws,_,d1.append d2,rfl⟩
 exact k _ _ _ _ _ _ kR.2 rfl R' S'
theorem CL {o:PV} {as:List PV} {ov:Value} {vs:List Value} (hw:CB cx .join o as P σ) (R:aH cx env ab σ s.heap) (d:cY ab o ov) (dd:aU ab as vs) (k:bB cx env ab s P Q):
  wpAny (model cx.prog cx.w) A (call (.builtin (Mt.id .join)) (ov::vs)) Q E s:=by
 obtain⟨z,t,rfl,hw⟩:=dS hw d
 obtain⟨i,a,rfl,ea,iA⟩:=G0 hw dd
 obtain⟨xs,hx,kR⟩:=fg iA
 obtain⟨vs,n,d1,hl⟩:=R.list ea hx
 obtain⟨ys,WL,xI⟩:=GU kR
 exact join_list (aI hl) (t9 d1 WL) (by have:=xI.1;unfold aV at this;exact la [_,_] [] [.l (.a .v0 .v1) (.n 1000000)] (.l (.a .v0 .v1) (.n 16777216)) (.f [1,1]) rfl this) λt' tk=>k.same R xI.2 ⟨_,rfl⟩
set_option tactic.hygienic true in
theorem G5 (C:CxOk cx) {o:PV} {as:List PV} {ov:Value} {vs:List Value} (hw:CB cx .get o as P σ) (R:aH cx env ab σ s.heap) (d:cY ab o ov) (dd:aU ab as vs) (k:bB cx env ab s P Q):
  wpAny (model cx.prog cx.w) A (call (.builtin (Mt.id .get)) (ov::vs)) Q E s:=by
 cases o with
 |val u=>cases u with
  |ref q=>
   have d:ov=_:=d
   subst d
   obtain⟨y,z,rfl,iA⟩:=A2.inv hw
   obtain⟨y,rfl,kR⟩:=vI.inv iA
   obtain⟨z,rfl,xI⟩:=vS.inv kR
   obtain⟨v,u,rfl,⟨t,rfl⟩,⟨t',rfl⟩⟩:=pu dd
   obtain⟨D,hD,Pt⟩:=KZ xI
   refine call_get2_intTab ((C.tab _ D hD).1.keep R.keep) (dd:=.str _) (.str _ _) λv hv=>?_
   split at Pt
   .rename_i x hx
    rw[hx] at hv
    cases hv {}
    exact k.same R Pt ⟨_,rfl⟩
   .rename_i hx
    rw[hx] at hv
    cases hv {}
    exact k.same R Pt ⟨_,rfl⟩
   .exact Pt.elim
  |_=>exact False.elim hw
 |_=>exact False.elim hw
theorem y5 {o:PV} {as:List PV} {ov:Value} {vs:List Value} (hw:CB cx .count o as P σ) (R:aH cx env ab σ s.heap) (d:cY ab o ov) (dd:aU ab as vs) (k:bB cx env ab s P Q):
  wpAny (model cx.prog cx.w) A (call (.builtin (Mt.id .count)) (ov::vs)) Q E s:=by
 obtain⟨i,a,rfl,ea,hw⟩:=dR hw d
 obtain⟨y,t,rfl,iA⟩:=Ql hw dd
 obtain⟨xs,hx,kR⟩:=fg iA
 obtain⟨vs,n,d1,hl⟩:=R.list ea hx
 obtain⟨ns,rS,xI⟩:=tZ kR
 exact count_list_ints (aI hl) (intsAre_of d1 rS) (k.same R xI ⟨_,rfl⟩)
theorem ua {o:PV} {as:List PV} {ov:Value} {vs:List Value} (hw:CB cx .reverse o as P σ) (R:aH cx env ab σ s.heap) (d:cY ab o ov) (dd:aU ab as vs) (k:bB cx env ab s P Q):
  wpAny (model cx.prog cx.w) A (call (.builtin (Mt.id .reverse)) (ov::vs)) Q E s:=by
 obtain⟨i,a,rfl,ea,hw⟩:=dR hw d
 obtain⟨rfl,iA⟩:=d0 hw dd
 obtain⟨xs,hx,kR⟩:=fg iA
 obtain⟨vs,n,d1,hl⟩:=R.list ea hx
 refine call_meets F.slot_list_reverse (aI hl).typeIs F.entry_list_reverse (F.args_list_reverse_1 _) (AutoListH.list_reverse_list_0 _ vs.toArray n (by rw[aar,<-d1.length];exact aX kR.1)) ⟨hl,?_⟩
 have e:Obj.mapSeq (λx=>x.reverse) (bN vs n)=bN vs.reverse n:=by
  simp [Obj.mapSeq,bN]
 obtain⟨R',S'⟩:=R.write ea (aaM _ _ (Obj.mapSeq λx=>x.reverse)) (by rw[aaD _ hl (by rw[e];rfl),e]) (o:=.list _) ⟨vs.reverse,_,d1.reverse,rfl⟩
 exact k _ _ _ _ _ _ kR.2 rfl R' S'
theorem pz (C:CxOk cx) {m:Mt} {o:PV} {as:List PV} {ov:Value} {vs:List Value} (hw:CB cx m o as P σ) (R:aH cx env ab σ s.heap) (d:cY ab o ov) (dd:aU ab as vs) (k:bB cx env ab s P Q):
  wpAny (model cx.prog cx.w) A (call (.builtin m.id) (ov::vs)) Q E s:=by
 cases m with
 |lower=>
  obtain⟨z,t,rfl,hw⟩:=dS hw d
  obtain⟨rfl,iA⟩:=d0 hw dd
  exact call_gives F.slot_str_lower (typeIs_str _ _ _) F.entry_str_lower (F.args_str_lower_1 _) (gives_str_lower _ t (CK iA.1)) ⟨aX iA.1,k.same R iA.2 ⟨_,rfl⟩⟩
 |append=>exact xM hw R d dd k
 |extend=>exact xN hw R d dd k
 |join=>exact CL hw R d dd k
 |get=>exact G5 C hw R d dd k
 |bit_length=>
  obtain⟨z,t,rfl,hw⟩:=dI hw d
  obtain⟨rfl,iA⟩:=d0 hw dd
  exact PyProof.Rows.call_int_bit_length (k.same R iA ⟨_,rfl⟩)
 |count=>exact y5 hw R d dd k
 |reverse=>exact ua hw R d dd k
end
set_option genCtorIdx true in
inductive fE where
 |lst (id i:Nat)|tupi (id i:Nat)|rng (a c:Int) (n i:Nat)|rev (id i:Nat)|enm (id i:Nat)
noncomputable def bw:fE->List PO->Option (Option (PV×fE×List PO))
 |.lst id i,hp=>(match hp[id]? with
   |some (.list xs)=>(match xs[i]? with
     |some v=>some (some (v,.lst id (i+1),hp))
     |none=>some none)
   |_=>none)
 |.tupi id i,hp=>(match hp[id]? with
   |some (.tup xs)=>(match xs[i]? with
     |some v=>some (some (v,.tupi id (i+1),hp))
     |none=>some none)
   |_=>none)
 |.rng a c n i,hp=>if i<n then some (some (.int (a+(i:Nat)*c),.rng a c n (i+1),hp)) else some none
 |.rev id i,hp=>(match i with
   |0=>some none
   |i+1=>(match hp[id]? with
     |some (.list xs)=>(match xs[i]? with
       |some v=>some (some (v,.rev id i,hp))
       |none=>none)
     |_=>none))
 |.enm id i,hp=>(match hp[id]? with
   |some (.list xs)=>(match xs[i]? with
     |some v=>some (some (.ref hp.length,.enm id (i+1),hp++[.tup [.int i,v]]))
     |none=>some none)
   |_=>none)
noncomputable def f0 (iv:PV) (Q:fE->St->Prop) (σ:St):Prop:=match iv with
 |.ref i=>(match σ.hp[i]? with
   |some (.list _)=>Q (.lst i 0) σ
   |some (.tup _)=>Q (.tupi i 0) σ
   |some (.rng a c n)=>Q (.rng a c n 0) σ
   |_=>False)
 |_=>False
noncomputable def dT:List (Nat×Pos)->List PV->Loc->Loc
 |(x,_)::r,v::vs,l=>dT r vs (l.set x v)
 |_,_,l=>l
noncomputable def aN (t:gj) (v:PV) (Q:St->Prop) (σ:St):Prop:=match t with
 |.name x _=>Q {σ with loc:=σ.loc.set x v}
 |.cel x _=>(match look σ.ce x with
   |some id=>(match σ.hp[id]? with
     |some (.cell _)=>Q {σ with hp:=σ.hp.set id (.cell (some v))}
     |_=>False)
   |none=>False)
 |.tup xs _ _=>(match v with
   |.ref i=>(match σ.hp[i]? with
     |some (.tup vs)=>vs.length=xs.length/\Q {σ with loc:=dT xs vs σ.loc}
     |_=>False)
   |_=>False)
noncomputable def pA (cx:Cx) (f:PV) (vs:List PV) (Q:bu) (σ:St):Prop:=match f with
 |.fn b=>Cz b vs Q σ
 |.val (.ref a)=>(match cx.D a with
   |some S=>S vs σ.hp (λr aE=>Q r {σ with hp:=aE})
   |none=>False)
 |.ref i=>(match σ.hp[i]? with
   |some (.clo k dk)=>(match cx.DC k dk with
     |some S=>S vs σ.hp (λr aE=>Q r {σ with hp:=aE})
     |none=>False)
   |_=>False)
 |_=>False
noncomputable def G6 (x:Nat) (Q:bu) (σ:St):Prop:=match look σ.ce x with
 |some id=>(match σ.hp[id]? with
   |some (.cell (some v))=>Q v σ
   |_=>False)
 |none=>False
noncomputable def ik:PySem.BoolOp->Bool->Bool
 |.And,t=> !t
 |.Or,t=>t
noncomputable def PE.isAbs:PE->Bool
 |.absent=>true
 |_=>false
noncomputable def kS (b:Bool) (w:bu->St->Prop) (Q:bu) (σ:St):Prop:=match b with
 |true=>Q .none σ
 |false=>w Q σ
noncomputable def jG (fr:List Nat) (ce:List (Nat×Nat)):List (Nat×Nat):=fr.filterMap λx=>(look ce x).map (x,.)
noncomputable def bh (oN:PV->(St->Prop)->St->Prop) (dF:(Bool->St->Prop)->St->Prop) (bI:bu->St->Prop) (K:List PV->St->Prop):Nat->fE->List PV->St->Prop
 |0,_,_,_=>False
 |n+1,it,aD,σ=>(match bw it σ.hp with
   |none=>False
   |some none=>K aD σ
   |some (some (v,gV,aE))=>oN v (dF λok aw=>(ok=true->bI (λp cn=>aV aD.length/\bh oN dF bI K n gV (aD++[p]) cn) aw)/\(ok=false->bh oN dF bI K n gV aD aw)) {σ with hp:=aE})
mutual
noncomputable def aZ (cx:Cx):PE->bu->St->Prop
 |.int i _,Q,σ=>Q (.int i) σ
 |.str s _,Q,σ=>Q (.str s) σ
 |.none _,Q,σ=>Q .none σ
 |.bool b _,Q,σ=>Q (.bool b) σ
 |.loc x _,Q,σ=>(match σ.loc.get x with
   |some v=>Q v σ
   |none=>False)
 |.cel x _,Q,σ=>G6 x Q σ
 |.glob x _,Q,σ=>(match cx.G x with
   |some v=>Q v σ
   |none=>False)
 |.bin op l r _,Q,σ=>aZ cx l (λa=>aZ cx r (λb=>yX op a b Q)) σ
 |.un op e _,Q,σ=>aZ cx e (λv=>Qd op v Q) σ
 |.cmp op l r _,Q,σ=>aZ cx l (λa=>aZ cx r (λb=>xA op a b Q)) σ
 |.bop op es _,Q,σ=>E7 cx op es Q σ
 |.ite t a b _,Q,σ=>iB cx t (λc ae=>(c=true->aZ cx a Q ae)/\(c=false->aZ cx b Q ae)) σ
 |.call f bo _,Q,σ=>aZ cx f (λfv=>gW cx bo (λvs=>pA cx fv vs Q)) σ
 |.meth o m _ bo _,Q,σ=>aZ cx o (λov ae=>pn cx m ov ae/\gW cx bo (λvs=>CB cx m ov vs Q) ae) σ
 |.sub o i _,Q,σ=>aZ cx o (λov=>aZ cx i (λiv=>GS ov iv Q)) σ
 |.slice o lo hi st _ _,Q,σ=>aZ cx o (λov=>kS lo.isAbs (aZ cx lo) (λl=>kS hi.isAbs (aZ cx hi) (λh=>kS st.isAbs (aZ cx st) (λs=>mY ov l h s Q)))) σ
 |.absent,_,_=>False
 |.list es _,Q,σ=>gW cx es (λvs ae=>aV vs.length/\push (.list vs) Q ae) σ
 |.tup es _ _,Q,σ=>gW cx es (λvs ae=>aV vs.length/\push (.tup vs) Q ae) σ
 |.comp bI bU it iz fr _ _,Q,σ=>(fr.all λx=>(look σ.ce x).isSome)=true/\aZ cx it (λiv=>f0 iv (λa9 aw=>
   ∃ n,bh (aN bU) (cu cx iz) (aZ cx bI) (λxs jX=>push (.list xs) Q {aw with hp:=jX.hp}) n a9 [] {loc:=[],ce:=jG fr aw.ce,hp:=aw.hp})) σ
 |.compEn bI bU gx _ x _ fr _ _,Q,σ=>cx.EN gx/\(fr.all λx=>(look σ.ce x).isSome)=true/\aZ cx x (λiv aw=>(match iv with
   |.ref i=>(match aw.hp[i]? with
     |some (.list _)=>
       ∃ n,bh (aN bU) (λQ=>Q true) (aZ cx bI) (λxs jX=>push (.list xs) Q {aw with hp:=jX.hp}) n (.enm i 0) [] {loc:=[],ce:=jG fr aw.ce,hp:=aw.hp}
     |_=>False)
   |_=>False)) σ
 |.ext k e,Q,σ=>cx.XE k=some e/\cx.XW k Q σ
noncomputable def gW (cx:Cx):ca->(List PV->St->Prop)->St->Prop
 |.nil,Q,σ=>Q [] σ
 |.cons e es,Q,σ=>aZ cx e (λv=>gW cx es (λvs=>Q (v::vs))) σ
noncomputable def E7 (cx:Cx) (op:PySem.BoolOp):ca->bu->St->Prop
 |.nil,_,_=>False
 |.cons e es,Q,σ=>(match es with
   |.nil=>aZ cx e Q σ
   |.cons _ _=>aZ cx e (λv=>oJ v (λt ae=>(ik op t=true->Q v ae)/\(ik op t=false->E7 cx op es Q ae))) σ)
noncomputable def iB (cx:Cx):PE->(Bool->St->Prop)->St->Prop
 |.un .Not e _,Q,σ=>iB cx e (λb=>Q (!b)) σ
 |.bop op es _,Q,σ=>ub cx op es Q σ
 |.cmp op l r _,Q,σ=>aZ cx l (λa=>aZ cx r (λb=>xA op a b (λv=>oJ v Q))) σ
 |.loc x _,Q,σ=>(match σ.loc.get x with
   |some v=>oJ v Q σ
   |none=>False)
 |.cel x _,Q,σ=>G6 x (λv=>oJ v Q) σ
 |.bin op l r _,Q,σ=>aZ cx l (λa=>aZ cx r (λb=>yX op a b (λv=>oJ v Q))) σ
 |.call f bo _,Q,σ=>aZ cx f (λfv=>gW cx bo (λvs=>pA cx fv vs (λv=>oJ v Q))) σ
 |.slice o lo hi st _ _,Q,σ=>aZ cx o (λov=>kS lo.isAbs (aZ cx lo) (λl=>kS hi.isAbs (aZ cx hi) (λh=>kS st.isAbs (aZ cx st) (λs=>mY ov l h s (λv=>oJ v Q))))) σ
 |_,_,_=>False
noncomputable def ub (cx:Cx) (op:PySem.BoolOp):ca->(Bool->St->Prop)->St->Prop
 |.nil,Q,σ=>Q (op== .And) σ
 |.cons e es,Q,σ=>iB cx e (λt ae=>(ik op t=true->Q t ae)/\(ik op t=false->ub cx op es Q ae)) σ
noncomputable def cu (cx:Cx):ca->(Bool->St->Prop)->St->Prop
 |.nil,Q,σ=>Q true σ
 |.cons e es,Q,σ=>iB cx e (λt ae=>(t=true->cu cx es Q ae)/\(t=false->Q false ae)) σ
end
noncomputable abbrev ba:=PF->St->Prop
noncomputable def jH (cx:Cx) (t:PT) (v:PV) (Q:St->Prop) (σ:St):Prop:=match t with
 |.name x _=>Q {σ with loc:=σ.loc.set x v}
 |.cel x _=>(match look σ.ce x with
   |some id=>(match σ.hp[id]? with
     |some (.cell _)=>Q {σ with hp:=σ.hp.set id (.cell (some v))}
     |_=>False)
   |none=>False)
 |.tup xs _ _=>(xs.map (·.1)).Nodup/\(match v with
   |.ref i=>(match σ.hp[i]? with
     |some (.tup vs)=>vs.length=xs.length/\Q {σ with loc:=dT xs vs σ.loc}
     |_=>False)
   |_=>False)
 |.sub o i _=>aZ cx o (λov=>aZ cx i (λiv ae=>KV ov iv v Q ae)) σ
noncomputable def vy (Q:ba) (again:St->Prop):PF->St->Prop
 |.next,σ=>again σ
 |.brk,σ=>Q .next σ
 |.ret v,σ=>Q (.ret v) σ
noncomputable def iF (iG:(Bool->St->Prop)->St->Prop) (body gB:ba->St->Prop) (Q:ba):Nat->St->Prop
 |0,_=>False
 |n+1,σ=>iG (λt ae=>(t=true->body (vy Q (iF iG body gB Q n)) ae)/\(t=false->gB Q ae)) σ
noncomputable def kW (oN:PV->(St->Prop)->St->Prop) (body gB:ba->St->Prop) (Q:ba):Nat->fE->St->Prop
 |0,_,_=>False
 |n+1,it,σ=>(match bw it σ.hp with
   |none=>False
   |some none=>gB Q σ
   |some (some (v,gV,aE))=>oN v (body (vy Q (kW oN body gB Q n gV))) {σ with hp:=aE})
mutual
noncomputable def wpS (cx:Cx):PS->ba->St->Prop
 |.assign t e _,Q,σ=>aZ cx e (λv=>jH cx t v (Q .next)) σ
 |.assign2 t u e _,Q,σ=>aZ cx e (λv=>jH cx t v (jH cx u v (Q .next))) σ
 |.aug x _ op e _,Q,σ=>(match σ.loc.get x with
   |some (.int a)=>aZ cx e (λv ae=>(match v with
     |.int b=>binI op a b (λr aw=>Q .next {aw with loc:=aw.loc.set x r}) ae
     |_=>False)) σ
   |_=>False)
 |.expr e _,Q,σ=>aZ cx e (λø ae=>Q .next ae) σ
 |.ite t body gB _,Q,σ=>iB cx t (λb ae=>(b=true->aF cx body Q ae)/\(b=false->aF cx gB Q ae)) σ
 |.whl t body gB _,Q,σ=>∃ n,iF (iB cx t) (aF cx body) (aF cx gB) Q n σ
 |.fo t it body gB _,Q,σ=>aZ cx it (λiv=>f0 iv (λa9 ae=>∃ n,kW (aN t) (aF cx body) (aF cx gB) Q n a9 ae)) σ
 |.foRev t x _ it _ body gB _,Q,σ=>cx.RV x/\aZ cx it (λiv ae=>(match iv with
   |.ref i=>(match ae.hp[i]? with
     |some (.list xs)=>aV xs.length/\∃ n,kW (aN t) (aF cx body) (aF cx gB) Q n (.rev i xs.length) ae
     |_=>False)
   |_=>False)) σ
 |.ret e _,Q,σ=>aZ cx e (λv=>Q (.ret v)) σ
 |.ret0 _,Q,σ=>Q (.ret .none) σ
 |.brk _,Q,σ=>Q .brk σ
 |.ext k t xs,Q,σ=>cx.SE k t xs/\cx.SW k Q σ
noncomputable def aF (cx:Cx):ao->ba->St->Prop
 |.nil,Q,σ=>Q .next σ
 |.cons s ss,Q,σ=>wpS cx s (λf ae=>(match f with
   |.next=>aF cx ss Q ae
   |f=>Q f ae)) σ
end
theorem ax {o:Option PV} {v:PV} {A:PV->Prop}:o=some v->A v->(match o with|some v=>A v|none=>False):=λh k=>by subst h;exact k
theorem lQ {o:Option Nat} {v:Nat} {A:Nat->Prop}:o=some v->A v->(match o with|some v=>A v|none=>False):=λh k=>by subst h;exact k
theorem bP {o:Option Spec} {v:Spec} {A:Spec->Prop}:o=some v->A v->(match o with|some v=>A v|none=>False):=λh k=>by subst h;exact k
theorem jI {o:Option (List Int)} {v:List Int} {A:List Int->Prop}:o=some v->A v->(match o with|some v=>A v|none=>False):=λh k=>by subst h;exact k
theorem y6 {o:Option (List Str)} {v:List Str} {A:List Str->Prop}:o=some v->A v->(match o with|some v=>A v|none=>False):=λh k=>by subst h;exact k
theorem pB {o:Option PV} {v:Int} {A:Int->Prop}:o=some (.int v)->A v->(match o with|some (.int v)=>A v|_=>False):=λh k=>by subst h;exact k
theorem bG {o:Option PO} {v:PV} {A:PV->Prop}:o=some (.cell (some v))->A v->(match o with|some (.cell (some v))=>A v|_=>False):=λh k=>by subst h;exact k
theorem cq {o:Option PO} {v:List PV} {A:List PV->Prop}:o=some (.list v)->A v->(match o with|some (.list v)=>A v|_=>False):=λh k=>by subst h;exact k
theorem gX {o:Option PO} {v:Option PV} {A:Prop}:o=some (.cell v)->A->(match o with|some (.cell _)=>A|_=>False):=λh k=>by subst h;exact k
theorem G7 {o:Option PO} {v:List PV} {A:Prop}:o=some (.tup v)->A->(match o with|some (.tup _)=>A|_=>False):=λh k=>by subst h;exact k
theorem e7 {o:Option PO} {v:List PV} {A:Prop}:o=some (.list v)->A->(match o with|some (.list _)=>A|_=>False):=λh k=>by subst h;exact k
theorem j6 {o:Option PO} {v:List PV} {A:List PV->Prop}:o=some (.tup v)->A v->(match o with|some (.tup v)=>A v|_=>False):=λh k=>by subst h;exact k
theorem Ld {o:Option PO} {a c:Int} {n:Nat} {A:Int->Int->Nat->Prop}:o=some (.rng a c n)->A a c n->(match o with|some (.rng a c n)=>A a c n|_=>False):=λh k=>by subst h;exact k
theorem pC {o:Option PO} {a:Nat} {c:List Nat} {A:Nat->List Nat->Prop}:o=some (.clo a c)->A a c->(match o with|some (.clo a c)=>A a c|_=>False):=λh k=>by subst h;exact k
theorem vz {o:Option PO} {a c:Nat} {A:Nat->Nat->Prop}:o=some (.lit a c)->A a c->(match o with|some (.lit a c)=>A a c|_=>False):=λh k=>by subst h;exact k
theorem lS {o p:Option PO} {v w:List PV} {A:List PV->List PV->Prop}:o=some (.list v)->p=some (.list w)->A v w->(match Operator.Add,o,p with|.Add,some (.list v),some (.list w)=>A v w|_,_,_=>False):=λh h' k=>by subst h;subst h';exact k
theorem Le {o p:Option PO} {v w:List PV} {A:List PV->List PV->Prop}:o=some (.list v)->p=some (.list w)->A v w->(match o,p with|some (.list v),some (.list w)=>A v w|_,_=>False):=λh h' k=>by subst h;subst h';exact k
theorem E8 {o:Option PO} {v:List PV} {A:List PV->Prop}:o=some (.list v)->A v->(match Operator.Mult,o with|.Mult,some (.list v)=>A v|_,_=>False):=λh k=>by subst h;exact k
theorem y7 {o p:Option PO} {v w:List PV} {A B:List PV->List PV->Prop}:o=some (.list v)->p=some (.list w)->A v w->(match CmpOp.NotEq,o,p with|.NotEq,some (.list v),some (.list w)=>A v w|.Eq,some (.list v),some (.list w)=>B v w|_,_,_=>False):=λh h' k=>by subst h;subst h';exact k
theorem Qn {o p:Option PO} {v w:List PV} {A B:List PV->List PV->Prop}:o=some (.list v)->p=some (.list w)->B v w->(match CmpOp.Eq,o,p with|.NotEq,some (.list v),some (.list w)=>A v w|.Eq,some (.list v),some (.list w)=>B v w|_,_,_=>False):=λh h' k=>by subst h;subst h';exact k
theorem Qo {o p:Option (List Int)} {v w:List Int} {A:List Int->List Int->Prop}:o=some v->p=some w->A v w->(match o,p with|some v,some w=>A v w|_,_=>False):=λh h' k=>by subst h;subst h';exact k
theorem y8 {o:Option Bool} {v:Bool} {A:Bool->Prop}:o=some v->A v->(match o with|some v=>A v|none=>False):=λh k=>by subst h;exact k
theorem pD {o:Option PO} {v:List PV} {A B:List PV->Prop}:o=some (.list v)->A v->(match o with|some (.list v)=>A v|some (.slist v _)=>B v|_=>False):=λh k=>by subst h;exact k
theorem Lf {o:Option PO} {v:List PV} {ob:Obj} {A B:List PV->Prop}:o=some (.slist v ob)->B v->(match o with|some (.list v)=>A v|some (.slist v _)=>B v|_=>False):=λh k=>by subst h;exact k
theorem il {o:Option PO} {v:List PV} {A B:Prop} {C:Int->Int->Nat->Prop}:o=some (.list v)->A->(match o with|some (.list _)=>A|some (.tup _)=>B|some (.rng a c n)=>C a c n|_=>False):=λh k=>by subst h;exact k
theorem E9 {o:Option PO} {v:List PV} {A B:Prop} {C:Int->Int->Nat->Prop}:o=some (.tup v)->B->(match o with|some (.list _)=>A|some (.tup _)=>B|some (.rng a c n)=>C a c n|_=>False):=λh k=>by subst h;exact k
theorem eR {o:Option PO} {a c:Int} {n:Nat} {A B:Prop} {C:Int->Int->Nat->Prop}:o=some (.rng a c n)->C a c n->(match o with|some (.list _)=>A|some (.tup _)=>B|some (.rng a c n)=>C a c n|_=>False):=λh k=>by subst h;exact k
theorem Lg (n k:Nat):pj n (k:Int)=k:=by unfold pj;rw[if_neg (Int.not_lt.mpr (ZP k))];exact ZO k
theorem Vp (n k:Nat): -(n:Int)<=(k:Int):=by exact la [_,_] [] [] (.L (.g (.c .v0)) (.c .v1)) (.f [1]) rfl
theorem G8 {o:Option PO} {xs:List PV} {k:Int} {v:PV} {A:PV->Prop}:o=some (.list xs)->xs[pj xs.length k]? =some v-> -(xs.length:Int)<=k->k.natAbs<=1000000->A v->
  (match o with|some (.list xs)=>(match xs[pj xs.length k]? with|some v=> -(xs.length:Int)<=k/\k.natAbs<=1000000/\A v|none=>False)|_=>False):=λh hv a b q=>cq h (ax hv ⟨a,b,q⟩)
theorem ay {o:Option PO} {xs:List PV} {k:Nat} {v:PV} {A:PV->Prop}:o=some (.list xs)->xs[k]? =some v->k<=1000000->A v->
  (match o with|some (.list xs)=>(match xs[pj xs.length (k:Int)]? with|some v=> -(xs.length:Int)<=(k:Int)/\(k:Int).natAbs<=1000000/\A v|none=>False)|_=>False):=λh hv b q=>G8 h (by rw[Lg];exact hv) (Vp _ _) b q
theorem uc {s:Str} {k:Int} {c:Nat} {A:Nat->Prop}:s.cps[pj s.length k]? =some c-> -(s.length:Int)<=k->k.natAbs<=1000000->A c->
  (match s.cps[pj s.length k]? with|some c=> -(s.length:Int)<=k/\k.natAbs<=1000000/\A c|none=>False):=λhv a b q=>lQ hv ⟨a,b,q⟩
theorem j7 {s:Str} {k:Nat} {c:Nat} {A:Nat->Prop}:s.cps[k]? =some c->k<=1000000->A c->
  (match s.cps[pj s.length (k:Int)]? with|some c=> -(s.length:Int)<=(k:Int)/\(k:Int).natAbs<=1000000/\A c|none=>False):=λhv b q=>uc (by rw[Lg];exact hv) (Vp _ _) b q
theorem mN {o:Option PO} {xs:List PV} {k':Int} {k:Nat} {v:PV} {A:PV->Prop}:k'=(k:Int)->o=some (.list xs)->xs[k]? =some v->k<=1000000->A v->
  (match o with|some (.list xs)=>(match xs[pj xs.length k']? with|some v=> -(xs.length:Int)<=k'/\k'.natAbs<=1000000/\A v|none=>False)|_=>False):=λe h hv b q=>by subst e;exact ay h hv b q
theorem vA {s:Str} {k':Int} {k:Nat} {c:Nat} {A:Nat->Prop}:k'=(k:Int)->s.cps[k]? =some c->k<=1000000->A c->
  (match s.cps[pj s.length k']? with|some c=> -(s.length:Int)<=k'/\k'.natAbs<=1000000/\A c|none=>False):=λe hv b q=>by subst e;exact j7 hv b q
theorem Lh {o:Option PO} {xs:List PV} {k:Int} {A:List PV->Prop}:o=some (.list xs)->0<=k->k<xs.length->k<=1000000->A xs->
  (match o with|some (.list xs)=>0<=k/\k<xs.length/\k<=1000000/\A xs|_=>False):=λh a b c q=>cq h ⟨a,b,c,q⟩
theorem jJ {o:Option PO} {xs:List PV} {k:Nat} {A:List PV->Prop}:o=some (.list xs)->k<xs.length->k<=1000000->A xs->
  (match o with|some (.list xs)=>0<=(k:Int)/\(k:Int)<xs.length/\(k:Int)<=1000000/\A xs|_=>False):=λh b c q=>Lh h (ZP k) (aak.mpr b) (aaf.mpr c) q
theorem gY {b:Bool} {P R:Prop} (e:b=true) (p:P):(b=true->P)/\(b=false->R):=⟨λø=>p,λq=>nomatch (e.symm.trans q)⟩
theorem gZ {b:Bool} {P R:Prop} (e:b=false) (p:R):(b=true->P)/\(b=false->R):=⟨λq=>(nomatch (e.symm.trans q)),λø=>p⟩
section
variable {prog:Program} {w:World} {A:Around} {R:Result->Shared->Prop} {s:Shared}
theorem y9 {bV it body ud env} (I:Nat->Shared->Prop)
  (bg:∀ n s,I n s->wpAny (model prog w) A (pyNext it) (λr bz=>match r with
   |none=>wpAny (model prog w) A (execs ud env) (λf dQ=>R (.ok f) dQ) (notedBy (model prog w) A env λe s'=>R (.error e) s') bz
   |some v=>wpAny (model prog w) A (letOwnedTupleGo bV it v) (λø bz=>wpAny (model prog w) A (assign bV env v) (λø gk=>wpAny (model prog w) A (execs body env) (λf dQ=>match f with
     |.next|.cont=>∃ m,m<n/\I m dQ
     |.brk=>R (.ok .next) dQ
     |.ret v=>R (.ok (.ret v)) dQ) (notedBy (model prog w) A env λe s'=>R (.error e) s') gk) (notedBy (model prog w) A env λe s'=>R (.error e) s') bz) (notedBy (model prog w) A env λe s'=>R (.error e) s') bz)
   (notedBy (model prog w) A env λe s'=>R (.error e) s') s)
  (n:Nat) (h:I n s):codeAny (model prog w) A (.forLoop bV it body ud env) R s:=by
 refine codeAny_loop' rfl I (λn s hI=>?_) n h
 show wpAny _ _ ((forTurn bV it body ud env).onRaise (λx=>do noteFrame x env;theTreesLotGoes x)) _ _ s
 refine wpAny_noted ?_
 simp only[forTurn]
 refine wpAny_bind (wpAny_standAt (wpAny_bind (wpAny_onRaise (wpAny_mono (bg n s hI) (λr bz ai=>?_) λø ø h'=>wpAny_standAt h'))))
 cases r with
 |none=>exact wpAny_pure (.inr ⟨rfl,codeAny_block ai⟩)
 |some v=>
  refine wpAny_bind (wpAny_mono ai (λø gk bf=>wpAny_bind (wpAny_mono bf (λø dQ cD=>wpAny_bind (wpAny_mono cD (λf kX fq=>?_) λø ø h'=>h')) λø ø h'=>h')) λø ø h'=>h')
  cases f with
  |next=>exact wpAny_pure (.inl ⟨rfl,fq⟩)
  |cont=>exact wpAny_pure (.inl ⟨rfl,fq⟩)
  |brk=>exact wpAny_pure fq
  |ret v=>exact wpAny_pure fq
theorem xO {bI bV iter:Expr} {iz:List Expr} {scope:Scope} {pos:Pos} {it aD:Value} {env:Env} (I:Nat->Shared->Prop)
  (bg:∀ n s,I n s->wpAny (model prog w) A (pyNext it) (λr bz=>match r with
   |none=>R (.ok .next) bz
   |some v=>wpAny (model prog w) A (letOwnedTupleGo bV it v) (λø bz=>wpAny (model prog w) A (assign bV env v) (λø gk=>
     wpAny (model prog w) A (forIn iz true λc r=>if r=true then do let ok<-isTrue c env (eval c env);pure (ForInStep.yield ok) else pure (ForInStep.yield r)) (λok dQ=>
      if ok=true then wpAny (model prog w) A (eval bI env) (λx kX=>
       wpAny (model prog w) A (call (.builtin "list.append") [aD,x]) (λø jw=>∃ m,m<n/\I m jw) (notedBy (model prog w) A env λe s'=>R (.error e) s') kX) (notedBy (model prog w) A env λe s'=>R (.error e) s') dQ
      else ∃ m,m<n/\I m dQ) (notedBy (model prog w) A env λe s'=>R (.error e) s') gk) (notedBy (model prog w) A env λe s'=>R (.error e) s') bz) (notedBy (model prog w) A env λe s'=>R (.error e) s') bz)
   (notedBy (model prog w) A env λe s'=>R (.error e) s') s)
  (n:Nat) (h:I n s):codeAny (model prog w) A (.compLoop (.ListComp bI [⟨bV,iter,iz,0⟩] scope pos) 0 it aD env) R s:=by
 refine codeAny_loop rfl I (λn s hI=>?_) n h
 show wpAny _ A ((compTurn (.ListComp bI [⟨bV,iter,iz,0⟩] scope pos) 0 it aD env).onRaise (λx=>do noteFrame x env;theTreesLotGoes x)) _ _ s
 refine wpAny_noted ?_
 rw[compTurn_list]
 refine wpAny_bind (wpAny_standAt (wpAny_bind (wpAny_mono (bg n s hI) (λr bz ai=>?_) λø ø h'=>h')))
 cases r with
 |none=>exact wpAny_pure ai
 |some v=>
  refine wpAny_bind (wpAny_mono ai (λø gk bf=>wpAny_bind (wpAny_mono bf (λø dQ cD=>wpAny_bind (wpAny_mono cD (λok kX fq=>?_) λø ø h'=>h')) λø ø h'=>h')) λø ø h'=>h')
  cases ok with
  |false=>exact wpAny_pure ⟨rfl,fq⟩
  |true=>
   exact wpAny_bind (wpAny_bind (wpAny_mono fq (λx jw gD=>wpAny_bind (wpAny_mono gD (λø Li rT=>wpAny_pure (wpAny_pure ⟨rfl,rT⟩)) λø ø h'=>h')) λø ø h'=>h'))
end
noncomputable def eT (ab:aT) (h:Heap) (H:List Addr) (I:Addr):fE->Prop
 |.lst id i=>H=[I]/\∃ a,ab[id]? =some a/\h.IsListIter I a i
 |.tupi id i=>H=[I]/\∃ a,ab[id]? =some a/\h.IsTupleIter I a i
 |.rng a c n i=>H=[I]/\i<=n/\IsRangeIter h I (a+(i:Nat)*c) ((n:Int)-(i:Nat)) c
 |.rev id i=>H=[I]/\∃ a,ab[id]? =some a/\h.IsRevIter I a ((i:Int)-1)
 |.enm id i=>∃ it a dC,H=[I,it]/\I≠it/\ab[id]? =some a/\IsEnum h I it i dC/\h.IsListIter it a i
theorem eT.keep {ab aj:aT} {h h':Heap} {H:List Addr} {I:Addr} (hE:mx ab aj):∀ {it:fE},eT ab h H I it->(∀ b∈H,∀ o,h.get? b=some o->h'.get? b=some o)->eT aj h' H I it:=λ{it}=>by
 cases it with
 |lst ø ø=>
  intro h k
  obtain⟨e,a,ha,o,ho,r⟩:=h
  exact⟨e,a,hE _ _ ha,o,k I (by rw[e];exact .head _) o ho,r⟩
 |tupi ø ø=>
  intro h k
  obtain⟨e,a,ha,o,ho,r⟩:=h
  exact⟨e,a,hE _ _ ha,o,k I (by rw[e];exact .head _) o ho,r⟩
 |rng ø ø ø ø=>
  intro h k
  obtain⟨e,l,r⟩:=h
  exact⟨e,l,k I (by rw[e];exact .head _) _ r⟩
 |rev ø ø=>
  intro h k
  obtain⟨e,a,ha,o,ho,r⟩:=h
  exact⟨e,a,hE _ _ ha,o,k I (by rw[e];exact .head _) o ho,r⟩
 |enm ø ø=>
  intro h k
  obtain⟨it,a,dC,e,n,ha,r,o,ho,q⟩:=h
  exact⟨it,a,dC,e,n,hE _ _ ha,k I (by rw[e];exact .head _) _ r,o,k it (by rw[e];exact .tail _ (.head _)) o ho,q⟩
noncomputable def NF (l:List Env) (b:Addr):Prop:=∀ e∈l,e.frame≠some b
theorem FF.keepNF {h₀ h h':Heap} {l:List Env}:(∀ b o,NF l b\/h.get? b=some o->NF l b\/∃ o',h'.get? b=some o'/\(eP o=true->eP o'=true))->FF h₀ h l->FF h₀ h' l:=by
 induction l with
 |nil=>exact λø ø=>trivial
 |cons e r ih=>
  rintro k ⟨⟨a,L,o,b,c,d,f⟩,g⟩
  refine⟨?_,ih (λb' o' q=>?_) g⟩
  .rcases k L o (.inr d) with q|⟨o',d',f'⟩
   .exact absurd b (q e (.head _))
   .exact⟨a,L,o',b,c,d',f' f⟩
  .rcases q with q|q
   .exact .inl q
   .exact(k b' o' (.inr q)).imp (λz x hx=>z x (.tail _ hx)) id
theorem FF.nf {h₀ h:Heap} {b:Addr} (hb:∀ o,h.get? b=some o->eP o=false) {l:List Env}:FF h₀ h l->NF l b:=by
 induction l with
 |nil=>exact λø ø h=>nomatch h
 |cons e r ih=>
  rintro⟨⟨_,L,o,q,_,d,f⟩,g⟩ x hx
  rcases ZF.mp hx with rfl|hx
  .intro z
   rw[q] at z;cases z
   rw[hb o d] at f;cases f
  .exact ih g x hx
noncomputable def dU (cx:Cx) (env:Env) (ab:aT) (H:List Addr):Prop:=∀ b∈H,(∀ i:Nat,ab[i]? ≠some b)/\b≠env.locals/\cx.h₀.get? b=none/\NF cx.fr b
noncomputable def fE.isEnm:fE->Bool
 |.enm .. =>true
 |_=>false
section
variable {cx:Cx} {env:Env} {ab:aT} {σ:St} {s:Shared} {A:Around} {E:Value->Shared->Prop}
theorem aH.hid {h h':Heap} {H:List Addr} (R:aH cx env ab σ h) (hH:dU cx env ab H) (hk:∀ b o,b∉H->h.get? b=some o->h'.get? b=some o):aH cx env ab σ h':=by
 refine⟨λb o e=>hk b o (λq=>?_) (R.keep b o e),R.off,R.offL,R.inj,R.notL,R.len,λi o e=>?_,?_,R.cel,R.ff.keepNF λb o q=>?_,R.tb⟩
 .have:=(hH b q).2.2.1;rw[e] at this;cases this
 .obtain⟨a,ob,e1,e2,e3⟩:=R.obj i o e
  exact⟨a,ob,e1,hk a _ (λq=>(hH a q).1 i e1) e2,e3⟩
 .obtain⟨m,hn,hm⟩:=R.loc
  exact⟨m,hn.at' λo e=>hk _ o (λq=>(hH _ q).2.1 rfl) e,hm⟩
 .rcases q with q|q
  .exact .inl q
  .by_cases z:b∈H
   .exact .inl (hH b z).2.2.2
   .exact .inr ⟨o,hk b o z q,id⟩
theorem aH.take {h:Heap} (R:aH cx env ab σ h) {a:Addr} {ob:Obj} {o:PO} (hg:h.get? a=some ob) (ho:cN cx ab ob o) (off:∀ i:Nat,ab[i]? ≠some a) (nL:a≠env.locals) (new:cx.h₀.get? a=none):
  aH cx env (ab++[a]) {σ with hp:=σ.hp++[o]} h:=by
 have hE:mx ab (ab++[a]):=.snoc _ _
 have oC:∀ (i:Nat) (b:Addr),(ab++[a])[i]? =some b->(ab[i]? =some b)\/(i=ab.length/\b=a):=λi b e=>c6 e
 refine⟨R.keep,λi b e=>?_,R.offL,λi j b e1 e2=>?_,λi b e=>?_,by simp [R.len],λi o' e=>?_,?_,λx i e=>?_,R.ff,λi a e=>hE _ _ (R.tb i a e)⟩
 .rcases oC i b e with q|⟨_,rfl⟩
  .exact R.off i b q
  .exact new
 .rcases oC i b e1 with q1|⟨rfl,q1⟩<;>rcases oC j b e2 with q2|⟨rfl,q2⟩
  .exact R.inj i j b q1 q2
  .subst q2;exact absurd q1 (off i)
  .subst q1;exact absurd q2 (off j)
  .rfl
 .rcases oC i b e with q|⟨_,rfl⟩
  .exact R.notL i b q
  .exact nL
 .dsimp only at e
  rcases c6 e with e|⟨rfl,rfl⟩
  .obtain⟨b,tT,e1,e2,e3⟩:=R.obj i o' e
   exact⟨b,tT,hE _ _ e1,e2,e3.mono hE⟩
  .exact⟨a,ob,by rw[<-R.len];exact ZR,hg,ho.mono hE⟩
 .obtain⟨m,hn,hm⟩:=R.loc
  exact⟨m,hn,λx p e=>(hm x p e).imp λø=>aaa (.mono hE)⟩
 .obtain⟨b,c,d⟩:=R.cel x i e
  exact⟨b,hE _ _ c,d⟩
set_option tactic.hygienic true in
theorem f4 {t:gj} {I:Addr} {v:Value} {o:Obj} {Q:Unit->Shared->Prop} (ho:s.heap.get? I=some o) (hc:∀ n vs,o.cls=.type n->o.data=.fields vs->(["enumerate","zip","dict_itemiterator","dict_reverseitemiterator","odict_iterator","itertools.zip_longest","itertools.pairwise"].contains n)=false) (hQ:Q () s):
  wpAny (model cx.prog cx.w) A (letOwnedTupleGo t.ex (.ref I) v) Q E s:=by
 cases t with
 |name x p=>exact wpAny_pure hQ
 |cel x p=>exact wpAny_pure hQ
 |tup xs k p=>
  unfold gj.ex letOwnedTupleGo
  cases v with
  |ref a=>
   refine wpAny_bind (wpAny_load ho ?_)
   revert hc
   generalize o.cls=c
   generalize o.data=d
   intro hc
   cases c with
   |type n=>cases d with
    |fields vs=>
     show wpAny _ _ (if _ then _ else _) _ _ _
     rw[if_neg (by rw[hc n vs rfl rfl,Bool.false_and];decide)]
     exact wpAny_pure hQ
    |_=>exact wpAny_pure hQ
   |_=>exact wpAny_pure hQ
  |_=>exact wpAny_pure hQ
theorem pE {o:Option PO} {F:List PV->Option (Option (PV×fE×List PO))} {r:Option (PV×fE×List PO)}:(match o with|some (.list v)=>F v|_=>none)=some r->∃ v,o=some (.list v)/\F v=some r:=by
 intro h
 cases o with
 |none=>cases h
 |some o=>cases o with
  |list v=>exact⟨v,rfl,h⟩
  |_=>cases h
theorem Fa {o:Option PO} {F:List PV->Option (Option (PV×fE×List PO))} {r:Option (PV×fE×List PO)}:(match o with|some (.tup v)=>F v|_=>none)=some r->∃ v,o=some (.tup v)/\F v=some r:=by
 intro h
 cases o with
 |none=>cases h
 |some o=>cases o with
  |tup v=>exact⟨v,rfl,h⟩
  |_=>cases h
theorem xP {o:Option PV} {F:PV->PV×fE×List PO} {r:Option (PV×fE×List PO)}:(match o with|some v=>some (some (F v))|none=>some none)=some r->(∃ v,o=some v/\r=some (F v))\/(o=none/\r=none):=by
 intro h
 cases o with
 |none=>cases h;exact .inr ⟨rfl,rfl⟩
 |some v=>cases h;exact .inl ⟨v,rfl,rfl⟩
theorem Fb {o:Option PV} {F:PV->PV×fE×List PO} {r:Option (PV×fE×List PO)}:(match o with|some v=>some (some (F v))|none=>none)=some r->∃ v,o=some v/\r=some (F v):=by
 intro h
 cases o with
 |none=>cases h
 |some v=>cases h;exact⟨v,rfl,rfl⟩
theorem nk {it gV:fE} {hp aE:List PO} {v:PV} (hn:bw it hp=some (some (v,gV,aE))):gV.isEnm=it.isEnm:=by
 cases it with
 |lst id i=>
  obtain⟨xs,hx,hn⟩:=pE hn
  rcases xP hn with⟨v,hv,e⟩|⟨hv,e⟩<;>cases e
  rfl
 |tupi id i=>
  obtain⟨xs,hx,hn⟩:=Fa hn
  rcases xP hn with⟨v,hv,e⟩|⟨hv,e⟩<;>cases e
  rfl
 |rng a c n i=>
  by_cases h:i<n
  .have hn:=(if_pos h).symm.trans hn
   cases hn;rfl
  .have hn:=(if_neg h).symm.trans hn
   cases hn
 |rev id i=>cases i with
  |zero=>cases hn
  |succ i=>
   obtain⟨xs,hx,hn⟩:=pE hn
   obtain⟨v,hv,e⟩:=Fb hn
   cases e;rfl
 |enm id i=>
  obtain⟨xs,hx,hn⟩:=pE hn
  rcases xP hn with⟨v,hv,e⟩|⟨hv,e⟩<;>cases e
  rfl
theorem j8 {t:gj} {H:List Addr} {I:Addr} {it:fE} {r:Option (PV×fE×List PO)} (hA:A.handled=none) (ht:it.isEnm=true->t.isTup=true) (R:aH cx env ab σ s.heap) (hI:eT ab s.heap H I it) (hH:dU cx env ab H) (hn:bw it σ.hp=some r)
  {N:Shared->Prop} {S:Value->Shared->Prop}
  (hN:r=none->∀ h' tk,(∀ b o,b∉H->s.heap.get? b=some o->h'.get? b=some o)->N {s with heap:=h',toks:=tk})
  (hS:∀ v gV aE,r=some (v,gV,aE)->∀ u aj h' tk,mx ab aj->(∀ (i:Nat) (a:Addr),aj[i]? =some a->ab[i]? =some a\/s.heap.get? a=none)->cY aj v u->aH cx env aj {σ with hp:=aE} h'->eT aj h' H I gV->dU cx env aj H->
   (∀ b o,b∉H->s.heap.get? b=some o->h'.get? b=some o)->S u {s with heap:=h',toks:=tk}):
  wpAny (model cx.prog cx.w) A (pyNext (.ref I)) (λr bz=>match r with
   |none=>N bz
   |some v=>wpAny (model cx.prog cx.w) A (letOwnedTupleGo t.ex (.ref I) v) (λø gk=>S v gk) E bz) E s:=by
 cases it with
 |lst id i=>
  obtain⟨rfl,a,ha,eQ⟩:=hI
  .obtain⟨xs,hx,hn⟩:=pE hn
   obtain⟨vs,n,d,hl⟩:=R.list ha hx
   rcases xP hn with⟨v,hv,rfl⟩|⟨hv,rfl⟩
   .skip
    obtain⟨u,hu,du⟩:=d.get hv
    refine wpAny_pyNext_list_item eQ (aI hl) (x:=u) (aag.trans hu) λh' nq hs=>?_
    have hk:∀ b o,b∉[I]->s.heap.get? b=some o->h'.get? b=some o:=λb o hb e=>(hs.2 b λq=>hb (by rw[q];exact .head _)).trans e
    have za:=nq
    obtain⟨o,ho,hc,hd⟩:=za
    refine f4 (s:={s with heap:=h'}) ho (λn vs e1 ø=>?_) (hS _ _ _ rfl u ab h' _ (.refl _) (λø ø e=>.inl e) du (R.hid hH hk) ⟨rfl,a,ha,nq⟩ hH hk)
    rw[hc] at e1;cases e1;decide
   .have Lj:vs.toArray[i]? =none:=by
     rw[aag,ZS,<-d.length]
     exact ZS.mp hv
    exact wpAny_pyNext_list_end hA eQ (aI hl) Lj λh' he=>hN rfl h' _ λb o hb e=>he b o (λq=>hb (by rw[q];exact .head _)) e
 |tupi id i=>
  obtain⟨rfl,a,ha,eQ⟩:=hI
  .obtain⟨xs,hx,hn⟩:=Fa hn
   obtain⟨vs,n,d,hl⟩:=R.tup ha hx
   have Ps:s.heap.IsTuple a vs.toArray:=⟨_,hl,rfl,n,rfl⟩
   rcases xP hn with⟨v,hv,rfl⟩|⟨hv,rfl⟩
   .obtain⟨u,hu,du⟩:=d.get hv
    refine wpAny_pyNext_tuple_item eQ Ps (x:=u) (aag.trans hu) λh' nq hs=>?_
    have hk:∀ b o,b∉[I]->s.heap.get? b=some o->h'.get? b=some o:=λb o hb e=>(hs.2 b λq=>hb (by rw[q];exact .head _)).trans e
    have za:=nq
    obtain⟨o,ho,hc,hd⟩:=za
    refine f4 (s:={s with heap:=h'}) ho (λn vs e1 ø=>?_) (hS _ _ _ rfl u ab h' _ (.refl _) (λø ø e=>.inl e) du (R.hid hH hk) ⟨rfl,a,ha,nq⟩ hH hk)
    rw[hc] at e1;cases e1;decide
   .have Lj:vs.toArray[i]? =none:=by
     rw[aag,ZS,<-d.length]
     exact ZS.mp hv
    exact wpAny_pyNext_tuple_end hA eQ Ps Lj λh' he=>hN rfl h' _ λb o hb e=>he b o (λq=>hb (by rw[q];exact .head _)) e
 |rng a c n i=>
  obtain⟨rfl,Zc,eQ⟩:=hI
  by_cases pF:i<n
  .have hn:=(if_pos pF).symm.trans hn
   cases hn
   refine wpAny_pyNext_range_item eQ (by exact la [_,_] [] [.t .v0 .v1] (.T .n0 (.s (.c .v1) (.c .v0))) (.f [1,1]) rfl pF) λh' nq hs=>?_
   have hk:∀ b o,b∉[I]->s.heap.get? b=some o->h'.get? b=some o:=λb o hb e=>(hs.2 b λq=>hb (by rw[q];exact .head _)).trans e
   refine f4 (s:={s with heap:=h',toks:=s.toks+1}) nq (λn vs e1 ø=>?_) (hS _ _ _ rfl _ ab h' _ (.refl _) (λø ø e=>.inl e) ⟨_,rfl⟩ (R.hid hH hk) ⟨rfl,pF,?_⟩ hH hk)
   .cases e1;decide
   .have e1:a+((i+1:Nat):Int)*c=a+(i:Nat)*c+c:=by
     rw[show((i+1:Nat):Int)=(i:Int)+1 by exact la [_] [] [] (.E (.c (.a .v0 .n1)) (.a (.c .v0) .n1)) (.o 0 (.f [1]) (.f [1])) rfl,Int.add_mul];exact la [] [_,_,_] [] (.E (.a .V0 (.a .V1 (.m 1 .V2))) (.a (.a .V0 .V1) .V2)) (.o 0 (.f [1]) (.f [1])) rfl
    have e2:(n:Int)-((i+1:Nat):Int)=(n:Int)-(i:Nat)-1:=by exact la [_,_] [] [] (.E (.s (.c .v0) (.c (.a .v1 .n1))) (.s (.s (.c .v0) (.c .v1)) .n1)) (.o 0 (.f [1]) (.f [1])) rfl
    rw[e1,e2];exact nq
  .have hn:=(if_neg pF).symm.trans hn
   cases hn
   exact wpAny_pyNext_range_end hA eQ (by exact la [_,_] [] [.n (.t .v0 .v1)] (.L (.s (.c .v1) (.c .v0)) .n0) (.f [1,1]) rfl pF) λh' he=>hN rfl h' _ λb o hb e=>he b o (λq=>hb (by rw[q];exact .head _)) e
 |rev id i=>
  obtain⟨rfl,a,ha,eQ⟩:=hI
  cases i with
  |zero=>
   cases hn
   exact wpAny_pyNext_rev_end hA (l:=a) (by simpa using eQ) λh' he=>hN rfl h' _ λb o hb e=>he b o (λq=>hb (by rw[q];exact .head _)) e
  |succ i=>
   .obtain⟨xs,hx,hn⟩:=pE hn
    obtain⟨vs,n,d,hl⟩:=R.list ha hx
    obtain⟨v,hv,rfl⟩:=Fb hn
    .skip
     obtain⟨u,hu,du⟩:=d.get hv
     have G9:s.heap.IsRevIter I a (i:Int):=by
      have e:((i+1:Nat):Int)-1=(i:Int):=by exact la [_] [] [] (.E (.s (.c (.a .v0 .n1)) .n1) (.c .v0)) (.o 0 (.f [1]) (.f [1])) rfl
      rw[e] at eQ;exact eQ
     refine wpAny_pyNext_rev_item G9 (aI hl) (x:=u) (aag.trans hu) λh' nq hs=>?_
     have hk:∀ b o,b∉[I]->s.heap.get? b=some o->h'.get? b=some o:=λb o hb e=>(hs.2 b λq=>hb (by rw[q];exact .head _)).trans e
     have za:=nq
     obtain⟨o,ho,hc,hd⟩:=za
     refine f4 (s:={s with heap:=h'}) ho (λn vs e1 ø=>?_) (hS _ _ _ rfl u ab h' _ (.refl _) (λø ø e=>.inl e) du (R.hid hH hk) ⟨rfl,a,ha,nq⟩ hH hk)
     rw[hc] at e1;cases e1;decide
 |enm id i=>
  obtain⟨it,a,dC,rfl,iw,ha,he,eQ⟩:=hI
  have tup:=ht rfl
  cases t with
  |name x p=>cases tup
  |cel x p=>cases tup
  |tup ts kk pp=>
  .obtain⟨xs,hx,hn⟩:=pE hn
   obtain⟨vs,n,d,hl⟩:=R.list ha hx
   rcases xP hn with⟨v,hv,rfl⟩|⟨hv,rfl⟩
   .skip
    obtain⟨u,hu,du⟩:=d.get hv
    refine wpAny_pyNext_enum_item he eQ (aI hl) (x:=u) (aag.trans hu) iw λai ho Ha hT GX hk=>?_
    refine wpAny_letOwnedTupleGo_enum (s:={s with heap:=ai,toks:=s.toks+1}) ho λh' WM hs=>?_
    have Vq:s.heap.objs.size≠I:=aam (aaC he)
    have G9:s.heap.objs.size≠it:=by
     obtain⟨o,q,_⟩:=eQ
     exact aam (aaC q)
    have qD:∀ b o,b∉[I,it]->s.heap.get? b=some o->h'.get? b=some o:=λb o hb e=>
     (hs.2 b λq=>hb (by rw[q];exact .head _)).trans (hk b o (λq=>hb (by rw[q];exact .head _)) (λq=>hb (by rw[q];exact .tail _ (.head _))) e)
    have R0:=R.hid hH qD
    have Qp:h'.get? s.heap.objs.size=some (tX [.int i s.toks,u] 0):=(hs.2 _ Vq).trans hT
    have nI:∀ b∈[I,it],b≠s.heap.objs.size:=λb hb=>by
     rcases ZF.mp hb with rfl|hb
     .exact Vq.symm
     .rw[ZG.mp hb];exact G9.symm
    refine hS _ _ _ rfl _ (ab++[s.heap.objs.size]) h' _ (.snoc _ _) (λi b e=>?_) ⟨s.heap.objs.size,by rw[<-R.len];exact ZR,rfl⟩
     (R0.take Qp (o:=.tup [.int i,v]) ⟨[.int i s.toks,u],0,⟨⟨_,rfl⟩,du,trivial⟩,rfl⟩ (λi e=>?_) (aam R.ltL) ?_) ?_ (λb hb=>?_) qD
    .rcases c6 e with e|⟨_,rfl⟩
     .exact .inl e
     .exact .inr (aO (ZA _))
    .exact absurd (R.lt e) (aaw _)
    .cases q:cx.h₀.get? s.heap.objs.size with
     |none=>rfl
     |some o=>exact absurd (aaC (R.keep _ _ q)) (aaw _)
    .refine⟨it,a,u,rfl,iw,mx.snoc _ _ _ _ ha,WM,?_⟩
     obtain⟨o,q1,q2⟩:=Ha
     exact⟨o,(hs.2 it iw.symm).trans q1,q2⟩
    .refine⟨λi e=>?_,(hH b hb).2⟩
     rcases c6 e with e|⟨_,e⟩
     .exact(hH b hb).1 i e
     .exact nI b hb e
   .have Lj:vs.toArray[i]? =none:=by
     rw[aag,ZS,<-d.length]
     exact ZS.mp hv
    exact wpAny_pyNext_enum_end hA he eQ (aI hl) Lj λh' he=>hN rfl h' _ λb o hb e=>he b o (λq=>hb (by rw[q];exact .tail _ (.head _))) e
end
structure Good (cx:Cx) (n:Nat) (A:Around):Prop where
 hd:A.handled=none
 fr:A.frames=some cx.fr
 depth:A.depth+n<recursionLimit
 units:A.units+16*n+100<cLine
structure aW (env:Env) (sc:Scope):Prop where
 kind:env.scope.kind=.function
 glob:env.globals=mainGlobals
 bi:env.builtins=builtinsNs
 k1:∀ x,kdOf sc x=1->env.kindOf (nm x)=some .local
 k2:∀ x,kdOf sc x=2->env.kindOf (nm x)=some .cell\/env.kindOf (nm x)=some .free
 k3:∀ x,kdOf sc x=3->env.kindOf (nm x)=some .globalImplicit
 k4:∀ x,sc.names.lookup (nm x)=some .cell->env.kindOf (nm x)=some .cell
noncomputable def an (cx:Cx) (n:Nat) (fv:Value) (S:Spec):Prop:=
 ∀ (fr:List Env) {env:Env} {ab:aT} {σ:St} {s:Shared} {A:Around} {ps:List PV} {vs:List Value} {P:bu} {Q:Value->Shared->Prop} {E:Value->Shared->Prop},
  Good (cx.at fr) n A->aH (cx.at fr) env ab σ s.heap->aU ab ps vs->S ps σ.hp (λr aE=>P r {σ with hp:=aE})->bB (cx.at fr) env ab s P Q->wpAny (model cx.prog cx.w) A (call fv vs) Q E s
noncomputable def Qq (ab:aT):PF->Flow->Prop
 |.next,f=>f=.next
 |.brk,f=>f=.brk
 |.ret v,f=>∃ u,f=.ret u/\cY ab v u
noncomputable def cV (cx:Cx) (env:Env) (ab:aT) (s:Shared) (P:ba) (Q:Flow->Shared->Prop):Prop:=
 ∀ f br aj fl h' tk,P f br->Qq aj f fl->aH cx env aj br h'->Step env.locals ab s.heap aj h'->Q fl {s with heap:=h',toks:=tk}
noncomputable def vD (cx:Cx) (env:Env):Prop:=(∃ o,cx.fr=env::o)/\env.frame=some env.locals
structure bF (cx:Cx) (n:Nat):Prop extends CxOk cx where
 g:∃ m mb,cx.h₀.Ns mainGlobals m/\cx.h₀.Ns builtinsNs mb/\∀ x v,cx.G x=some v->∃ u,(∀ ab,cY ab v u)/\(m (nm x)=some u\/(m (nm x)=none/\mb (nm x)=some u))
 en:∃ m mb,cx.h₀.Ns mainGlobals m/\cx.h₀.Ns builtinsNs mb/\(∀ x,cx.EN x->m (nm x)=none/\mb (nm x)=some (.type "enumerate"))/\∀ x,cx.RV x->m (nm x)=none/\mb (nm x)=some (.type "reversed")
 d:∀ a S,cx.D a=some S->(∃ o fd,cx.h₀.get? a=some o/\o.data=.func fd)/\an cx n (.ref a) S
 dc:∀ k dk S,cx.DC k dk=some S->(∀ as ob,cx.cs k as ob->∃ fd,ob.data=.func fd)/\
  ∀ (fr:List Env) {env:Env} {ab:aT} {σ:St} {s:Shared} {A:Around} {ps:List PV} {vs:List Value} {P:bu} {Q:Value->Shared->Prop} {E:Value->Shared->Prop} {i:Nat} {a:Addr},
   Good (cx.at fr) n A->aH (cx.at fr) env ab σ s.heap->ab[i]? =some a->σ.hp[i]? =some (.clo k dk)->aU ab ps vs->S ps σ.hp (λr aE=>P r {σ with hp:=aE})->bB (cx.at fr) env ab s P Q->wpAny (model cx.prog cx.w) A (call (.ref a) vs) Q E s
 x:∀ k e,cx.XE k=some e->∀ {env:Env} {sc:Scope} {ab:aT} {σ:St} {s:Shared} {A:Around} {P:bu} {Q:Value->Shared->Prop} {E:Value->Shared->Prop},
  (PE.ext k e).ok sc=true->Good cx n A->aW env sc->cx.XW k P σ->aH cx env ab σ s.heap->bB cx env ab s P Q->wpAny (model cx.prog cx.w) A (eval e env) Q E s
 sx:∀ k t xs,cx.SE k t xs->∀ {env:Env} {sc:Scope} {ab:aT} {σ:St} {s:Shared} {A:Around} {P:ba} {Q:Flow->Shared->Prop} {E:Value->Shared->Prop},
  (PS.ext k t xs).ok sc=true->Good cx n A->aW env sc->vD cx env->cx.SW k P σ->aH cx env ab σ s.heap->cV cx env ab s P Q->wpAny (model cx.prog cx.w) A (exec t env) Q E s
section
variable {cx:Cx} {n:Nat} {env:Env} {sc:Scope} {ab:aT} {σ:St} {s:Shared} {A:Around} {P:bu} {Q:Value->Shared->Prop} {E:Value->Shared->Prop}
theorem bB.after (k:bB cx env ab s P Q) {ag:aT} {ai:Heap} (S:Step env.locals ab s.heap ag ai) {tk:Nat}:bB cx env ag {s with heap:=ai,toks:=tk} P Q:=
 λp br aj v h' oD a b c d=>k p br aj v h' oD a b c (S.trans d)
theorem fZ.after {P:Bool->St->Prop} {Q:Bool->Shared->Prop} (k:fZ cx env ab s P Q) {ag:aT} {ai:Heap} (S:Step env.locals ab s.heap ag ai) {tk:Nat}:fZ cx env ag {s with heap:=ai,toks:=tk} P Q:=
 λp br aj h' oD a b c=>k p br aj h' oD a b (S.trans c)
noncomputable def Lk (cx:Cx) (env:Env) (ab:aT) (s:Shared) (P:List PV->St->Prop) (Q:List Value->Shared->Prop):Prop:=
 ∀ ps br aj vs h' tk,P ps br->aU aj ps vs->aH cx env aj br h'->Step env.locals ab s.heap aj h'->Q vs {s with heap:=h',toks:=tk}
noncomputable def iH (cx:Cx) (env:Env) (ab:aT) (s:Shared) (P:St->Prop) (Q:Unit->Shared->Prop):Prop:=
 ∀ br aj h' tk,P br->aH cx env aj br h'->Step env.locals ab s.heap aj h'->Q () {s with heap:=h',toks:=tk}
theorem dG {x:Nat} (h:(nm x !=Str.ofString "__debug__")=true):(nm x==("__debug__" :Str))=false:=by
 simpa [bne] using h
theorem iI (O:aW env sc) (hk:kdOf sc x=1) (hd:(nm x !=Str.ofString "__debug__")=true) {p:Pos} {v:PV} (hv:σ.loc.get x=some v) (hw:P v σ) (R:aH cx env ab σ s.heap) (k:bB cx env ab s P Q):
  wpAny (model cx.prog cx.w) A (eval (.Name (nm x) p) env) Q E s:=by
 obtain⟨m,hn,hm⟩:=R.loc
 obtain⟨u,h1,h2⟩:=hm x v hv
 exact wpAny_Name (wpAny_loadName_local O.kind (O.k1 x hk) hn h1 (k.same R hw h2)) (dG hd)
set_option tactic.hygienic true in
theorem xQ (O:aW env sc) (hk:kdOf sc x=2) (hd:(nm x !=Str.ofString "__debug__")=true) (hc:(nm x !=Str.ofString "__classdict__")=true) {p:Pos} (hw:G6 x P σ) (R:aH cx env ab σ s.heap) (k:bB cx env ab s P Q):
  wpAny (model cx.prog cx.w) A (eval (.Name (nm x) p) env) Q E s:=by
 obtain⟨id,hid,hw⟩:=yZ hw
 obtain⟨v,hv,hw⟩:=K4 hw
 obtain⟨a,ha,hl⟩:=R.cel x id hid
 obtain⟨ob,h1,u,hu,Fc⟩:=R.at ha hv
 rcases O.k2 x hk with q|q
 .exact wpAny_Name (wpAny_loadName_cell O.kind q hl ⟨ob,h1,Fc⟩ (k.same R hw hu)) (dG hd)
 .exact wpAny_Name (wpAny_loadName_free O.kind q hl ⟨ob,h1,Fc⟩ (k.same R hw hu) (by simpa [bne] using hc)) (dG hd)
theorem dq (O:aW env sc) (hk:kdOf sc x=3):loadName env (nm x)=loadGlobal env (nm x):=PyProof.Rows.loadName_read O.kind (O.k3 x hk)
theorem ue (C:bF cx n) (O:aW env sc) (hk:kdOf sc x=3) (hd:(nm x !=Str.ofString "__debug__")=true) {p:Pos} {v:PV} (hv:cx.G x=some v) (hw:P v σ) (R:aH cx env ab σ s.heap) (k:bB cx env ab s P Q):
  wpAny (model cx.prog cx.w) A (eval (.Name (nm x) p) env) Q E s:=by
 obtain⟨m,mb,h1,h2,h3⟩:=C.g
 obtain⟨u,h4,h5⟩:=h3 x v hv
 refine wpAny_Name ?_ (dG hd)
 rw[dq O hk]
 rcases h5 with q|⟨q1,q2⟩
 .exact loadGlobal_global (by rw[O.glob];exact h1.keeps R.keep) q (k.same R hw (h4 ab))
 .exact loadGlobal_builtin (by rw[O.glob];exact h1.keeps R.keep) q1 (by rw[O.bi];exact h2.keeps R.keep) q2 (k.same R hw (h4 ab))
theorem cE {M:Model} {h:Heap} {f:Value} (hf:∀ a,f≠ .ref a):Looks M h (keeperOf f) .machine:=by
 refine Looks.of_pure ?_
 unfold keeperOf
 cases f<;>first|rfl|exact absurd rfl (hf _)
theorem iJ {M:Model} {h:Heap} {a:Addr} {o:Obj} {fd:FuncData} (ho:h.get? a=some o) (hd:o.data=.func fd):Looks M h (keeperOf (.ref a)) .frame:=by
 refine(Looks.ld (part:=none) ho).andThen ?_
 rw[hd]
 exact .now
theorem bQ {pos:Pos} {f:Value} {first:List Value} {es:ca} {Pm:Heap->Prop} (hf:∀ h,Pm h->Looks (model cx.prog cx.w) h (keeperOf f) .machine\/Looks (model cx.prog cx.w) h (keeperOf f) .frame)
  (rS:∀ e r,es=.cons e r->starEach (PE.ex e::ca.ex r) env=(false,eval e.ex env)::starEach r.ex env) (Co:(backTo pos (starEach es.ex env)).any (·.1)=false)
  (h0:es=.nil->Pm s.heap/\wpAny (model cx.prog cx.w) A (call f (first++[])) Q E s)
  (h:es≠ .nil->wpAny (model cx.prog cx.w) A (spliced (backTo pos (starEach es.ex env))) (λvs bz=>Pm bz.heap/\wpAny (model cx.prog cx.w) A (call f (first++vs)) Q E bz) E s):
  wpAny (model cx.prog cx.w) A (callWith pos f first (backTo pos (starEach es.ex env)) []) Q E s:=by
 refine callWith_of (P:=Pm) (by rw[Co];rfl) (λh hp=>?_) ?_
 .rcases hf h hp with q|q
  .exact⟨_,.inr (.inl rfl),q⟩
  .exact⟨_,.inl rfl,q⟩
 .cases es with
  |nil=>exact evalArgs_nil3 (h0 rfl)
  |cons e r=>
   have:=h (λq=>absurd (congrArg ca.isNil q) aaF)
   rw[show ca.ex (.cons e r)=PE.ex e::ca.ex r from rfl] at this ⊢
   rw[rS e r rfl] at this ⊢
   exact evalArgs_plain this
theorem pG (O:aW env sc):(env.scope.kind== .class||(env.scope.kind== .module&&env.locals !=env.globals))=false:=by rw[O.kind];rfl
theorem bY (O:aW env sc) (hk:kdOf sc x=1) {v:PV} {u:Value} {P:St->Prop} {Q:Unit->Shared->Prop} (hw:P {σ with loc:=σ.loc.set x v}) (R:aH cx env ab σ s.heap) (d:cY ab v u) (k:iH cx env ab s P Q):
  wpAny (model cx.prog cx.w) A (storeName env (nm x) u) Q E s:=by
 obtain⟨m,hn,hm⟩:=R.loc
 refine wpAny_storeName_local (O.k1 x hk) hn (λh' yV hs=>?_) (pG O)
 obtain⟨R',S'⟩:=R.store hm hs yV d
 exact k _ _ _ _ hw R' S'
theorem iH.after {P:St->Prop} {Q:Unit->Shared->Prop} (k:iH cx env ab s P Q) {ag:aT} {ai:Heap} (S:Step env.locals ab s.heap ag ai) {tk:Nat}:iH cx env ag {s with heap:=ai,toks:=tk} P Q:=
 λbr aj h' oD a b c=>k br aj h' oD a b (S.trans c)
theorem nu (O:aW env sc) {Q:Unit->Shared->Prop} {xs:List (Nat×Pos)}:∀ {P:St->Prop} {vs:List PV} {us:List Value} {ab:aT} {σ:St} {s:Shared},(xs.all λy=>kdOf sc y.1==1)=true->vs.length=xs.length->P {σ with loc:=dT xs vs σ.loc}->
  aH cx env ab σ s.heap->aU ab vs us->iH cx env ab s P Q->
  wpAny (model cx.prog cx.w) A (assignInOrder ((assignEach (xs.map λy=>Expr.Name (nm y.1) y.2) env).map (·.2)) us) Q E s:=by
 induction xs with
 |nil=>
  intro P vs us ab σ s _ hl hw R d k
  cases vs with
  |cons=>cases hl
  |nil=>cases us with
   |cons=>exact d.elim
   |nil=>exact wpAny_pure (k σ ab s.heap s.toks hw R (.refl _ _ _))
 |cons x xs ih=>
  intro P vs us ab σ s hk hl hw R d k
  cases vs with
  |nil=>cases hl
  |cons v vs=>cases us with
   |nil=>exact d.elim
   |cons u us=>
    have hk:=aas.mp hk
    show wpAny _ _ (assignInOrder (assign (Expr.Name (nm x.1) x.2) env::_) (u::us)) _ _ _
    exact PyProof.Rows.assignInOrder_cons (aae (bY O (eq_of_beq hk.1) (P:=λae=>P {ae with loc:=dT xs vs ae.loc}) hw R d.1 λae ag ai tk hw₁ au aB=>
     ih hk.2 (Nat.succ.inj hl) hw₁ au (d.2.mono aB.ext) (k.after aB)))
theorem jK {xs:List (Nat×Pos)}:∀ {vs:List PV} {l:Loc} {y:Nat},y∉xs.map (·.1)->(dT xs vs l).get y=l.get y:=by
 induction xs with
 |nil=>intros;rfl
 |cons x xs ih=>intro vs l y h;cases vs with
  |nil=>rfl
  |cons v vs=>exact(ih λz=>h (.tail _ z)).trans ((Loc.get_set ..).trans (if_neg λz=>h (by rw[z];exact .head _)))
theorem pH {xs:List (Nat×Pos)}:∀ {vs:List PV} {l:Loc} {i:Nat} {x:Nat} {v:PV},(xs.map (·.1)).Nodup->(xs.map (·.1))[i]? =some x->vs[i]? =some v->(dT xs vs l).get x=some v:=by
 induction xs with
 |nil=>intro vs l i x v _ h;cases h
 |cons x xs ih=>intro vs l i y v hn h1 h2;cases vs with
  |nil=>cases h2
  |cons w vs=>cases i with
   |zero=>cases h1;cases h2;exact(jK (List.nodup_cons.mp hn).1).trans ((Loc.get_set ..).trans (if_pos rfl))
   |succ i=>exact ih (List.nodup_cons.mp hn).2 h1 h2
theorem uf {xs:List (Nat×Pos)} {vs:List PV} {l:Loc} (hn:(xs.map (·.1)).Nodup) (hl:vs.length=xs.length) (y:Nat):(dT xs.reverse vs.reverse l).get y=(dT xs vs l).get y:=by
 by_cases h:y∈xs.map (·.1)
 .obtain⟨i,hi,e⟩:=List.getElem_of_mem h
  have Cn:i<vs.length:=by simpa [hl] using hi
  have e1:(xs.map (·.1))[i]? =some y:=by rw[ZB hi,e]
  have e2:vs[i]? =some vs[i]:=ZB Cn
  rw[pH hn e1 e2]
  have cb:(xs.map (·.1)).length=vs.length:=by simp [hl]
  refine pH (i:=vs.length-1-i) (by rw[List.map_reverse];unfold List.Nodup;rw[List.pairwise_reverse];exact List.Pairwise.imp (λh=>aaO h) hn) ?_ ?_
  .rw[List.map_reverse,List.getElem?_reverse (by rw[cb];exact la [_,_] [] [.t .v0 .v1] (.t (.s (.s .v1 .n1) .v0) .v1) (.k true (.s (.s .v1 .n1) .v0) (.o 0 (.f [0,1,0,1,1]) (.k true (.s .v1 .n1) (.o 0 (.f [0,1,0,0,1,0,1,1]) (.f [0,1,0,0,1,0,0,1]))))) rfl Cn),cb,show vs.length-1-(vs.length-1-i)=i by exact la [_,_] [] [.t .v0 .v1] (.e (.s (.s .v1 .n1) (.s (.s .v1 .n1) .v0)) .v0) (.o 0 (.k true (.s (.s .v1 .n1) (.s (.s .v1 .n1) .v0)) (.o 0 (.k true (.s (.s .v1 .n1) .v0) (.o 0 (.k true (.s .v1 .n1) (.o 0 (.f [0,0,1,0,0,0,0,0,0,1,1]) (.f [1,0,0,0,1,0,0,0,1,1,1]))) (.f [0,1,0,0,0,1,1]))) (.k true (.s (.s .v1 .n1) .v0) (.o 0 (.k true (.s .v1 .n1) (.o 0 (.f [0,0,1,0,0,0,0,0,0,1,1]) (.f [1,0,0,0,1,0,1,0,0,1,1]))) (.f [0,1,0,1,0,0,1]))))) (.o 0 (.f [1,1]) (.k true (.s (.s .v1 .n1) (.s (.s .v1 .n1) .v0)) (.o 0 (.f [0,1,0,1]) (.k true (.s (.s .v1 .n1) .v0) (.o 0 (.f [0,0,1,0,1,0,1]) (.f [1,0,0,0,1,0,1]))))))) rfl Cn]
   exact e1
  .rw[List.getElem?_reverse (by exact la [_,_] [] [.t .v0 .v1] (.t (.s (.s .v1 .n1) .v0) .v1) (.k true (.s (.s .v1 .n1) .v0) (.o 0 (.f [0,1,0,1,1]) (.k true (.s .v1 .n1) (.o 0 (.f [0,1,0,0,1,0,1,1]) (.f [0,1,0,0,1,0,0,1]))))) rfl Cn),show vs.length-1-(vs.length-1-i)=i by exact la [_,_] [] [.t .v0 .v1] (.e (.s (.s .v1 .n1) (.s (.s .v1 .n1) .v0)) .v0) (.o 0 (.k true (.s (.s .v1 .n1) (.s (.s .v1 .n1) .v0)) (.o 0 (.k true (.s (.s .v1 .n1) .v0) (.o 0 (.k true (.s .v1 .n1) (.o 0 (.f [0,0,1,0,0,0,0,0,0,1,1]) (.f [1,0,0,0,1,0,0,0,1,1,1]))) (.f [0,1,0,0,0,1,1]))) (.k true (.s (.s .v1 .n1) .v0) (.o 0 (.k true (.s .v1 .n1) (.o 0 (.f [0,0,1,0,0,0,0,0,0,1,1]) (.f [1,0,0,0,1,0,1,0,0,1,1]))) (.f [0,1,0,1,0,0,1]))))) (.o 0 (.f [1,1]) (.k true (.s (.s .v1 .n1) (.s (.s .v1 .n1) .v0)) (.o 0 (.f [0,1,0,1]) (.k true (.s (.s .v1 .n1) .v0) (.o 0 (.f [0,0,1,0,1,0,1]) (.f [1,0,0,0,1,0,1]))))))) rfl Cn]
   exact e2
 .rw[jK h,jK (by rw[List.map_reverse,aa4];exact h)]
theorem aH.congr {h:Heap} {l:Loc} (R:aH cx env ab σ h) (e:∀ y,σ.loc.get y=l.get y):aH cx env ab {σ with loc:=l} h:=
 ⟨R.keep,R.off,R.offL,R.inj,R.notL,R.len,R.obj,R.loc.imp λø=>aaa λhm x p q=>hm x p ((e x).trans q),R.cel,R.ff,R.tb⟩
set_option tactic.hygienic true in
theorem gE (O:aW env sc) (hA:A.handled=none) {xs:List (Nat×Pos)} {kk:Nat} {p:Pos} {v:PV} {u:Value} {P:St->Prop} {Q:Unit->Shared->Prop} (hk:(xs.all λy=>kdOf sc y.1==1)=true)
  (hw:match v with
   |.ref i=>(match σ.hp[i]? with
     |some (.tup vs)=>vs.length=xs.length/\P {σ with loc:=dT xs vs σ.loc}
     |_=>False)
   |_=>False) (R:aH cx env ab σ s.heap) (d:cY ab v u) (k:iH cx env ab s P Q):
  wpAny (model cx.prog cx.w) A (assign (.Tuple (xs.map λy=>.Name (nm y.1) y.2) kk p) env u) Q E s:=by
 obtain⟨i,rfl,hw⟩:=vu hw
 obtain⟨a,ha,rfl⟩:=d
 obtain⟨vs,hx,hw⟩:=yY hw
 obtain⟨us,n,dd,hl⟩:=R.tup ha hx
 have cb:∀ xs:List (Nat×Pos),(assignEach (xs.map λy=>Expr.Name (nm y.1) y.2) env).length=xs.length:=λxs=>by
  induction xs with
  |nil=>rfl
  |cons y r ih=>exact congrArg (. +1) ih
 have Ll:∀ xs:List (Nat×Pos),(assignEach (xs.map λy=>Expr.Name (nm y.1) y.2) env).findIdx? (·.1)=none:=λxs=>by
  induction xs with
  |nil=>rfl
  |cons y r ih=>
   show List.findIdx? _ ((false,_)::assignEach (r.map λy=>Expr.Name (nm y.1) y.2) env)=none
   rw[List.findIdx?_cons]
   simp [ih]
 refine PyProof.Rows.assign_Tuple_tuple hA (items:=us.toArray) ⟨_,hl,rfl,n,rfl⟩ (by rw[cb,aar,<-dd.length,hw.1]) (Ll xs) λh' he=>?_
 have qD:∀ b o,s.heap.get? b=some o->h'.get? b=some o:=λb o e=>he b o (Z7 (aaC e)) e
 obtain⟨R',S'⟩:=R.grow qD
 exact nu O hk hw.1 hw.2 R' dd (k.after S')
set_option tactic.hygienic true in
theorem jk (O:aW env sc) {x:Nat} (hk:sc.names.lookup (nm x)=some .cell) {v:PV} {u:Value} {P:St->Prop} {Q:Unit->Shared->Prop}
  (hw:match look σ.ce x with
   |some id=>(match σ.hp[id]? with
     |some (.cell _)=>P {σ with hp:=σ.hp.set id (.cell (some v))}
     |_=>False)
   |none=>False) (R:aH cx env ab σ s.heap) (d:cY ab v u) (k:iH cx env ab s P Q):
  wpAny (model cx.prog cx.w) A (storeName env (nm x) u) Q E s:=by
 obtain⟨id,hid,hw⟩:=yZ hw
 obtain⟨a,ha,hl⟩:=R.cel x id hid
 obtain⟨c,hc,hw⟩:=GV hw
 obtain⟨ob,h1,h2⟩:=R.at ha hc
 have:∃ Hc,ob.data=.cell Hc:=by
  cases c with
  |none=>exact⟨_,h2⟩
  |some p=>obtain⟨Hc,_,e⟩:=h2;exact⟨_,e⟩
 obtain⟨Hc,hd⟩:=this
 refine wpAny_storeName_cell O.kind (O.k4 x hk) hl ⟨ob,h1,hd⟩ λh' hg hs=>?_
 obtain⟨tT,h3,h4⟩:=hg
 obtain⟨R',S'⟩:=R.write ha hs h3 (o:=.cell (some v)) ⟨u,d,h4⟩
 exact k _ _ _ _ hw R' S'
theorem lU (O:aW env sc) (hA:A.handled=none) {t:gj} {v:PV} {u:Value} {P:St->Prop} {Q:Unit->Shared->Prop} (hk:t.ok sc=true) (hw:aN t v P σ) (R:aH cx env ab σ s.heap) (d:cY ab v u) (k:iH cx env ab s P Q):
  wpAny (model cx.prog cx.w) A (assign t.ex env u) Q E s:=by
 cases t with
 |name x p=>exact aae (bY O (by simpa [gj.ok] using hk) hw R d k)
 |cel x p=>exact aae (jk O (by simpa [gj.ok] using hk) hw R d k)
 |tup xs kk p=>exact gE O hA hk hw R d k
theorem j9 {H:List Addr} {I:Addr} {it:fE} {Q:Value->Shared->Prop} (hr:∀ i j,it≠ .rev i j) (hI:eT ab s.heap H I it) (hq:Q (.ref I) s):wpAny (model cx.prog cx.w) A (pyIter (.ref I)) Q E s:=by
 cases it with
 |lst id i=>obtain⟨_,a,_,h⟩:=hI;exact wpAny_pyIter_listiter h hq
 |tupi id i=>obtain⟨_,a,_,h⟩:=hI;exact wpAny_pyIter_tupleiter h hq
 |rng a c n i=>obtain⟨_,_,h⟩:=hI;exact wpAny_pyIter_rangeiter h hq
 |rev id i=>exact absurd rfl (hr id i)
 |enm id i=>obtain⟨_,_,_,_,_,_,h,_⟩:=hI;exact wpAny_pyIter_enum h hq
theorem Qr {o:Option PO} {A B:Prop} {C:Int->Int->Nat->Prop} (h:match o with|some (.list _)=>A|some (.tup _)=>B|some (.rng a c n)=>C a c n|_=>False):(∃ v,o=some (.list v)/\A)\/(∃ v,o=some (.tup v)/\B)\/∃ a c n,o=some (.rng a c n)/\C a c n:=by
 rcases o with _|o
 .exact False.elim h
 cases o<;>first|exact False.elim h|exact .inl ⟨_,rfl,h⟩|exact .inr (.inl ⟨_,rfl,h⟩)|exact .inr (.inr ⟨_,_,_,rfl,h⟩)
set_option tactic.hygienic true in
theorem dw {iv:PV} {u:Value} {P:fE->St->Prop} {Q:Value->Shared->Prop} (hw:f0 iv P σ) (R:aH cx env ab σ s.heap) (d:cY ab iv u)
  (k:∀ it H I h',P it σ->(∀ i j,it≠ .rev i j)->it.isEnm=false->(∀ b o,s.heap.get? b=some o->h'.get? b=some o)->eT ab h' H I it->(∀ b∈H,s.heap.get? b=none)->I∈H->Q (.ref I) {s with heap:=h'}):
  wpAny (model cx.prog cx.w) A (pyIter u) Q E s:=by
 cases iv<;>first|exact False.elim hw|skip
 obtain⟨a,ha,rfl⟩:=d
 have nn:∀ b∈[s.heap.objs.size],s.heap.get? b=none:=λb hb=>by rw[ZG.mp hb];exact aO (ZA _)
 rcases Qr hw with⟨xs,hx,hw⟩|⟨xs,hx,hw⟩|⟨a',c,n,hx,hw⟩
 .obtain⟨vs,n,dd,hl⟩:=R.list ha hx
  exact wpAny_pyIter_list (aI hl) (k _ [_] _ _ hw (λø ø=>by intro e;cases e) rfl (λø ø e=>ZX _ e) ⟨rfl,a,ha,_,aai _ rfl,rfl,rfl⟩ nn (.head _))
 .obtain⟨vs,n,dd,hl⟩:=R.tup ha hx
  exact wpAny_pyIter_tuple ⟨_,hl,rfl,n,rfl⟩ (k _ [_] _ _ hw (λø ø=>by intro e;cases e) rfl (λø ø e=>ZX _ e) ⟨rfl,a,ha,_,aai _ rfl,rfl,rfl⟩ nn (.head _))
 .obtain⟨ob,h1,b,t,u,v,rfl,h2,h3⟩:=R.at ha hx
  refine wpAny_pyIter_range h1 h2 (k _ [_] _ _ hw (λø ø=>by intro e;cases e) rfl (λø ø e=>ZX _ e) ⟨rfl,ZM _,?_⟩ nn (.head _))
  rw[h3]
  have e1:a'+((0:Nat):Int)*c=a':=by simp
  have e2:(n:Int)-((0:Nat):Int)=(n:Int):=by exact la [_] [] [] (.E (.s (.c .v0) (.c .n0)) (.c .v0)) (.o 0 (.f [1]) (.f [1])) rfl
  rw[e1,e2]
  exact aai _ rfl
end
structure dm (L:Addr) (Hs:List Addr) (ab:aT) (h:Heap) (aj:aT) (h':Heap):Prop where
 ext:mx ab aj
 fresh:∀ (i:Nat) (a:Addr),aj[i]? =some a->ab[i]? =some a\/h.get? a=none\/a∈Hs
 live:∀ b,b∉Hs->(h.get? b).isSome=true->(h'.get? b).isSome=true
 frame:∀ b o,h.get? b=some o->b≠L->b∉Hs->(∀ i:Nat,ab[i]? ≠some b)->∃ sl,h'.get? b=some {o with slots:=sl}/\(eP o=false->sl=o.slots)
theorem dm.refl (L:Addr) (Hs:List Addr) (ab:aT) (h:Heap):dm L Hs ab h ab h:=⟨.refl _,λø ø e=>.inl e,λø ø e=>e,λø o e ø ø ø=>⟨o.slots,e,λø=>rfl⟩⟩
theorem dm.step {L:Addr} {Hs:List Addr} {ab ag aM:aT} {h ai bf:Heap} (a:dm L Hs ab h ag ai) (b:Step L ag ai aM bf):dm L Hs ab h aM bf:=by
 refine⟨a.ext.trans b.ext,λi x e=>?_,λy n e=>b.live y (a.live y n e),λy o e hL n hn=>?_⟩
 .rcases b.fresh i x e with e'|e'
  .exact a.fresh i x e'
  .by_cases m:x∈Hs
   .exact .inr (.inr m)
   .cases q:h.get? x with
    |none=>exact .inr (.inl rfl)
    |some o=>have:=a.live x m (by rw[q];rfl);rw[e'] at this;cases this
 .obtain⟨sl,e1,e2⟩:=a.frame y o e hL n hn
  obtain⟨GR,e3,e4⟩:=b.frame y _ e1 hL λi q=>by
   rcases a.fresh i y q with e'|e'|e'
   .exact hn i e'
   .rw[e] at e';cases e'
   .exact n e'
  exact⟨GR,e3,λq=>(e4 q).trans (e2 q)⟩
theorem dm.hid {L:Addr} {Hs:List Addr} {ab ag aM:aT} {h ai bf:Heap} (a:dm L Hs ab h ag ai) (hE:mx ag aM) (hf:∀ (i:Nat) (x:Addr),aM[i]? =some x->ag[i]? =some x\/ai.get? x=none)
  (hk:∀ b o,b∉Hs->ai.get? b=some o->bf.get? b=some o):dm L Hs ab h aM bf:=by
 refine⟨a.ext.trans hE,λi x e=>?_,λy n e=>?_,λy o e hL n hn=>(a.frame y o e hL n hn).imp λø=>And.imp_left (hk y _ n)⟩
 .rcases hf i x e with e'|e'
  .exact a.fresh i x e'
  .by_cases m:x∈Hs
   .exact .inr (.inr m)
   .cases q:h.get? x with
    |none=>exact .inr (.inl rfl)
    |some o=>have:=a.live x m (by rw[q];rfl);rw[e'] at this;cases this
 .obtain⟨o,q⟩:=ZJ.mp (a.live y n e)
  rw[hk y o n q];rfl
section
variable {cx:Cx} {n:Nat} {env:Env} {sc:Scope} {ab:aT} {σ:St} {s:Shared} {A:Around} {P:bu} {Q:Value->Shared->Prop} {E:Value->Shared->Prop}
theorem dU.step {L:Addr} {Hs:List Addr} {ag aM:aT} {ai bf:Heap} {env:Env} (hH:dU cx env ag Hs) (live:∀ b∈Hs,(ai.get? b).isSome=true) (S:Step L ag ai aM bf):dU cx env aM Hs:=λb hb=>by
 refine⟨λi e=>?_,(hH b hb).2⟩
 rcases S.fresh i b e with q|q
 .exact(hH b hb).1 i q
 .have:=live b hb;rw[q] at this;cases this
theorem eT.at {h:Heap} {H:List Addr} {I:Addr} {it:fE} (hI:eT ab h H I it) (b:Addr) (hb:b∈H):∃ o,h.get? b=some o/\eP o=false:=by
 have pI:∀ {o:Obj},H=[I]->h.get? I=some o->eP o=false->∃ o,h.get? b=some o/\eP o=false:=λe q d=>by
  subst e;rw[ZG.mp hb];exact⟨_,q,d⟩
 cases it with
 |lst id i=>
  obtain⟨e,a,_,o,ho,_,hd⟩:=hI
  exact pI e ho (by unfold eP;rw[hd])
 |tupi id i=>
  obtain⟨e,a,_,o,ho,_,hd⟩:=hI
  exact pI e ho (by unfold eP;rw[hd])
 |rng a c n i=>
  obtain⟨e,_,r⟩:=hI
  exact pI e r rfl
 |rev id i=>
  obtain⟨e,a,_,o,ho,_,hd⟩:=hI
  exact pI e ho (by unfold eP;rw[hd])
 |enm id i=>
  obtain⟨it,a,dC,e,_,_,r,o,ho,_,hd⟩:=hI
  subst e
  rcases ZF.mp hb with rfl|hb
  .exact⟨_,r,rfl⟩
  .rw[ZG.mp hb]
   exact⟨o,ho,by unfold eP;rw[hd]⟩
theorem eT.live {h:Heap} {H:List Addr} {I:Addr} {it:fE} (hI:eT ab h H I it) (b:Addr) (hb:b∈H):(h.get? b).isSome=true:=by
 obtain⟨o,e,_⟩:=hI.at b hb
 rw[e];rfl
theorem eT.notD {h:Heap} {H:List Addr} {I:Addr} {it:fE} (hI:eT ab h H I it) (b:Addr) (hb:b∈H) (o:Obj) (q:h.get? b=some o):eP o=false:=by
 obtain⟨o',e,d⟩:=hI.at b hb
 rw[e] at q;cases q;exact d
structure zc (cx:Cx) (ak:Env) (D:Addr) (H:List Addr) (I:Addr) (it:fE) (aC:aT) (h₀:Heap) (ab:aT) (h:Heap) (aD:List PV) (ys:Array Value):Prop where
 it:eT ab h H I it
 hid:dU cx ak ab (D::H)
 pl:h.PlainList D ys
 dd:aU ab aD ys.toList
 st:dm ak.locals (D::H) aC h₀ ab h
theorem zc.live {ak:Env} {D I:Addr} {H:List Addr} {it:fE} {aC:aT} {h₀ h:Heap} {aD:List PV} {ys:Array Value} (B:zc cx ak D H I it aC h₀ ab h aD ys):∀ b∈D::H,(h.get? b).isSome=true:=λb hb=>by
 rcases ZF.mp hb with rfl|hb
 .obtain⟨_,e⟩:=B.pl;rw[e];rfl
 .exact B.it.live b hb
theorem zc.step {ak:Env} {D I:Addr} {H:List Addr} {it:fE} {aC ag aM:aT} {h₀ ai bf:Heap} {aD:List PV} {ys:Array Value} (B:zc cx ak D H I it aC h₀ ag ai aD ys) (S:Step ak.locals ag ai aM bf):
  zc cx ak D H I it aC h₀ aM bf aD ys:=
 have k:∀ b∈D::H,∀ o,ai.get? b=some o->bf.get? b=some o:=λb hb o e=>S.exact e (B.hid b hb).2.1 (B.hid b hb).1 (by
  rcases ZF.mp hb with rfl|hb
  .obtain⟨_,z⟩:=B.pl;rw[z] at e;cases e;rfl
  .exact B.it.notD b hb o e)
 ⟨B.it.keep S.ext λb hb o e=>k b (.tail _ hb) o e,B.hid.step B.live S,B.pl.at λo e=>k D (.head _) o e,B.dd.mono S.ext,B.st.step S⟩
inductive LI (cx:Cx) (ak:Env) (bU:gj) (D:Addr) (H:List Addr) (I:Addr) (aC:aT) (bC:Shared) (W:Nat->fE->List PV->St->Prop):Nat->Shared->Prop
 |mk {k:Nat} {it:fE} {aD:List PV} {σ:St} {ab:aT} {h:Heap} {tk:Nat} {ys:Array Value}:W k it aD σ->(it.isEnm=true->bU.isTup=true)->aH cx ak ab σ h->zc cx ak D H I it aC bC.heap ab h aD ys->LI cx ak bU D H I aC bC W k {bC with heap:=h,toks:=tk}
theorem nw {H:List Addr} {D:Addr} {h h':Heap} (hk:∀ b o,b∉H->h.get? b=some o->h'.get? b=some o):∀ b o,b∉D::H->h.get? b=some o->h'.get? b=some o:=λb o nb e=>hk b o (λq=>nb (.tail _ q)) e
theorem kY {ak:Env} {yQ:Scope} (O:aW ak yQ) (hA:Good cx n A) {bU:gj} {H:List Addr} {I D:Addr} (ug:bU.ok yQ=true) {N Hd:Shared->Prop} {aC:aT} {bC:Shared} {K:List PV->St->Prop} {X:fE->St->Prop} {it:fE} {aD:List PV} {h:Heap} {tk:Nat} {ys:Array Value}
  (hw:match bw it σ.hp with
   |none=>False
   |some none=>K aD σ
   |some (some (v,gV,aE))=>aN bU v (X gV) {σ with hp:=aE})
  (nr:it.isEnm=true->bU.isTup=true) (RR:aH cx ak ab σ h) (dH:D∉H) (B:zc cx ak D H I it aC bC.heap ab h aD ys)
  (ck:∀ h' oD,K aD σ->aH cx ak ab σ h'->dU cx ak ab (D::H)->h'.PlainList D ys->aU ab aD ys.toList->dm ak.locals (D::H) aC bC.heap ab h'->N {bC with heap:=h',toks:=oD})
  (bK:∀ gV aw aM bf bE,X gV aw->(gV.isEnm=true->bU.isTup=true)->aH cx ak aM aw bf->zc cx ak D H I gV aC bC.heap aM bf aD ys->Hd {bC with heap:=bf,toks:=bE}):
  wpAny (model cx.prog cx.w) A (pyNext (.ref I)) (λr bz=>match r with
   |none=>N bz
   |some v=>wpAny (model cx.prog cx.w) A (letOwnedTupleGo bU.ex (.ref I) v) (λø gk=>wpAny (model cx.prog cx.w) A (assign bU.ex ak v) (λø dQ=>Hd dQ) E gk) E bz) E {bC with heap:=h,toks:=tk}:=by
 cases hn:bw it σ.hp with
 |none=>rw[hn] at hw;exact hw.elim
 |some r=>
  rw[hn] at hw
  refine j8 (t:=bU) (N:=N) (S:=λu gk=>wpAny (model cx.prog cx.w) A (assign bU.ex ak u) (λø dQ=>Hd dQ) E gk) (s:={bC with heap:=h,toks:=tk}) hA.hd nr RR B.it (λb hb=>B.hid b (.tail _ hb)) hn
   (λe h' oD hk=>?_) λv gV aE e u ag ai av hE hf du au Hf CM hk=>?_
  .subst e
   exact ck h' oD hw (RR.hid B.hid (nw hk)) B.hid (B.pl.at λo e=>hk D o dH e) B.dd (B.st.hid (.refl _) (λø ø e=>.inl e) (nw hk))
  .subst e
   have Qs:zc cx ak D H I gV aC bC.heap ag ai aD ys:=by
    refine⟨Hf,λb hb=>?_,B.pl.at λo e=>hk D o dH e,B.dd.mono hE,B.st.hid hE hf (nw hk)⟩
    rcases ZF.mp hb with rfl|hb
    .refine⟨λi e=>?_,(B.hid b (.head _)).2⟩
     rcases hf i b e with q|q
     .exact(B.hid b (.head _)).1 i q
     .have:=B.live b (.head _)
      rw[show h.get? b=none from q] at this;cases this
    .exact CM b hb
   exact lU (s:={bC with heap:=ai,toks:=av}) O hA.hd ug hw au du λaw aM bf bE hw₂ aK aR=>bK gV aw aM bf bE hw₂ (λe=>nr ((nk hn).symm.trans e)) aK (Qs.step aR)
theorem pJ {ak:Env} {H:List Addr} {I D:Addr} {aC:aT} {bC:Shared} {it:fE} {aD:List PV} {h:Heap} {tk:Nat} {ys:Array Value} {p:PV} {x:Value} {Q:Shared->Prop} (dH:D∉H) (B:zc cx ak D H I it aC bC.heap ab h aD ys) (R:aH cx ak ab σ h) (dx:cY ab p x) (sm:aV aD.length)
  (ck:∀ h',aH cx ak ab σ h'->zc cx ak D H I it aC bC.heap ab h' (aD++[p]) (ys.push x)->Q {bC with heap:=h',toks:=tk}):
  wpAny (model cx.prog cx.w) A (call (.builtin "list.append") [.ref D,x]) (λø jw=>Q jw) E {bC with heap:=h,toks:=tk}:=by
 refine wpAny_list_append_plain B.pl (λgD Lm Fd=>?_) (by rw[<-Array.length_toList,<-B.dd.length];exact aX sm)
 have Fe:∀ b o,b∉D::H->h.get? b=some o->gD.get? b=some o:=λb o nb e=>(Fd.2 b λq=>nb (by rw[q];exact .head _)).trans e
 exact ck gD (R.hid B.hid Fe) ⟨B.it.keep (.refl _) λb hb o e=>(Fd.2 b λq=>dH (q▸hb)).trans e,B.hid,Lm,by rw[Array.toList_push];exact B.dd.append (qs:=[p]) (ws:=[x]) ⟨dx,trivial⟩,B.st.hid (.refl _) (λø ø e=>.inl e) Fe⟩
theorem xR {ak:Env} {yQ:Scope} (O:aW ak yQ) (hA:Good cx n A) {fS:Expr} {bU:gj} {rU:Expr} {rV:List Expr} {scope:Scope} {pos:Pos} {H:List Addr} {I D:Addr} {R:Result->Shared->Prop}
  (ug:bU.ok yQ=true) {wt:(Bool->St->Prop)->St->Prop} {we:bu->St->Prop} {K:List PV->St->Prop}
  (dF:∀ {ab:aT} {σ:St} {s:Shared} {P:Bool->St->Prop} {Q:Bool->Shared->Prop} {E:Value->Shared->Prop},wt P σ->aH cx ak ab σ s.heap->fZ cx ak ab s P Q->
   wpAny (model cx.prog cx.w) A (forIn rV true λc r=>if r=true then do let ok<-isTrue c ak (eval c ak);pure (ForInStep.yield ok) else pure (ForInStep.yield r)) Q E s)
  (bI:∀ {ab:aT} {σ:St} {s:Shared} {P:bu} {Q:Value->Shared->Prop} {E:Value->Shared->Prop},we P σ->aH cx ak ab σ s.heap->bB cx ak ab s P Q->wpAny (model cx.prog cx.w) A (eval fS ak) Q E s)
  {a9:fE} {aC:aT} {iK:St} {bC:Shared} (nr:a9.isEnm=true->bU.isTup=true) {cK:Nat} (hw:bh (aN bU) wt we K cK a9 [] iK) (rW:aH cx ak aC iK bC.heap) (hI:eT aC bC.heap H I a9)
  (hH:dU cx ak aC (D::H)) (dH:D∉H) (hD:bC.heap.PlainList D #[])
  (ck:∀ xs br aj h' tk ys,K xs br->aH cx ak aj br h'->dU cx ak aj (D::H)->h'.PlainList D ys->aU aj xs ys.toList->dm ak.locals (D::H) aC bC.heap aj h'->R (.ok .next) {bC with heap:=h',toks:=tk}):
  codeAny (model cx.prog cx.w) A (.compLoop (.ListComp fS [⟨bU.ex,rU,rV,0⟩] scope pos) 0 (.ref I) (.ref D) ak) R bC:=by
 refine xO (LI cx ak bU D H I aC bC (bh (aN bU) wt we K)) ?_ cK (.mk hw nr rW ⟨hI,hH,hD,trivial,.refl _ _ _ _⟩)
 rintro k _ ⟨hw,nr,RR,B⟩
 cases k with
 |zero=>exact False.elim hw
 |succ k=>
  refine kY (K:=K) O hA ug hw nr RR dH B (λh' oD=>ck _ _ _ h' oD _) λgV aw aM bf bE hw₂ Kl aK zd=>?_
  refine dF (s:={bC with heap:=bf,toks:=bE}) hw₂ aK λok cn bW cD cf bZ cH cw=>?_
  have jL:=zd.step cw
  cases ok with
  |false=>
   rw[if_neg (by decide)]
   exact⟨k,Z0 _,.mk (bZ.2 rfl) Kl cH jL⟩
  |true=>
   rw[if_pos rfl]
   refine bI (s:={bC with heap:=cD,toks:=cf}) (bZ.1 rfl) cH λp pK g8 x fq jD fF dx fT e8=>?_
   exact pJ (bC:=bC) dH (jL.step e8) fT dx fF.1 λgD oO Hg=>⟨k,Z0 _,.mk fF.2 Kl oO Hg⟩
theorem uh {β γ:Type} {f:Str->β->γ} {l:List (Str×β)} {x:Str}:(l.map λy=>(y.1,f y.1 y.2)).lookup x=(l.lookup x).map (f x):=by
 induction l with
 |nil=>rfl
 |cons y r ih=>
  rw[List.map_cons,aax,aax]
  cases q:x==y.1 with
  |true=>rw[eq_of_beq q];rfl
  |false=>exact ih
theorem nx {env:Env} {names:List (Str×NameKind)} {x:Str}:
  (names.map λ(n,k)=>if(k==NameKind.free&&env.scope.kind== .function&&env.kindOf n==some .cell) then(n,NameKind.cell) else(n,k)).lookup x=
   (names.lookup x).map λk=>if(k==NameKind.free&&env.scope.kind== .function&&env.kindOf x==some .cell) then NameKind.cell else k:=by
 refine Eq.trans (congrArg (λf=>List.lookup x (List.map f names)) (funext λy=>?_)) (uh (f:=λn k=>if(k==NameKind.free&&env.scope.kind== .function&&env.kindOf n==some .cell) then NameKind.cell else k))
 exact(apply_ite (Prod.mk y.1) _ _ _).symm
theorem ui (O:aW env sc) {scope:Scope} {cl:List (Str×Addr)} {C:Addr} (hk:scope.kind=.function) (hc:∀ y∈scope.names,y.2≠ .cell):aW (compEnvC scope cl C env) scope:=by
 have lk:∀ x,(compEnvC scope cl C env).kindOf x=(scope.names.lookup x).map λk=>if(k==NameKind.free&&env.scope.kind== .function&&env.kindOf x==some .cell) then NameKind.cell else k:=λx=>nx
 have kd:∀ x k,kdOf scope x=k->k≠0->(k=1->scope.names.lookup (nm x)=some .local)/\(k=2->scope.names.lookup (nm x)=some .free)/\(k=3->scope.names.lookup (nm x)=some .globalImplicit):=by
  intro x k h h0
  unfold kdOf at h
  cases q:scope.names.lookup (nm x) with
  |none=>rw[q] at h;exact absurd h.symm h0
  |some kk=>
   rw[q] at h
   cases kk<;>subst h<;>first|exact absurd rfl h0|skip
   .exact⟨λø=>rfl,λe=>(by cases e),λe=>(by cases e)⟩
   .exact absurd rfl (hc _ (mem_of_lookup q))
   .exact⟨λe=>(by cases e),λø=>rfl,λe=>(by cases e)⟩
   .exact⟨λe=>(by cases e),λe=>(by cases e),λø=>rfl⟩
 refine⟨hk,O.glob,O.bi,λx h=>?_,λx h=>?_,λx h=>?_,λx h=>absurd rfl (hc _ (mem_of_lookup h))⟩
 .rw[lk,(kd x 1 h (by decide)).1 rfl];rfl
 .rw[lk,(kd x 2 h (by decide)).2.1 rfl]
  simp only[Option.map_some]
  split
  .exact .inl rfl
  .exact .inr rfl
 .rw[lk,(kd x 3 h (by decide)).2.2 rfl];rfl
noncomputable def bn (env:Env) (names:List (Str×NameKind)):List (Str×Addr):=names.filterMap λy=>if y.2== .free then(env.cells.lookup y.1).map (y.1,.) else none
theorem gm {scope:Scope} (h:∀ y∈scope.names,y.2=.free->(env.cells.lookup y.1).isSome=true):closureFor scope env=pure (bn env scope.names).reverse:=by
 have vn:∀ (names:List (Str×NameKind)) (cs:List (Str×Addr)),(∀ y∈names,y.2=.free->(env.cells.lookup y.1).isSome=true)->
   (forIn names cs λx r=>(do
    if x.2== .free then do
     let a<-cellOf env x.1
     pure (ForInStep.yield ((x.1,a)::r))
    else pure (ForInStep.yield r):Sem (ForInStep (List (Str×Addr)))))=pure ((bn env names).reverse++cs):=by
  intro names
  induction names with
  |nil=>intro cs _;rfl
  |cons y r ih=>
   intro cs h
   obtain⟨Pu,k⟩:=y
   rw[List.forIn_cons]
   by_cases hk:k=.free
   .subst hk
    obtain⟨a,ha⟩:=ZJ.mp (h _ (.head _) rfl)
    have hc:cellOf env Pu=pure a:=by unfold cellOf;rw[ha]
    simp only[beq_self_eq_true,if_true,hc,pure_bind]
    rw[ih _ λz hz=>h z (.tail _ hz)]
    have:bn env ((Pu,.free)::r)=(Pu,a)::bn env r:=by
     unfold bn
     rw[aa2]
     dsimp only at ha
     simp [ha]
    rw[this,List.reverse_cons,ZH];rfl
   .have hb:(k==NameKind.free)=false:=by simpa using hk
    simp only[hb,Bool.false_eq_true,if_false,pure_bind]
    rw[ih _ λz hz=>h z (.tail _ hz)]
    have:bn env ((Pu,k)::r)=bn env r:=by
     unfold bn
     rw[aa2]
     simp [hb]
    rw[this]
 have:=vn scope.names [] h
 rw[ZV] at this
 simp only[closureFor]
 have e:∀ (l:List (Str×NameKind)) (f g:Str×NameKind->List (Str×Addr)->Sem (ForInStep (List (Str×Addr)))) c,(∀ x r,f x r=g x r)->forIn l c f=forIn l c g:=λl f g c h=>by rw[show f=g from funext λx=>funext λr=>h x r]
 refine Eq.trans ?_ (congrArg (λm:Sem (List (Str×Addr))=>m>>=λr=>pure r) this)
 refine congrArg (λm:Sem (List (Str×Addr))=>m>>=λr=>pure r) (e _ _ _ _ λx r=>?_)
 rfl
theorem uj {f:Str->Option Addr} {l:List (Str×Addr)} {x:Str} {a:Addr} (h:∀ y∈l,f y.1=some y.2) (m:(x,a)∈l) (e:f x=some a):l.lookup x=some a:=by
 induction l with
 |nil=>cases m
 |cons y r ih=>
  rw[aax]
  cases q:x==y.1 with
  |true=>exact(h y (.head _)).symm.trans ((congrArg f (eq_of_beq q).symm).trans e)
  |false=>
   refine ih (λz hz=>h z (.tail _ hz)) ?_
   rcases ZF.mp m with h|h
   .rw[<-h,beq_self_eq_true] at q;cases q
   .exact h
theorem gF {names:List (Str×NameKind)} {x:Str} {a:Addr} (hm:(x,.free)∈names) (e:env.cells.lookup x=some a):(bn env names).reverse.lookup x=some a:=by
 refine uj (f:=λy=>env.cells.lookup y) (λy hy=>?_) ?_ e
 .rw[aa4] at hy
  obtain⟨z,hz,q⟩:=List.mem_filterMap.mp hy
  split at q
  .obtain⟨b,hb,rfl⟩:=Option.map_eq_some_iff.mp q
   exact hb
  .cases q
 .rw[aa4]
  exact List.mem_filterMap.mpr ⟨_,hm,by simp [e]⟩
theorem xS {ce:List (Nat×Nat)} {fr:List Nat} {x i:Nat}:look (jG fr ce) x=some i->x∈fr/\look ce x=some i:=by
 induction fr with
 |nil=>exact nofun
 |cons y r ih=>
  intro h
  cases q:look ce y with
  |none=>rw[show jG (y::r) ce=jG r ce from List.filterMap_cons_none (by rw[q];rfl)] at h;exact(ih h).imp (.tail _) id
  |some j=>
   rw[show jG (y::r) ce=(y,j)::jG r ce from aad (by rw[q];rfl)] at h
   have h:(if x=y then some j else look (jG r ce) x)=some i:=h
   by_cases e:x=y
   .subst e
    rw[if_pos rfl] at h
    exact⟨.head _,q.trans h⟩
   .rw[if_neg e] at h
    exact(ih h).imp (.tail _) id
structure iM (fr:List Nat) (sc:Scope):Prop where
 kind:sc.kind=.function
 cell:∀ y∈sc.names,y.2≠ .cell
 names:∀ y∈sc.names,y.2=.local->sc.names.lookup y.1=some .local
 free:(sc.names.filter λy=>y.2== .free).map (·.1)=fr.map nm
theorem pM {fr:List Nat} {sc:Scope} (h:kQ fr sc=true):iM fr sc:=by
 unfold kQ at h
 simp only[ZK,beq_iff_eq,ZU,bne_iff_ne,ne_eq,abe] at h
 obtain⟨⟨⟨h1,h2⟩,h3⟩,h4⟩:=h
 refine⟨h1,h2,λy hy hl=>?_,h4⟩
 rcases h3 y hy with q|q
 .exact absurd hl q
 .exact q
theorem iM.mem {fr:List Nat} {sc:Scope} (C:iM fr sc) {x:Nat} (h:x∈fr):(nm x,.free)∈sc.names:=by
 have:nm x∈(sc.names.filter λy=>y.2== .free).map (·.1):=by rw[C.free];exact List.mem_map_of_mem h
 obtain⟨y,hy,e⟩:=aal.mp this
 obtain⟨h1,h2⟩:=List.mem_filter.mp hy
 have h2:y.2=.free:=by simpa using h2
 rw[<-e,<-h2];exact h1
theorem iM.of {fr:List Nat} {sc:Scope} (C:iM fr sc) {y:Str×NameKind} (hy:y∈sc.names) (hf:y.2=.free):∃ x∈fr,y.1=nm x:=by
 have:y.1∈fr.map nm:=by
  rw[<-C.free]
  exact aal.mpr ⟨y,List.mem_filter.mpr ⟨hy,by simp [hf]⟩,rfl⟩
 obtain⟨x,hx,e⟩:=aal.mp this
 exact⟨x,hx,e.symm⟩
theorem vE (R:aH cx env ab σ s.heap) {b:Addr} (hb:s.heap.get? b=none):(∀ i:Nat,ab[i]? ≠some b)/\b≠env.locals/\cx.h₀.get? b=none/\NF cx.fr b:=by
 refine⟨λi e=>?_,λe=>?_,?_,R.ff.nf λo e=>by rw[hb] at e;cases e⟩
 .obtain⟨_,_,_,q,_⟩:=R.here e
  rw[hb] at q;cases q
 .obtain⟨m,⟨o,_,_,q,_⟩,_⟩:=R.loc
  rw[<-e,hb] at q;cases q
 .cases q:cx.h₀.get? b with
  |none=>rfl
  |some o=>rw[R.keep b o q] at hb;cases hb
theorem lV {fS:Expr} {jx gi:Expr} {gf:List Expr} {gs:List Comprehension} {scope:Scope} {fr:List Nat} {pos:Pos} {H:List Addr} {I:Addr} {RR:Value->Addr->Result->Shared->Prop}
  (O:aW env sc) (CO:iM fr scope) {W:St->Prop} {K:List PV->St->Prop} {a9:fE}
  (Qt:∀ {ak:Env} {D:Addr} {R:Result->Shared->Prop} {aC:aT} {iK:St} {bC:Shared},aW ak scope->W iK->aH cx ak aC iK bC.heap->eT aC bC.heap H I a9->dU cx ak aC (D::H)->D∉H->bC.heap.PlainList D #[]->
   (∀ xs br aj h' tk ys,K xs br->aH cx ak aj br h'->dU cx ak aj (D::H)->h'.PlainList D ys->aU aj xs ys.toList->dm ak.locals (D::H) aC bC.heap aj h'->R (.ok .next) {bC with heap:=h',toks:=tk})->
   codeAny (model cx.prog cx.w) A (.compLoop (.ListComp fS (⟨jx,gi,gf,0⟩::gs) scope pos) 0 (.ref I) (.ref D) ak) R bC)
  (jy:∀ i j,a9≠ .rev i j) {bD:Heap} {ab:aT} {σ:St} {s:Shared}
  (hw:W {loc:=[],ce:=jG fr σ.ce,hp:=σ.hp}) (R:aH cx env ab σ s.heap)
  (hI:eT ab s.heap H I a9) (Ln:∀ b∈H,bD.get? b=none) (hb:∀ b o,bD.get? b=some o->s.heap.get? b=some o) (ze:∀ (i:Nat) (a:Addr),ab[i]? =some a->(bD.get? a).isSome=true) (Hh:(bD.get? env.locals).isSome=true) (Lo:∀ b o,cx.h₀.get? b=some o->bD.get? b=some o)
  (Lp:∀ D C jX xs aj h' tk m',K xs jX->aH cx env aj {σ with hp:=jX.hp++[.list xs]} h'->aj[jX.hp.length]? =some D->h'.Ns C m'->(∀ i:Nat,aj[i]? ≠some C)->C≠env.locals->cx.h₀.get? C=none->bD.get? C=none->
   Step env.locals ab bD aj h'->RR (.ref D) C (.ok .next) {s with heap:=h',toks:=tk}):
  wpAny (model cx.prog cx.w) A (newList []) (λaD dQ=>wpAny (model cx.prog cx.w) A (newFunctionEnv scope env.globals (bn env scope.names).reverse [] env.qual none .none (some env)) (λak kX=>
   codeAny (model cx.prog cx.w) A (.compStart (.ListComp fS (⟨jx,gi,gf,0⟩::gs) scope pos) 0 (.ref I) aD {ak with scope:=relabel scope env}) (RR aD ak.locals) kX) E dQ) E s:=by
 refine wpAny_newObj_type (wpAny_newFunctionEnv CO.cell (by intro y hy;simp at hy) (λai uk qE=>?_) CO.kind)
 dsimp only at uk qE ⊢
 generalize CN:s.heap.push {cls:=.type "list",dict:=none,data:=.seq ([]:List Value).toArray}=H2 at uk qE ⊢
 have hC:H2.objs.size=s.heap.objs.size+1:=by rw[<-CN,Heap.size_push]
 have Qu:s.heap.objs.size≠H2.objs.size:=by rw[hC];exact Z7 (Z0 _)
 have dC:∀ b o,s.heap.get? b=some o->ai.get? b=some o:=λb o e=>
  qE.extBut b o (by rw[hC];exact Z7 (ZZ (aaC e))) (ZX _ (CN▸ZX _ e))
 have oM:ai.PlainList s.heap.objs.size #[]:=⟨_,qE.extBut _ _ Qu (ZX _ (CN▸aai _ rfl))⟩
 have nD:s.heap.get? s.heap.objs.size=none:=aO (ZA _)
 have nC:s.heap.get? H2.objs.size=none:=aO (by rw[hC];exact Nat.le_succ _)
 generalize s.heap.objs.size=D at*
 generalize H2.objs.size=C at*
 have gn:∀ {a:Addr},s.heap.get? a=none->bD.get? a=none:=λ{a} q=>by
  cases e:bD.get? a with
  |none=>rfl
  |some o=>rw[hb a o e] at q;cases q
 have nb:∀ b∈D::H,bD.get? b=none:=λb hbm=>by
  rcases ZF.mp hbm with rfl|hbm
  .exact gn nD
  .exact Ln b hbm
 have zf:∀ {a:Addr},bD.get? a=none->∀ i:Nat,ab[i]? ≠some a:=λ{a} q i e=>by
  have:=ze i a e;rw[q] at this;cases this
 have notL:∀ {a:Addr},bD.get? a=none->a≠env.locals:=λ{a} q e=>by
  rw[<-e,q] at Hh;cases Hh
 have vF:∀ {a:Addr},bD.get? a=none->cx.h₀.get? a=none:=λ{a} q=>by
  cases e:cx.h₀.get? a with
  |none=>rfl
  |some o=>rw[Lo a o e] at q;cases q
 have CH:C∉H:=λq=>by have:=hI.live C q;rw[nC] at this;cases this
 have DH:D∉H:=λq=>by have:=hI.live D q;rw[nD] at this;cases this
 have OC:aW (compEnvC scope (bn env scope.names).reverse C env) scope:=ui O CO.kind CO.cell
 have au:aH cx (compEnvC scope (bn env scope.names).reverse C env) ab {loc:=[],ce:=jG fr σ.ce,hp:=σ.hp} ai:=by
  refine⟨λb o e=>dC b o (R.keep b o e),R.off,vF (gn nC),R.inj,λi a e q=>zf (gn nC) i (by rw[<-show a=C from q];exact e),R.len,λi o e=>?_,⟨_,uk,λx p e=>nomatch e⟩,λx i e=>?_,R.ff.keep λb o ø e d=>⟨o,dC b o e,d⟩,R.tb⟩
  .obtain⟨a,ob,e1,e2,e3⟩:=R.obj i o e
   exact⟨a,ob,e1,dC _ _ e2,e3⟩
  .obtain⟨h1,h2⟩:=xS e
   obtain⟨a,ha,hl⟩:=R.cel x i h2
   exact⟨a,ha,gF (CO.mem h1) hl⟩
 have zg:∀ dQ:Shared,dQ={s with heap:=ai,toks:=s.toks+([]:List (Str×Value)).length}->
   codeAny (model cx.prog cx.w) A (.compLoop (.ListComp fS (⟨jx,gi,gf,0⟩::gs) scope pos) 0 (.ref I) (.ref D) (compEnvC scope (bn env scope.names).reverse C env)) (RR (.ref D) C) dQ:=by
  rintro dQ rfl
  refine Qt (R:=RR (.ref D) C) (bC:={s with heap:=ai,toks:=s.toks+([]:List (Str×Value)).length}) OC hw au (hI.keep (.refl _) λb hbm o e=>dC b o e) (λb hbm=>?_) DH oM λxs jX aj h' tk ys hK R' Lq Co dd S=>?_
  .refine⟨zf (nb b hbm),λq=>?_,vF (nb b hbm),R.ff.nf λo e=>by
    rcases ZF.mp hbm with rfl|hbm
    .rw[nD] at e;cases e
    .exact hI.notD b hbm o e⟩
   have q:b=C:=q
   subst q
   rcases ZF.mp hbm with q|q
   .exact Qu q.symm
   .exact CH q
  .obtain⟨WN,WO⟩:=Co
   have Ff:∀ b o,bD.get? b=some o->(∀ i:Nat,ab[i]? ≠some b)->∃ sl,h'.get? b=some {o with slots:=sl}/\(eP o=false->sl=o.slots):=λb o e hn=>
    S.frame b o (dC b o (hb b o e)) (λq=>by have q:b=C:=q;rw[q,gn nC] at e;cases e) (λq=>by rw[nb b q] at e;cases e) hn
   have vG:∀ (i:Nat) (a:Addr),aj[i]? =some a->ab[i]? =some a\/bD.get? a=none:=λi a e=>by
    rcases S.fresh i a e with q|q|q
    .exact .inl q
    .cases e2:bD.get? a with
     |none=>exact .inr rfl
     |some o=>rw[dC a o (hb a o e2)] at q;cases q
    .exact .inr (nb a q)
   have R2:aH cx env aj {σ with hp:=jX.hp} h':=by
    refine⟨R'.keep,R'.off,R.offL,R'.inj,λi a e q=>?_,R'.len,R'.obj,?_,λx i e=>?_,R'.ff,R'.tb⟩
    .rcases vG i a e with h|h
     .exact R.notL i a h q
     .exact notL h q
    .obtain⟨m,hn,hm⟩:=R.loc
     obtain⟨o,Hj⟩:=ZJ.mp Hh
     refine⟨m,?_,λx p e=>(hm x p e).imp λø=>aaa (.mono S.ext)⟩
     obtain⟨o',es,ep,e1,e2,e3⟩:=hn
     have:=hb _ o Hj
     rw[this] at e1;cases e1
     obtain⟨sl,e4,_⟩:=Ff _ _ Hj λi q=>R.notL i _ q rfl
     exact⟨_,es,ep,e4,e2,e3⟩
    .obtain⟨a,h1,h2⟩:=R.cel x i e
     exact⟨a,S.ext _ _ h1,h2⟩
   have WP:∀ i:Nat,aj[i]? ≠some D:=(Lq D (.head _)).1
   have R3:=R2.take WO (o:=.list xs) ⟨ys.toList,WN,dd,by unfold bN;rw[Array.toArray_toList]⟩ WP (notL (gn nD)) (vF (gn nD))
   obtain⟨m',WQ,_⟩:=R'.loc
   have cb:aj.length=jX.hp.length:=R'.len
   refine Lp D C jX xs (aj++[D]) h' tk m' hK R3 (by rw[<-cb];exact ZR) WQ (λi e=>?_) (notL (gn nC)) (vF (gn nC)) (gn nC) ⟨S.ext.trans (.snoc _ _),λi a e=>?_,λb e=>?_,λb o e ø hn=>Ff b o e hn⟩
   .rcases c6 e with q|⟨_,q⟩
    .exact R'.notL i C q rfl
    .exact Qu q.symm
   .rcases c6 e with q|⟨_,rfl⟩
    .exact vG i a q
    .exact .inr (gn nD)
   .refine S.live b (λq=>?_) (j1 (λb o e=>dC b o (hb b o e)) b e)
    rw[nb b q] at e;cases e
 exact codeAny_compStart_list (zg _ rfl) (j9 jy (hI.keep (.refl _) λb hbm o e=>dC b o e) (zg _ rfl))
theorem ul {fS:Expr} {bU:gj} {rU:Expr} {rV:List Expr} {scope:Scope} {fr:List Nat} {pos:Pos} {H:List Addr} {I:Addr} {RR:Value->Addr->Result->Shared->Prop}
  (O:aW env sc) (hA:Good cx n A) (CO:iM fr scope) (ug:bU.ok scope=true) {wt:(Bool->St->Prop)->St->Prop} {we:bu->St->Prop} {K:List PV->St->Prop}
  (dF:∀ {ak:Env},aW ak scope->∀ {ab:aT} {σ:St} {s:Shared} {P:Bool->St->Prop} {Q:Bool->Shared->Prop} {E:Value->Shared->Prop},wt P σ->aH cx ak ab σ s.heap->fZ cx ak ab s P Q->
   wpAny (model cx.prog cx.w) A (forIn rV true λc r=>if r=true then do let ok<-isTrue c ak (eval c ak);pure (ForInStep.yield ok) else pure (ForInStep.yield r)) Q E s)
  (bI:∀ {ak:Env},aW ak scope->∀ {ab:aT} {σ:St} {s:Shared} {P:bu} {Q:Value->Shared->Prop} {E:Value->Shared->Prop},we P σ->aH cx ak ab σ s.heap->bB cx ak ab s P Q->wpAny (model cx.prog cx.w) A (eval fS ak) Q E s)
  {a9:fE} (nr:a9.isEnm=true->bU.isTup=true) (jy:∀ i j,a9≠ .rev i j) {cK:Nat} {bD:Heap} {ab:aT} {σ:St} {s:Shared}
  (hw:bh (aN bU) wt we K cK a9 [] {loc:=[],ce:=jG fr σ.ce,hp:=σ.hp}) (R:aH cx env ab σ s.heap)
  (hI:eT ab s.heap H I a9) (Ln:∀ b∈H,bD.get? b=none) (hb:∀ b o,bD.get? b=some o->s.heap.get? b=some o) (ze:∀ (i:Nat) (a:Addr),ab[i]? =some a->(bD.get? a).isSome=true) (Hh:(bD.get? env.locals).isSome=true) (Lo:∀ b o,cx.h₀.get? b=some o->bD.get? b=some o)
  (Lp:∀ D C jX xs aj h' tk m',K xs jX->aH cx env aj {σ with hp:=jX.hp++[.list xs]} h'->aj[jX.hp.length]? =some D->h'.Ns C m'->(∀ i:Nat,aj[i]? ≠some C)->C≠env.locals->cx.h₀.get? C=none->bD.get? C=none->
   Step env.locals ab bD aj h'->RR (.ref D) C (.ok .next) {s with heap:=h',toks:=tk}):
  wpAny (model cx.prog cx.w) A (newList []) (λaD dQ=>wpAny (model cx.prog cx.w) A (newFunctionEnv scope env.globals (bn env scope.names).reverse [] env.qual none .none (some env)) (λak kX=>
   codeAny (model cx.prog cx.w) A (.compStart (.ListComp fS [⟨bU.ex,rU,rV,0⟩] scope pos) 0 (.ref I) aD {ak with scope:=relabel scope env}) (RR aD ak.locals) kX) E dQ) E s:=by
 exact lV (W:=bh (aN bU) wt we K cK a9 []) (K:=K) O CO (λOC hw R hI hH dH hD ck=>xR OC hA ug (dF OC) (bI OC) nr hw R hI hH dH hD ck) jy hw R hI Ln hb ze Hh Lo Lp
end
section
variable {cx:Cx} {n:Nat}
set_option tactic.hygienic true in
theorem lW (C:bF cx n) {env:Env} {ab:aT} {σ:St} {s:Shared} {A:Around} {P:bu} {Q:Value->Shared->Prop} {E:Value->Shared->Prop} (hA:Good cx n A) {f:PV} {fv:Value} {ps:List PV} {vs:List Value}
  (hw:pA cx f ps P σ) (R:aH cx env ab σ s.heap) (df:cY ab f fv) (d:aU ab ps vs) (k:bB cx env ab s P Q):
  (Looks (model cx.prog cx.w) s.heap (keeperOf fv) .machine\/Looks (model cx.prog cx.w) s.heap (keeperOf fv) .frame)/\wpAny (model cx.prog cx.w) A (call fv vs) Q E s:=by
 cases f with
 |fn b=>
  have df:fv=b.value:=df
  subst df
  exact⟨.inl (cE λa e=>by cases b<;>cases e),xL hA.hd hw R d k⟩
 |val w=>
  have df:fv=w:=df
  subst df
  cases fv<;>first|exact False.elim hw|skip
  obtain⟨S,hS,hw⟩:=y0 hw
  obtain⟨⟨o,fd,ho,hd⟩,Km⟩:=C.d _ S hS
  exact⟨.inr (iJ (R.keep _ _ ho) hd),Km cx.fr hA R d hw k⟩
 |ref i=>
  obtain⟨a,ha,rfl⟩:=df
  obtain⟨kk,dk,hx,hw⟩:=K5 hw
  obtain⟨S,hS,hw⟩:=y0 hw
  obtain⟨h1,h2⟩:=C.dc kk dk S hS
  obtain⟨ob,ho,as,hc,oE,_⟩:=R.at ha hx
  obtain⟨fd,WR⟩:=h1 as ob oE
  exact⟨.inr (iJ ho WR),h2 cx.fr hA R ha hx d hw k⟩
 |_=>exact False.elim hw
theorem Hk {e:PE} (h:e.partOk=true):(e.isAbs=true/\e.exO=none)\/(e.isAbs=false/\e.exO=some e.ex):=by
 cases e<;>first|(cases h;done)|exact .inl ⟨rfl,rfl⟩|exact .inr ⟨rfl,rfl⟩
theorem bj {env:Env} {e:PE} {r:ca} (h:e.noExt=true):starEach (e.ex::r.ex) env=(false,eval e.ex env)::starEach r.ex env:=by
 cases e<;>first|(cases h;done)|rfl
theorem eg {env:Env} {sc:Scope} {pos:Pos}:∀ {es:ca},es.ok sc=true->(backTo pos (starEach es.ex env)).any (·.1)=false
 |.nil,_=>rfl
 |.cons e r,h=>by
  have h:=b3 h
  show(backTo pos (starEach (e.ex::r.ex) env)).any (·.1)=false
  rw[bj h.1.2]
  show(false||(backTo pos (starEach r.ex env)).any (·.1))=false
  rw[eg h.2];rfl
theorem ny {env:Env} {sc:Scope} {pos:Pos}:∀ {es:ca},es.ok sc=true->(backTo pos (starEach es.ex env)).all (λx=> !x.1)=true
 |.nil,_=>rfl
 |.cons e r,h=>by
  have h:=b3 h
  show(backTo pos (starEach (e.ex::r.ex) env)).all (λx=> !x.1)=true
  rw[bj h.1.2]
  show(!false&&(backTo pos (starEach r.ex env)).all (λx=> !x.1))=true
  rw[ny h.2];rfl
noncomputable def Lr:Expr->Bool
 |.Slice .. =>true
 |_=>false
theorem CP {e:PE} (h:e.noExt=true):∀ lo hi p,e.ex≠ .Slice lo hi none p:=by
 intro lo hi p q
 refine Bool.noConfusion ((?_:Lr e.ex=false).symm.trans (congrArg Lr q))
 cases e<;>first|rfl|cases h
theorem zh {op:CmpOp} {e:PE} (h:e.noExt=true):behindInMarks op e.ex=false:=by
 cases e<;>first|(cases h;done)|rfl
theorem rX {env:Env} {o:PE} {m:Mt} (h:o.noCall=true):attributeBase o.ex m.name env (eval o.ex env)=eval o.ex env:=by
 cases o<;>first|(cases h;done)|rfl
end
theorem zi {env:Env} {e:PE} (h:e.noExt=true):∀ x,foldedSetIterable e.ex env x=pure x:=by
 intro x
 cases e<;>first|(cases h;done)|rfl
theorem jl {cx:Cx} {n:Nat} {env:Env} {sc:Scope} {ab:aT} {σ:St} {s:Shared} {A:Around} {P:bu} {Q:Value->Shared->Prop} {E:Value->Shared->Prop} {Kn:Option (Value->Sem Unit)}
  (O:aW env sc) (hA:Good cx n A) {fS Pw:Expr} {rV:List Expr} {bU:gj} {fr:List Nat} {scope:Scope} {pos Qv:Pos} (CO:kQ fr scope=true) (ug:bU.ok scope=true)
  (hs:∀ x,foldedSetIterable Pw env x=pure x) {wt:(Bool->St->Prop)->St->Prop} {we:bu->St->Prop}
  (dF:∀ {ak:Env},aW ak scope->∀ {ab:aT} {σ:St} {s:Shared} {P:Bool->St->Prop} {Q:Bool->Shared->Prop} {E:Value->Shared->Prop},wt P σ->aH cx ak ab σ s.heap->fZ cx ak ab s P Q->
   wpAny (model cx.prog cx.w) A (forIn rV true λc r=>if r=true then do let ok<-isTrue c ak (eval c ak);pure (ForInStep.yield ok) else pure (ForInStep.yield r)) Q E s)
  (bI:∀ {ak:Env},aW ak scope->∀ {ab:aT} {σ:St} {s:Shared} {P:bu} {Q:Value->Shared->Prop} {E:Value->Shared->Prop},we P σ->aH cx ak ab σ s.heap->bB cx ak ab s P Q->wpAny (model cx.prog cx.w) A (eval fS ak) Q E s)
  (qF:(fr.all λx=>(look σ.ce x).isSome)=true) (R:aH cx env ab σ s.heap)
  (iter:∀ {Q':Value->Shared->Prop},(∀ ag aw ai av a9 H I h' cK,aH cx env ag aw ai->Step env.locals ab s.heap ag ai->bh (aN bU) wt we (λxs jX=>push (.list xs) P {aw with hp:=jX.hp}) cK a9 [] {loc:=[],ce:=jG fr aw.ce,hp:=aw.hp}->
    (∀ i j,a9≠ .rev i j)->(a9.isEnm=true->bU.isTup=true)->(∀ b o,ai.get? b=some o->h'.get? b=some o)->eT ag h' H I a9->(∀ b∈H,ai.get? b=none)->Q' (.ref I) {s with heap:=h',toks:=av})->
   wpAny (model cx.prog cx.w) A (eval Pw env) (λxv bz=>wpAny (model cx.prog cx.w) A (pyIter xv) Q' E bz) E s)
  (ck:∀ i D C m' br aj h' tk,P (.ref i) br->aj[i]? =some D->aH cx env aj br h'->h'.Ns C m'->(∀ i:Nat,aj[i]? ≠some C)->C≠env.locals->cx.h₀.get? C=none->s.heap.get? C=none->Step env.locals ab s.heap aj h'->
   compPost (model cx.prog cx.w) A E Kn Q (.ref D) C (.ok .next) {s with heap:=h',toks:=tk}):
  wpAny (model cx.prog cx.w) A (comprehension (.ListComp fS [⟨bU.ex,Pw,rV,0⟩] scope pos) scope env Qv (newList []) false (eval Pw env) Kn) Q E s:=by
 have CO:=pM CO
 have jY:closureFor scope env=pure (bn env scope.names).reverse:=gm λy hy hf=>by
  obtain⟨x,hx,e⟩:=CO.of hy hf
  obtain⟨i,hi⟩:=ZJ.mp (ZU.mp qF x hx)
  obtain⟨a,_,hl⟩:=R.cel x i hi
  rw[e,hl];rfl
 refine wpAny_comprehension_free rfl hs jY CO.kind CO.names (iter λag aw ai av a9 H I h' cK au aB hw jy nr hk hI hH=>?_)
 obtain⟨R',S'⟩:=au.grow hk
 refine ul (s:={s with heap:=h',toks:=av}) (bD:=ai) (σ:=aw) O hA CO ug dF bI nr jy hw R' hI hH hk (λi a e=>?_) ?_ au.keep λD C jX xs aj bf tk m' hK aK hi hn hC vH xT Qw aR=>?_
 .obtain⟨_,_,_,e2,_⟩:=au.here e
  rw[e2];rfl
 .obtain⟨m,⟨o,_,_,ho,_⟩,_⟩:=au.loc
  rw[ho];rfl
 .refine ck jX.hp.length D C m' _ aj bf tk hK hi aK hn hC vH xT ?_ (aB.trans aR)
  cases q:s.heap.get? C with
  |none=>rfl
  |some o=>have:=aB.live C (by rw[q];rfl);rw[Qw] at this;cases this
theorem Step.but {L C:Addr} {ab aj:aT} {h h' Hl:Heap} (S:Step L ab h aj h') (hC:h.get? C=none) (hs:Heap.SameBut C h' Hl):Step L ab h aj Hl:=
 ⟨S.ext,S.fresh,λb e=>by
  have n:b≠C:=λq=>by rw[q,hC] at e;cases e
  rw[hs.2 b n];exact S.live b e,λb o e hL hn=>by
  have n:b≠C:=λq=>by rw[q,hC] at e;cases e
  rw[hs.2 b n];exact S.frame b o e hL hn⟩
theorem aH.but {cx:Cx} {env:Env} {ab:aT} {σ:St} {h h':Heap} {C:Addr} (R:aH cx env ab σ h) (h1:∀ i:Nat,ab[i]? ≠some C) (h2:C≠env.locals) (h3:cx.h₀.get? C=none) (h4:NF cx.fr C) (hs:Heap.SameBut C h h'):aH cx env ab σ h':=
 R.hid (H:=[C]) (λb hb=>by rw[ZG.mp hb];exact⟨h1,h2,h3,h4⟩) λb o nb e=>(hs.2 b λq=>nb (by rw[q];exact .head _)).trans e
theorem rY {cx:Cx} {n:Nat} (C:bF cx n) {env:Env} {sc:Scope} {ab:aT} {σ:St} {s:Shared} {A:Around} {E:Value->Shared->Prop} (O:aW env sc) (hA:Good cx n A) {gx:Nat} {gp cp:Pos} {x:PE} (hx:x.noExt=true)
  (hk:kdOf sc gx=3) (hd:(nm gx !=Str.ofString "__debug__")=true) (Qx:cx.EN gx) (R:aH cx env ab σ s.heap) {Px:bu} {Q':Value->Shared->Prop}
  (Km:∀ {Q:Value->Shared->Prop},bB cx env ab s Px Q->wpAny (model cx.prog cx.w) A (eval x.ex env) Q E s)
  (K:∀ iv aw ag ai av,Px iv aw->aH cx env ag aw ai->Step env.locals ab s.heap ag ai->∃ i xs,iv=.ref i/\aw.hp[i]? =some (.list xs)/\∀ I H h',(∀ b o,ai.get? b=some o->h'.get? b=some o)->eT ag h' H I (.enm i 0)->(∀ b∈H,ai.get? b=none)->Q' (.ref I) {s with heap:=h',toks:=av}):
  wpAny (model cx.prog cx.w) A (eval (.Call (.Name (nm gx) gp) [x.ex] [] cp) env) (λxv bz=>wpAny (model cx.prog cx.w) A (pyIter xv) Q' E bz) E s:=by
 obtain⟨m,mb,h1,h2,h3,_⟩:=C.en
 obtain⟨g1,g2⟩:=h3 gx Qx
 refine wpAny_Call_NameR (wpAny_Name ?_ (dG hd))
 rw[dq O hk]
 refine loadGlobal_builtin (by rw[O.glob];exact h1.keeps R.keep) g1 (by rw[O.bi];exact h2.keeps R.keep) g2 ?_
 refine bQ (es:=.cons x .nil) (Pm:=λø=>True) (λh ø=>.inl (cE λa e=>by cases e)) (λe r q=>bj (by have z:x=e:=congrArg ca.hd q;rw[<-z];exact hx)) ?_ (λq=>absurd (congrArg ca.isNil q) aaF) (λø=>?_)
 .show(backTo cp (starEach (x.ex::ca.nil.ex) env)).any (·.1)=false
  rw[bj hx];rfl
 .refine spliced_more (Km λiv ae ag xv ai av hw₁ d au aB=>spliced_none ⟨trivial,?_⟩) (bj hx)
  obtain⟨i,xs,rfl,Ko,K⟩:=K iv ae ag ai av hw₁ au aB
  obtain⟨a,ha,rfl⟩:=d
  obtain⟨vs,nn,dd,hl⟩:=au.list (s:={s with heap:=ai,toks:=av}) ha Ko
  refine call_enumerate_list (aI hl) λh' he eQ GX qD=>wpAny_pyIter_enum he (K _ [_,_] h' qD ⟨ai.objs.size,a,.none,rfl,aam (Z0 _),ha,he,eQ⟩ λb hb=>?_)
  rcases ZF.mp hb with rfl|hb
  .exact aO (by show ai.objs.size<=ai.objs.size+1;exact la [_] [] [] (.l .v0 (.a .v0 .n1)) (.f [1]) rfl)
  .rw[ZG.mp hb];exact aO (ZA _)
theorem rZ {env:Env} (l:List Expr):(forIn l false λc r=>if r=true then(do let ok<-isTrue c env (eval c env);pure (ForInStep.yield ok):Sem (ForInStep Bool)) else pure (ForInStep.yield r))=pure false:=by
 induction l with
 |nil=>rfl
 |cons c l ih=>exact(List.forIn_cons ..).trans ih
noncomputable def SE (cx:Cx) (n:Nat) (e:PE):Prop:=∀ {env:Env} {sc:Scope} {ab:aT} {σ:St} {s:Shared} {A:Around} {P:bu} {Q:Value->Shared->Prop} {E:Value->Shared->Prop},
  Good cx n A->aW env sc->e.ok sc=true->aZ cx e P σ->aH cx env ab σ s.heap->bB cx env ab s P Q->wpAny (model cx.prog cx.w) A (eval e.ex env) Q E s
noncomputable def Pz (cx:Cx) (n:Nat) (es:ca):Prop:=∀ {env:Env} {sc:Scope} {ab:aT} {σ:St} {s:Shared} {A:Around} {P:List PV->St->Prop} {Q:List Value->Shared->Prop} {E:Value->Shared->Prop} {pos:Pos},
  Good cx n A->aW env sc->es.ok sc=true->gW cx es P σ->aH cx env ab σ s.heap->Lk cx env ab s P Q->wpAny (model cx.prog cx.w) A (spliced (backTo pos (starEach es.ex env))) Q E s
noncomputable def SB (cx:Cx) (n:Nat) (op:PySem.BoolOp) (es:ca):Prop:=∀ {env:Env} {sc:Scope} {ab:aT} {σ:St} {s:Shared} {A:Around} {P:bu} {Q:Value->Shared->Prop} {E:Value->Shared->Prop} {pos:Pos},
  Good cx n A->aW env sc->es.ok sc=true->E7 cx op es P σ->aH cx env ab σ s.heap->bB cx env ab s P Q->wpAny (model cx.prog cx.w) A (boolOp pos op (evalEach es.ex env)) Q E s
noncomputable def ST (cx:Cx) (n:Nat) (e:PE):Prop:=∀ {env:Env} {sc:Scope} {ab:aT} {σ:St} {s:Shared} {A:Around} {P:Bool->St->Prop} {Q:Bool->Shared->Prop} {E:Value->Shared->Prop},
  Good cx n A->aW env sc->e.ok sc=true->iB cx e P σ->aH cx env ab σ s.heap->fZ cx env ab s P Q->wpAny (model cx.prog cx.w) A (isTrue e.ex env (eval e.ex env)) Q E s
noncomputable def Qy (cx:Cx) (n:Nat) (op:PySem.BoolOp) (es:ca):Prop:=∀ {env:Env} {sc:Scope} {ab:aT} {σ:St} {s:Shared} {A:Around} {P:Bool->St->Prop} {Q:Bool->Shared->Prop} {E:Value->Shared->Prop},
  Good cx n A->aW env sc->es.ok sc=true->ub cx op es P σ->aH cx env ab σ s.heap->fZ cx env ab s P Q->wpAny (model cx.prog cx.w) A (allTrue op es.ex env) Q E s
noncomputable def SI (cx:Cx) (n:Nat) (es:ca):Prop:=∀ {env:Env} {sc:Scope} {ab:aT} {σ:St} {s:Shared} {A:Around} {P:Bool->St->Prop} {Q:Bool->Shared->Prop} {E:Value->Shared->Prop},
  Good cx n A->aW env sc->es.ok sc=true->cu cx es P σ->aH cx env ab σ s.heap->fZ cx env ab s P Q->
  wpAny (model cx.prog cx.w) A (forIn es.ex true λc r=>if r=true then do let ok<-isTrue c env (eval c env);pure (ForInStep.yield ok) else pure (ForInStep.yield r)) Q E s
noncomputable def ME (cx:Cx) (n:Nat) (e:PE):Prop:=SE cx n e/\ST cx n e
noncomputable def nA (cx:Cx) (n:Nat) (es:ca):Prop:=Pz cx n es/\(∀ op,SB cx n op es)/\(∀ op,Qy cx n op es)/\SI cx n es
section
variable {cx:Cx} {n:Nat}
theorem Hm (C:bF cx n) (i:Int) (p:Pos):SE cx n (.int i p):=by
 intro env sc ab σ s A P Q E hA O ok hw R k
 exact wpAny_Constant_int (k.same R hw ⟨_,rfl⟩)
theorem Hn (C:bF cx n) (x:Str) (p:Pos):SE cx n (.str x p):=by
 intro env sc ab σ s A P Q E hA O ok hw R k
 exact wpAny_Constant_str (k.same R hw ⟨_,rfl⟩)
theorem CQ (C:bF cx n) (p:Pos):SE cx n (.none p):=by
 intro env sc ab σ s A P Q E hA O ok hw R k
 exact wpAny_Constant_none (k.same R hw rfl)
theorem CR (C:bF cx n) (b:Bool) (p:Pos):SE cx n (.bool b p):=by
 intro env sc ab σ s A P Q E hA O ok hw R k
 exact wpAny_Constant_bool (k.same R hw rfl)
theorem zj (C:bF cx n) (x:Nat) (p:Pos):SE cx n (.loc x p):=by
 intro env sc ab σ s A P Q E hA O ok hw R k
 have ok:=b2 ok
 obtain⟨v,hv,hw⟩:=Cw hw
 exact iI O (eq_of_beq ok.1) ok.2 hv hw R k
theorem zk (C:bF cx n) (x:Nat) (p:Pos):SE cx n (.cel x p):=by
 intro env sc ab σ s A P Q E hA O ok hw R k
 have ok:=b3 ok
 exact xQ O (eq_of_beq ok.1.1) ok.1.2 ok.2 hw R k
theorem CS (C:bF cx n) (x:Nat) (p:Pos):SE cx n (.glob x p):=by
 intro env sc ab σ s A P Q E hA O ok hw R k
 have ok:=b2 ok
 obtain⟨v,hv,hw⟩:=Cw hw
 exact ue C O (eq_of_beq ok.1) ok.2 hv hw R k
theorem zl (C:bF cx n) (op:Operator) (l:PE) (r:PE) (p:Pos) (hl:ME cx n l) (hr:ME cx n r):SE cx n (.bin op l r p):=by
 intro env sc ab σ s A P Q E hA O ok hw R k
 have ok:=b2 ok
 refine wpAny_BinOp (hl.1 hA O ok.1 hw R λa ae ag va ai av hw₁ da au aB=>?_)
 refine hr.1 hA O ok.2 hw₁ au λb aw aM vb bf bE hw₂ db aK aR=>?_
 exact mZ hw₂ aK (da.mono aR.ext) db ((k.after aB).after aR)
theorem Ls (C:bF cx n) (op:UnaryOp) (e:PE) (p:Pos) (he:ME cx n e):SE cx n (.un op e p):=by
 intro env sc ab σ s A P Q E hA O ok hw R k
 refine wpAny_UnaryOp (he.1 hA O ok hw R λa ae ag va ai av hw₁ da au aB=>?_)
 exact xF hw₁ au da (k.after aB)
theorem Ho (C:bF cx n) (op:CmpOp) (l:PE) (r:PE) (p:Pos) (hl:ME cx n l) (hr:ME cx n r):SE cx n (.cmp op l r p):=by
 intro env sc ab σ s A P Q E hA O ok hw R k
 have ok:=b3 ok
 refine wpAny_Compare1 (hl.1 hA O ok.1.1 hw R λa ae ag va ai av hw₁ da au aB=>?_) (zh ok.2)
 refine hr.1 hA O ok.1.2 hw₁ au λb aw aM vb bf bE hw₂ db aK aR=>?_
 exact m6 (by have:=hA.units;exact la [_,_,_] [] [.t (.a (.a .v0 (.m 16 .v1)) (.n 100)) .v2] (.t (.a .v0 (.n 64)) .v2) (.f [1,1]) rfl this) hw₂ aK (da.mono aR.ext) db ((k.after aB).after aR)
theorem Hp (C:bF cx n) (op:PySem.BoolOp) (es:ca) (p:Pos) (fG:nA cx n es):SE cx n (.bop op es p):=by
 intro env sc ab σ s A P Q E hA O ok hw R k
 exact(fG.2.1 _) hA O ok hw R k
theorem Hq (C:bF cx n) (t:PE) (a:PE) (b:PE) (p:Pos) (ht:ME cx n t) (ha:ME cx n a) (hb:ME cx n b):SE cx n (.ite t a b p):=by
 intro env sc ab σ s A P Q E hA O ok hw R k
 have ok:=b3 ok
 refine wpAny_IfExp (ht.2 hA O ok.1.1 hw R λc ae ag ai av hw₁ au aB=>?_)
 cases c with
 |true=>exact ha.1 hA O ok.1.2 (hw₁.1 rfl) au (k.after aB)
 |false=>exact hb.1 hA O ok.2 (hw₁.2 rfl) au (k.after aB)
theorem vJ (C:bF cx n) (f:PE) (bo:ca) (p:Pos) (hf:ME cx n f) (im:nA cx n bo):SE cx n (.call f bo p):=by
 intro env sc ab σ s A P Q E hA O ok hw R k
 have ok:=b3 ok
 have go:∀ {fv:PV} {f':Value} {ag:aT} {ae:St} {bz:Shared} {oP:bB cx env ag bz P Q},gW cx bo (λvs=>pA cx fv vs P) ae->cY ag fv f'->aH cx env ag ae bz.heap->
   wpAny (model cx.prog cx.w) A (callWith p f' [] (backTo p (starEach bo.ex env)) []) Q E bz:=by
  intro fv f' ag ae bz oP hw₁ df au
  refine bQ (Pm:=λh=>Looks (model cx.prog cx.w) h (keeperOf f') .machine\/Looks (model cx.prog cx.w) h (keeperOf f') .frame) (λø h=>h) (λe r q=>?_) (eg ok.1.2) (λq=>?_) (λø=>?_)
  .subst q
   have:=ok.1.2
   have this:=b3 this
   exact bj this.1.2
  .subst q
   exact lW C hA hw₁ au df (show aU ag [] [] from trivial) oP
  .refine im.1 hA O ok.1.2 hw₁ au λps aw aM vs bf bE hw₂ iN aK aR=>?_
   exact lW C hA hw₂ aK (df.mono aR.ext) iN (oP.after aR)
 have ck:wpAny (model cx.prog cx.w) A (eval f.ex env) (λf' bz=>wpAny (model cx.prog cx.w) A (callWith p f' [] (backTo p (starEach bo.ex env)) []) Q E bz) E s:=
  hf.1 hA O ok.1.1 hw R λfv ae ag f' ai av hw₁ df au aB=>go (oP:=k.after aB) hw₁ df au
 have Qz:∃ x q,f.ex=.Name x q:=by
  have:=ok.2
  cases f<;>first|(cases this;done)|exact⟨_,_,rfl⟩
 obtain⟨x,q,e⟩:=Qz
 show wpAny _ _ (eval (.Call f.ex bo.ex [] p) env) _ _ _
 rw[e] at ck ⊢
 exact wpAny_Call_NameR ck
theorem CT (C:bF cx n) (o:PE) (m:Mt) (ap:Pos) (bo:ca) (p:Pos) (ho:ME cx n o) (im:nA cx n bo):SE cx n (.meth o m ap bo p):=by
 intro env sc ab σ s A P Q E hA O ok hw R k
 have ok:=b5 ok
 obtain⟨⟨⟨⟨Lu,tU⟩,Fg⟩,Lv⟩,QB⟩:=ok
 refine wpAny_Call_method_late (rX Fg) ?_ Lv rfl (ho.1 hA O Lu hw R λov ae ag WS ai av hw₁ r0 au aB=>?_)
 .rw[ny tU]
  show(true&&true&&decide (bo.ex.length+0+0<30))=true
  simpa using of_decide_eq_true QB
 .obtain⟨T,h1,h2,h3,h4,h5⟩:=lP (s:={s with heap:=ai,toks:=av}) C.toCxOk hw₁.1 au r0
  refine⟨T,m.id,h1,h2,h3,h4,h5,?_⟩
  refine bQ (Pm:=λø=>True) (λh ø=>.inl (cE λa e=>by cases e)) (λe r q=>?_) (eg tU) (λq=>?_) (λø=>?_)
  .subst q
   have tU:=b3 tU
   exact bj tU.1.2
  .subst q
   exact⟨trivial,pz C.toCxOk hw₁.2 au r0 (show aU ag [] [] from trivial) (k.after aB)⟩
  .refine im.1 hA O tU hw₁.2 au λps aw aM vs bf bE hw₂ iN aK aR=>?_
   exact⟨trivial,pz C.toCxOk hw₂ aK (r0.mono aR.ext) iN ((k.after aB).after aR)⟩
theorem Hr (C:bF cx n) (o:PE) (i:PE) (p:Pos) (ho:ME cx n o) (hi:ME cx n i):SE cx n (.sub o i p):=by
 intro env sc ab σ s A P Q E hA O ok hw R k
 have ok:=b3 ok
 refine Subscript_ (ho.1 hA O ok.1.1 hw R λa ae ag va ai av hw₁ da au aB=>?_)
 refine hi.1 hA O ok.1.2 hw₁ au λb aw aM vb bf bE hw₂ db aK aR=>?_
 exact t5 (CP ok.2) hw₂ aK (da.mono aR.ext) db ((k.after aB).after aR)
theorem r4 (C:bF cx n) (o:PE) (lo:PE) (hi:PE) (st:PE) (sp:Pos) (p:Pos) (ho:ME cx n o) (po:ME cx n lo) (Cm:ME cx n hi) (yR:ME cx n st):SE cx n (.slice o lo hi st sp p):=by
 intro env sc ab σ s A P Q E hA O ok hw R k
 have ok:=b7 ok
 obtain⟨⟨⟨⟨⟨⟨o1,o2⟩,o3⟩,o4⟩,p2⟩,p3⟩,p4⟩:=ok
 have part:∀ (e:PE) (pk:e.partOk=true) (Km:∀ {ab:aT} {σ:St} {s:Shared} {P:bu} {Q:Value->Shared->Prop},aZ cx e P σ->aH cx env ab σ s.heap->bB cx env ab s P Q->wpAny (model cx.prog cx.w) A (eval e.ex env) Q E s)
   {ab:aT} {σ:St} {s:Shared} {P:bu} {Q:Value->Shared->Prop},kS e.isAbs (aZ cx e) P σ->aH cx env ab σ s.heap->bB cx env ab s P Q->wpAny (model cx.prog cx.w) A (evalPart e.exO env) Q E s:=by
  intro e pk Km ab σ s P Q hw R k
  rcases Hk pk with⟨h1,h2⟩|⟨h1,h2⟩
  .rw[h1] at hw
   rw[h2]
   exact wpAny_pure (k.same R (v:=.none) (tk:=s.toks) hw rfl)
  .rw[h1] at hw
   rw[h2]
   exact Km hw R k
 show wpAny _ _ (eval (.Subscript o.ex (.Slice lo.exO hi.exO st.exO sp) p) env) _ _ _
 refine Subscript_ (ho.1 hA O o1 hw R λa ae ag va ai av hw₁ da au aB=>?_)
 refine wpAny_Slice (part lo p2 (λa b c=>po.1 hA O o2 a b c) hw₁ au λl aw aM vl bf bE hw₂ dl aK aR=>?_)
 refine part hi p3 (λa b c=>Cm.1 hA O o3 a b c) hw₂ aK λh cn bW vh cD cf bZ dh cH cw=>?_
 refine part st p4 (λa b c=>yR.1 hA O o4 a b c) bZ cH λt pK g8 vt fq jD fF dt fT e8=>?_
 exact qC (s:={s with heap:=fq,toks:=jD}) fF fT (((da.mono aR.ext).mono cw.ext).mono e8.ext) ((dl.mono cw.ext).mono e8.ext) (dh.mono e8.ext) dt ((((k.after aB).after aR).after cw).after e8)
theorem xU (C:bF cx n):SE cx n (.absent):=by
 intro env sc ab σ s A P Q E hA O ok hw R k
 exact hw.elim
theorem CU (C:bF cx n) (es:ca) (p:Pos) (fG:nA cx n es):SE cx n (.list es p):=by
 intro env sc ab σ s A P Q E hA O ok hw R k
 refine wpAny_List (fG.1 hA O ok hw R λps aw aM vs bf bE hw₂ iN aK aR=>?_)
 exact⟨by rw[<-iN.length];exact aX hw₂.1,(k.after aR).new (s:={s with heap:=bf,toks:=bE}) aK hw₂.2 ⟨vs,0,iN,rfl⟩⟩
theorem Hu (C:bF cx n) (es:ca) (kk:Nat) (p:Pos) (fG:nA cx n es):SE cx n (.tup es kk p):=by
 intro env sc ab σ s A P Q E hA O ok hw R k
 refine wpAny_Tuple (fG.1 hA O ok hw R λps aw aM vs bf bE hw₂ iN aK aR=>?_)
 exact⟨by rw[<-iN.length];exact aX hw₂.1,(k.after aR).new (s:={s with heap:=bf,toks:=bE}) aK hw₂.2 ⟨vs,0,iN,rfl⟩⟩
theorem CV (C:bF cx n) (bI:PE) (bU:gj) (it:PE) (iz:ca) (fr:List Nat) (fp:Scope) (p:Pos) (nB:ME cx n bI) (eQ:ME cx n it) (zm:nA cx n iz):SE cx n (.comp bI bU it iz fr fp p):=by
 intro env sc ab σ s A P Q E hA O ok hw R k
 have ok:=b6 ok
 obtain⟨⟨⟨⟨⟨o1,o2⟩,o3⟩,o4⟩,o5⟩,o6⟩:=ok
 show wpAny _ _ (comprehension (.ListComp bI.ex [⟨bU.ex,it.ex,iz.ex,0⟩] fp p) fp env it.ex.pos (newList []) false (eval it.ex env) none) _ _ _
 refine jl (P:=P) (Kn:=none) (wt:=cu cx iz) (we:=aZ cx bI) O hA o3 o5 (zi o2) (λOC=>λa b c=>zm.2.2.2 hA OC o6 a b c) (λOC=>λa b c=>nB.1 hA OC o4 a b c) hw.1 R (λ{Q'} K=>?_) λi D Cc m' br aj h' tk hP hi aK hn hC vH xT um aR=>?_
 .exact eQ.1 hA O o1 hw.2 R λiv ae ag xv ai av hw₁ d au aB=>dw (s:={s with heap:=ai,toks:=av}) hw₁ au d λa9 H I h' hw₂ jy qG hk hI hH ø=>by
   obtain⟨cK,hw₂⟩:=hw₂
   exact K ag ae ai av a9 H I h' cK au aB hw₂ jy (λq=>by rw[qG] at q;cases q) hk hI hH
 .exact⟨m',hn,λHl hs=>k _ _ _ _ _ _ hP ⟨D,hi,rfl⟩ (aK.but hC vH xT (R.ff.nf λo e=>by rw[um] at e;cases e) hs) (aR.but um hs)⟩
set_option tactic.hygienic true in
theorem xV (C:bF cx n) (bI:PE) (bU:gj) (gx:Nat) (gp:Pos) (x:PE) (cp:Pos) (fr:List Nat) (fp:Scope) (p:Pos) (nB:ME cx n bI) (hx:ME cx n x):SE cx n (.compEn bI bU gx gp x cp fr fp p):=by
 intro env sc ab σ s A P Q E hA O ok hw R k
 have ok:=b8 ok
 obtain⟨⟨⟨⟨⟨⟨⟨o1,o2⟩,o3⟩,o4⟩,o5⟩,o6⟩,o7⟩,o8⟩:=ok
 show wpAny _ _ (comprehension (.ListComp bI.ex [⟨bU.ex,.Call (.Name (nm gx) gp) [x.ex] [] cp,[],0⟩] fp p) fp env cp (newList []) false (eval (.Call (.Name (nm gx) gp) [x.ex] [] cp) env) none) _ _ _
 refine jl (P:=P) (Kn:=none) (we:=aZ cx bI) O hA o5 o7 (λø=>rfl) (wt:=λQ=>Q true) (λOC=>λa b c=>wpAny_pure (c.same b (tk:=_) a)) (λOC=>λa b c=>nB.1 hA OC o6 a b c) hw.2.1 R (λ{Q'} K=>?_) λi D Cc m' br aj h' tk hP hi aK hn hC vH xT um aR=>?_
 .refine rY C O hA o2 (eq_of_beq o3) o4 hw.1 R (λ{Q} kk=>hx.1 hA O o1 hw.2.2 R kk) λiv aw ag ai av hw₁ au aB=>?_
  obtain⟨i,rfl,hw₁⟩:=vu hw₁
  obtain⟨xs,hx,cK,hw₂⟩:=fg hw₁
  exact⟨i,xs,rfl,hx,λI H h' hk hI hH=>K ag aw ai av (.enm i 0) H I h' cK au aB hw₂ (λø ø q=>by cases q) (λø=>o8) hk hI hH⟩
 .exact⟨m',hn,λHl hs=>k _ _ _ _ _ _ hP ⟨D,hi,rfl⟩ (aK.but hC vH xT (R.ff.nf λo e=>by rw[um] at e;cases e) hs) (aR.but um hs)⟩
theorem Hv (C:bF cx n) (kk:Nat) (e:Expr):SE cx n (.ext kk e):=by
 intro env sc ab σ s A P Q E hA O ok hw R k
 exact C.x kk e hw.1 ok hA O hw.2 R k
theorem Hw (C:bF cx n) (i:Int) (p:Pos):ST cx n (.int i p):=by
 intro env sc ab σ s A P Q E hA O ok hw R k
 exact False.elim hw
theorem Hy (C:bF cx n) (x:Str) (p:Pos):ST cx n (.str x p):=by
 intro env sc ab σ s A P Q E hA O ok hw R k
 exact False.elim hw
theorem CW (C:bF cx n) (p:Pos):ST cx n (.none p):=by
 intro env sc ab σ s A P Q E hA O ok hw R k
 exact False.elim hw
theorem CX (C:bF cx n) (b:Bool) (p:Pos):ST cx n (.bool b p):=by
 intro env sc ab σ s A P Q E hA O ok hw R k
 exact False.elim hw
theorem Hz (C:bF cx n) (x:Nat) (p:Pos) (hE:SE cx n (.loc x p)):ST cx n (.loc x p):=by
 intro env sc ab σ s A P Q E hA O ok hw R k
 have hw:aZ cx (.loc x p) (λv=>oJ v P) σ:=hw
 exact wpAny_isTrue_value (hE hA O ok hw R λv ae ag u ai av hw₁ dv au aB=>ef (s:={s with heap:=ai,toks:=av}) hw₁ au dv (k.after aB)) rfl
theorem HA (C:bF cx n) (x:Nat) (p:Pos) (hE:SE cx n (.cel x p)):ST cx n (.cel x p):=by
 intro env sc ab σ s A P Q E hA O ok hw R k
 have hw:aZ cx (.cel x p) (λv=>oJ v P) σ:=hw
 exact wpAny_isTrue_value (hE hA O ok hw R λv ae ag u ai av hw₁ dv au aB=>ef (s:={s with heap:=ai,toks:=av}) hw₁ au dv (k.after aB)) rfl
theorem CY (C:bF cx n) (x:Nat) (p:Pos):ST cx n (.glob x p):=by
 intro env sc ab σ s A P Q E hA O ok hw R k
 exact False.elim hw
theorem HB (C:bF cx n) (op:Operator) (l:PE) (r:PE) (p:Pos) (hE:SE cx n (.bin op l r p)):ST cx n (.bin op l r p):=by
 intro env sc ab σ s A P Q E hA O ok hw R k
 have hw:aZ cx (.bin op l r p) (λv=>oJ v P) σ:=hw
 exact wpAny_isTrue_value (hE hA O ok hw R λv ae ag u ai av hw₁ dv au aB=>ef (s:={s with heap:=ai,toks:=av}) hw₁ au dv (k.after aB)) rfl
theorem Lw (C:bF cx n) (op:UnaryOp) (e:PE) (p:Pos) (he:ME cx n e):ST cx n (.un op e p):=by
 intro env sc ab σ s A P Q E hA O ok hw R k
 cases op with
 |Not=>
  exact wpAny_isTrue_Not (he.2 hA O ok hw R λb ae ag ai av hw₁ au aB=>k _ _ _ _ _ hw₁ au aB)
 |_=>exact False.elim hw
theorem HC (C:bF cx n) (op:CmpOp) (l:PE) (r:PE) (p:Pos) (hl:ME cx n l) (hr:ME cx n r):ST cx n (.cmp op l r p):=by
 intro env sc ab σ s A P Q E hA O ok hw R k
 have ok:=b3 ok
 refine wpAny_isTrue_Compare1 (hl.1 hA O ok.1.1 hw R λa ae ag va ai av hw₁ da au aB=>?_) (zh ok.2)
 refine hr.1 hA O ok.1.2 hw₁ au λb aw aM vb bf bE hw₂ db aK aR=>?_
 refine m6 (s:={s with heap:=bf,toks:=bE}) (by have:=hA.units;exact la [_,_,_] [] [.t (.a (.a .v0 (.m 16 .v1)) (.n 100)) .v2] (.t (.a .v0 (.n 64)) .v2) (.f [1,1]) rfl this) hw₂ aK (da.mono aR.ext) db λv cn bW u cD cf bZ dv cH cw=>?_
 exact ef (s:={s with heap:=cD,toks:=cf}) bZ cH dv (((k.after aB).after aR).after cw)
theorem HD (C:bF cx n) (op:PySem.BoolOp) (es:ca) (p:Pos) (fG:nA cx n es):ST cx n (.bop op es p):=by
 intro env sc ab σ s A P Q E hA O ok hw R k
 exact wpAny_isTrue_BoolOp ((fG.2.2.1 _) hA O ok hw R k)
theorem HE (C:bF cx n) (t:PE) (a:PE) (b:PE) (p:Pos):ST cx n (.ite t a b p):=by
 intro env sc ab σ s A P Q E hA O ok hw R k
 exact False.elim hw
theorem CZ (C:bF cx n) (f:PE) (bo:ca) (p:Pos) (hE:SE cx n (.call f bo p)):ST cx n (.call f bo p):=by
 intro env sc ab σ s A P Q E hA O ok hw R k
 have hw:aZ cx (.call f bo p) (λv=>oJ v P) σ:=hw
 exact wpAny_isTrue_value (hE hA O ok hw R λv ae ag u ai av hw₁ dv au aB=>ef (s:={s with heap:=ai,toks:=av}) hw₁ au dv (k.after aB)) rfl
theorem C0 (C:bF cx n) (o:PE) (m:Mt) (ap:Pos) (bo:ca) (p:Pos):ST cx n (.meth o m ap bo p):=by
 intro env sc ab σ s A P Q E hA O ok hw R k
 exact False.elim hw
theorem HF (C:bF cx n) (o:PE) (i:PE) (p:Pos):ST cx n (.sub o i p):=by
 intro env sc ab σ s A P Q E hA O ok hw R k
 exact False.elim hw
theorem zn (C:bF cx n) (o:PE) (lo:PE) (hi:PE) (st:PE) (sp:Pos) (p:Pos) (hE:SE cx n (.slice o lo hi st sp p)):ST cx n (.slice o lo hi st sp p):=by
 intro env sc ab σ s A P Q E hA O ok hw R k
 have hw:aZ cx (.slice o lo hi st sp p) (λv=>oJ v P) σ:=hw
 exact wpAny_isTrue_value (hE hA O ok hw R λv ae ag u ai av hw₁ dv au aB=>ef (s:={s with heap:=ai,toks:=av}) hw₁ au dv (k.after aB)) rfl
theorem xW (C:bF cx n):ST cx n (.absent):=by
 intro env sc ab σ s A P Q E hA O ok hw R k
 exact False.elim hw
theorem C1 (C:bF cx n) (es:ca) (p:Pos):ST cx n (.list es p):=by
 intro env sc ab σ s A P Q E hA O ok hw R k
 exact False.elim hw
theorem HG (C:bF cx n) (es:ca) (kk:Nat) (p:Pos):ST cx n (.tup es kk p):=by
 intro env sc ab σ s A P Q E hA O ok hw R k
 exact False.elim hw
theorem C2 (C:bF cx n) (bI:PE) (bU:gj) (it:PE) (iz:ca) (fr:List Nat) (fp:Scope) (p:Pos):ST cx n (.comp bI bU it iz fr fp p):=by
 intro env sc ab σ s A P Q E hA O ok hw R k
 exact False.elim hw
theorem xX (C:bF cx n) (bI:PE) (bU:gj) (gx:Nat) (gp:Pos) (x:PE) (cp:Pos) (fr:List Nat) (fp:Scope) (p:Pos):ST cx n (.compEn bI bU gx gp x cp fr fp p):=by
 intro env sc ab σ s A P Q E hA O ok hw R k
 exact False.elim hw
theorem HH (C:bF cx n) (kk:Nat) (e:Expr):ST cx n (.ext kk e):=by
 intro env sc ab σ s A P Q E hA O ok hw R k
 exact False.elim hw
theorem C3:Pz cx n .nil:=by
 intro env sc ab σ s A P Q E pos hA O ok hw R k
 exact spliced_none (k [] σ ab [] s.heap s.toks hw trivial R (.refl _ _ _))
theorem zo (e:PE) (es:ca) (he:ME cx n e) (fG:nA cx n es):Pz cx n (.cons e es):=by
 intro env sc ab σ s A P Q E pos hA O ok hw R k
 have ok:=b3 ok
 refine spliced_more (he.1 hA O ok.1.1 hw R λa ae ag va ai av hw₁ da au aB=>?_) (bj ok.1.2)
 refine fG.1 hA O ok.2 hw₁ au λps aw aM vs bf bE hw₂ iN aK aR=>?_
 exact k _ _ _ _ _ _ hw₂ ⟨da.mono aR.ext,iN⟩ aK (aB.trans aR)
theorem C4 (op:PySem.BoolOp):Qy cx n op .nil:=by
 intro env sc ab σ s A P Q E hA O ok hw R k
 exact wpAny_pure (k.same R (tk:=s.toks) hw)
theorem zp (op:PySem.BoolOp) (e:PE) (es:ca) (he:ME cx n e) (fG:nA cx n es):Qy cx n op (.cons e es):=by
 intro env sc ab σ s A P Q E hA O ok hw R k
 have ok:=b3 ok
 cases op with
 |And=>
  refine wpAny_allTrue_And_cons (he.2 hA O ok.1.1 hw R λt ae ag ai av hw₁ au aB=>?_)
  cases t with
  |true=>exact(fG.2.2.1 _) hA O ok.2 (hw₁.2 rfl) au (k.after aB)
  |false=>exact k _ _ _ _ _ (hw₁.1 rfl) au aB
 |Or=>
  refine wpAny_allTrue_Or_cons (he.2 hA O ok.1.1 hw R λt ae ag ai av hw₁ au aB=>?_)
  cases t with
  |true=>exact k _ _ _ _ _ (hw₁.1 rfl) au aB
  |false=>exact(fG.2.2.1 _) hA O ok.2 (hw₁.2 rfl) au (k.after aB)
theorem C5:SI cx n .nil:=by
 intro env sc ab σ s A P Q E hA O ok hw R k
 exact wpAny_pure (k.same R (tk:=s.toks) hw)
theorem zq (e:PE) (es:ca) (he:ME cx n e) (fG:nA cx n es):SI cx n (.cons e es):=by
 intro env sc ab σ s A P Q E hA O ok hw R k
 have ok:=b3 ok
 show wpAny _ _ (forIn (e.ex::es.ex) true _) _ _ _
 rw[List.forIn_cons]
 simp only[if_true]
 refine wpAny_bind (wpAny_bind (he.2 hA O ok.1.1 hw R λt ae ag ai av hw₁ au aB=>?_))
 refine wpAny_pure ?_
 cases t with
 |true=>exact fG.2.2.2 hA O ok.2 (hw₁.1 rfl) au (k.after aB)
 |false=>
  have q:Q false {s with heap:=ai,toks:=av}:=k false ae ag ai av (hw₁.2 rfl) au aB
  have e:=rZ (env:=env) es.ex
  generalize {s with heap:=ai,toks:=av}=bz at q ⊢
  show wpAny _ _ (forIn es.ex false _) _ _ _
  rw[e]
  exact wpAny_pure (a:=false) q
theorem HI (op:PySem.BoolOp):SB cx n op .nil:=by
 intro env sc ab σ s A P Q E pos hA O ok hw R k
 exact hw.elim
set_option backward.match.sparseCases true in
theorem C6 (op:PySem.BoolOp) (e:PE) (es:ca) (he:ME cx n e) (fG:nA cx n es):SB cx n op (.cons e es):=by
 intro env sc ab σ s A P Q E pos hA O ok hw R k
 cases es with
 |nil=>
  have ok:=b3 ok
  exact he.1 hA O ok.1.1 hw R k
 |cons e' es=>
  have ok:=b3 ok
  have hw:aZ cx e (λv=>oJ v (λt ae=>(ik op t=true->P v ae)/\(ik op t=false->E7 cx op (.cons e' es) P ae))) σ:=hw
  show wpAny _ _ (do
   let v<-eval e.ex env
   standAt pos
   let t<-holding [v] (truthy v)
   match op,t with
   |.And,false|.Or,true=>pure v
   |_,_=>boolOp pos op (evalEach (ca.cons e' es).ex env)) _ _ _
  refine wpAny_bind (he.1 hA O ok.1.1 hw R λa ae ag va ai av hw₁ da au aB=>?_)
  refine wpAny_bind (wpAny_standAt (wpAny_bind (wpAny_holding (ef (s:={s with heap:=ai,toks:=av}) hw₁ au da λt aw aM bf bE hw₂ aK aR=>?_))))
  have bK:ik op t=false->wpAny (model cx.prog cx.w) A (boolOp pos op (evalEach (ca.cons e' es).ex env)) Q E {s with heap:=bf,toks:=bE}:=λq=>
   fG.2.1 _ hA O ok.2 (hw₂.2 q) aK ((k.after aB).after aR)
  have Lx:ik op t=true->Q va {s with heap:=bf,toks:=bE}:=λq=>k _ _ _ _ _ _ (hw₂.1 q) (da.mono aR.ext) aK (aB.trans aR)
  cases op<;>cases t
  .exact wpAny_pure (Lx rfl)
  .exact bK rfl
  .exact bK rfl
  .exact wpAny_pure (Lx rfl)
theorem zr (C:bF cx n) (i:Int) (p:Pos):ME cx n (.int i p):=⟨Hm C i p,Hw C i p⟩
theorem zs (C:bF cx n) (x:Str) (p:Pos):ME cx n (.str x p):=⟨Hn C x p,Hy C x p⟩
theorem vK (C:bF cx n) (p:Pos):ME cx n (.none p):=⟨CQ C p,CW C p⟩
theorem vL (C:bF cx n) (b:Bool) (p:Pos):ME cx n (.bool b p):=⟨CR C b p,CX C b p⟩
theorem zt (C:bF cx n) (x:Nat) (p:Pos):ME cx n (.loc x p):=⟨zj C x p,Hz C x p (zj C x p)⟩
theorem zu (C:bF cx n) (x:Nat) (p:Pos):ME cx n (.cel x p):=⟨zk C x p,HA C x p (zk C x p)⟩
theorem vM (C:bF cx n) (x:Nat) (p:Pos):ME cx n (.glob x p):=⟨CS C x p,CY C x p⟩
theorem zv (C:bF cx n) (op:Operator) (l:PE) (r:PE) (p:Pos) (hl:ME cx n l) (hr:ME cx n r):ME cx n (.bin op l r p):=⟨zl C op l r p hl hr,HB C op l r p (zl C op l r p hl hr)⟩
theorem Fh (C:bF cx n) (op:UnaryOp) (e:PE) (p:Pos) (he:ME cx n e):ME cx n (.un op e p):=⟨Ls C op e p he,Lw C op e p he⟩
theorem zw (C:bF cx n) (op:CmpOp) (l:PE) (r:PE) (p:Pos) (hl:ME cx n l) (hr:ME cx n r):ME cx n (.cmp op l r p):=⟨Ho C op l r p hl hr,HC C op l r p hl hr⟩
theorem zx (C:bF cx n) (op:PySem.BoolOp) (es:ca) (p:Pos) (fG:nA cx n es):ME cx n (.bop op es p):=⟨Hp C op es p fG,HD C op es p fG⟩
theorem zy (C:bF cx n) (t:PE) (a:PE) (b:PE) (p:Pos) (ht:ME cx n t) (ha:ME cx n a) (hb:ME cx n b):ME cx n (.ite t a b p):=⟨Hq C t a b p ht ha hb,HE C t a b p⟩
theorem vN (C:bF cx n) (f:PE) (bo:ca) (p:Pos) (hf:ME cx n f) (im:nA cx n bo):ME cx n (.call f bo p):=⟨vJ C f bo p hf im,CZ C f bo p (vJ C f bo p hf im)⟩
theorem vO (C:bF cx n) (o:PE) (m:Mt) (ap:Pos) (bo:ca) (p:Pos) (ho:ME cx n o) (im:nA cx n bo):ME cx n (.meth o m ap bo p):=⟨CT C o m ap bo p ho im,C0 C o m ap bo p⟩
theorem zz (C:bF cx n) (o:PE) (i:PE) (p:Pos) (ho:ME cx n o) (hi:ME cx n i):ME cx n (.sub o i p):=⟨Hr C o i p ho hi,HF C o i p⟩
theorem r5 (C:bF cx n) (o:PE) (lo:PE) (hi:PE) (st:PE) (sp:Pos) (p:Pos) (ho:ME cx n o) (po:ME cx n lo) (Cm:ME cx n hi) (yR:ME cx n st):ME cx n (.slice o lo hi st sp p):=⟨r4 C o lo hi st sp p ho po Cm yR,zn C o lo hi st sp p (r4 C o lo hi st sp p ho po Cm yR)⟩
theorem pN (C:bF cx n):ME cx n (.absent):=⟨xU C,xW C⟩
theorem vQ (C:bF cx n) (es:ca) (p:Pos) (fG:nA cx n es):ME cx n (.list es p):=⟨CU C es p fG,C1 C es p⟩
theorem zA (C:bF cx n) (es:ca) (kk:Nat) (p:Pos) (fG:nA cx n es):ME cx n (.tup es kk p):=⟨Hu C es kk p fG,HG C es kk p⟩
theorem vT (C:bF cx n) (bI:PE) (bU:gj) (it:PE) (iz:ca) (fr:List Nat) (fp:Scope) (p:Pos) (nB:ME cx n bI) (eQ:ME cx n it) (zm:nA cx n iz):ME cx n (.comp bI bU it iz fr fp p):=⟨CV C bI bU it iz fr fp p nB eQ zm,C2 C bI bU it iz fr fp p⟩
theorem pO (C:bF cx n) (bI:PE) (bU:gj) (gx:Nat) (gp:Pos) (x:PE) (cp:Pos) (fr:List Nat) (fp:Scope) (p:Pos) (nB:ME cx n bI) (hx:ME cx n x):ME cx n (.compEn bI bU gx gp x cp fr fp p):=⟨xV C bI bU gx gp x cp fr fp p nB hx,xX C bI bU gx gp x cp fr fp p⟩
theorem zB (C:bF cx n) (kk:Nat) (e:Expr):ME cx n (.ext kk e):=⟨Hv C kk e,HH C kk e⟩
theorem vU:nA cx n .nil:=⟨C3,HI,C4,C5⟩
theorem r6 (e:PE) (es:ca) (he:ME cx n e) (fG:nA cx n es):nA cx n (.cons e es):=⟨zo e es he fG,λop=>C6 op e es he fG,λop=>zp op e es he fG,zq e es he fG⟩
theorem me (C:bF cx n) (e:PE):ME cx n e:=@PE.rec (ME cx n) (nA cx n) (zr C) (zs C) (vK C) (vL C) (zt C) (zu C) (vM C) (zv C) (Fh C) (zw C) (zx C) (zy C) (vN C) (vO C) (zz C) (r5 C) (pN C) (vQ C) (zA C) (vT C) (pO C) (zB C) vU r6 e
theorem Vr (C:bF cx n) (es:ca):nA cx n es:=@ca.rec (ME cx n) (nA cx n) (zr C) (zs C) (vK C) (vL C) (zt C) (zu C) (vM C) (zv C) (Fh C) (zw C) (zx C) (zy C) (vN C) (vO C) (zz C) (r5 C) (pN C) (vQ C) (zA C) (vT C) (pO C) (zB C) vU r6 es
theorem bb (C:bF cx n) (e:PE):SE cx n e:=(me C e).1
theorem jm (C:bF cx n) (e:PE):ST cx n e:=(me C e).2
theorem uo (C:bF cx n) (es:ca):Pz cx n es:=(Vr C es).1
theorem r7 (C:bF cx n) (es:ca):SI cx n es:=(Vr C es).2.2.2
end
section
variable {cx:Cx} {n:Nat} {env:Env} {sc:Scope} {ab:aT} {σ:St} {s:Shared} {A:Around} {P:ba} {Q:Flow->Shared->Prop} {E:Value->Shared->Prop}
theorem cV.after (k:cV cx env ab s P Q) {ag:aT} {ai:Heap} (S:Step env.locals ab s.heap ag ai) {tk:Nat}:cV cx env ag {s with heap:=ai,toks:=tk} P Q:=
 λf br aj fl h' oD a b c d=>k f br aj fl h' oD a b c (S.trans d)
noncomputable def PE.isComp:PE->Bool
 |.comp .. |.compEn .. =>true
 |_=>false
noncomputable def PE.isTup:PE->Bool
 |.tup .. =>true
 |_=>false
theorem ka {e:PE} {t:Expr} {l:Nat} (h:e.noExt=true) (hc:e.isComp=false):swapsWith e.ex (some t) l env=pure false:=by
 cases e<;>first|(cases h;done)|(cases hc;done)|rfl
theorem nE {e:PE} {l:Nat} (h:e.isCall=true):swapsWith e.ex none l env=pure false:=by
 cases e<;>first|(cases h;done)|rfl
theorem cZ {t:Expr} {iE:Expr} {pos:Pos} (hs:swapsWithSole [t] iE pos.line env=pure false) {names:Option (List Str)} (hw:swappedStores [t] iE env=pure names)
  (h:wpAny (model cx.prog cx.w) A (eval iE env) (λv bz=>wpAny (model cx.prog cx.w) A (assignStores env v names [assign t env]) Q E bz) E s) (ha:(assignEach [t] env).map (·.2)=[assign t env]):
  wpAny (model cx.prog cx.w) A (exec (.Assign [t] iE pos) env) Q E s:=by
 rw[PyProof.Rows.exec_Assign]
 refine wpAny_bind (wpAny_standAt ?_)
 rw[hs]
 refine wpAny_bind (wpAny_pure ?_)
 rw[if_neg (by decide)]
 refine wpAny_bind (wpAny_mono h (λv bz ai=>?_) λø ø x=>x)
 rw[hw]
 refine wpAny_bind (wpAny_pure ?_)
 rw[ha]
 exact ai
theorem iO {t:Expr} {v:Value} (h:wpAny (model cx.prog cx.w) A (assign t env v) (λø=>Q .next) E s):wpAny (model cx.prog cx.w) A (assignStores env v none [assign t env]) Q E s:=by
 show wpAny _ A (do assignAll v [assign t env];pure .next) Q E s
 exact wpAny_bind (wpAny_mono h (λø ø x=>wpAny_pure x) λø ø x=>x)
noncomputable def PT.isTup:PT->Bool
 |.tup .. =>true
 |_=>false
theorem ft {t:PT} {e:PE} (h:mX t e=true) (hn:e.noExt=true) (hd:t.isTup=false\/e.isTup=false):swappedStores [t.ex] e.ex env=pure none:=by
 cases t with
 |tup xs k p=>cases e<;>first|rfl|(cases h;done)|(cases hn;done)|(rcases hd with q|q<;>cases q;done)
 |name x p=>rfl
 |cel x p=>rfl
 |sub o i p=>rfl
set_option backward.match.sparseCases true in
theorem r8 (O:aW env sc) {x y:Nat} {p q tp vp:Pos} {k k':Nat} {a b:PE} (hx:kdOf sc x=1) (hy:kdOf sc y=1) (hn:x≠y) (hl:p.line=q.line) (hc: ¬ (constantsAlone 8 a.ex=true/\constantsAlone 8 b.ex=true))
  (hf: ¬ (foldedForSure 8 a.ex=true/\foldedForSure 8 b.ex=true)) (na:a.noExt=true) (nb:b.noExt=true):
  swappedStores [.Tuple [.Name (nm x) p,.Name (nm y) q] k tp] (.Tuple [a.ex,b.ex] k' vp) env=pure (some [nm x,nm y]):=by
 have ex:=O.k1 x hx
 have ey:=O.k1 y hy
 have iw:nm x≠nm y:=λq=>hn (kO q)
 have bk:env.blockKind=.function:=by unfold Env.blockKind;rw[O.kind];rfl
 have sa:∀ e:PE,e.noExt=true->(match e.ex with|.Starred .. =>true|_=>false)=false:=by
  intro e h
  cases e<;>first|(cases h;done)|rfl
 have WT:=sa a na
 have WU:=sa b nb
 have e1:([nm x,nm y]:List Str).eraseDups.length=2:=by
  have:(nm y==nm x)=false:=beq_eq_false_iff_ne.mpr λe=>iw e.symm
  simp [List.eraseDups_cons,this]
 have Vs:∀ f:Expr->Bool,¬ (f a.ex=true/\f b.ex=true)->[a.ex,b.ex].all f=false:=λf h=>by
  show(f a.ex&&(f b.ex&&true))=false
  cases h1:f a.ex with
  |false=>rfl
  |true=>cases h2:f b.ex with
   |false=>rfl
   |true=>exact absurd ⟨h1,h2⟩ h
 have Kp:=Vs _ hf
 have Cp:=Vs _ hc
 have QC:∀ f:Expr->Bool,f a.ex=false->f b.ex=false->[a.ex,b.ex].any f=false:=λf h1 h2=>by
  show(f a.ex||(f b.ex||false))=false
  rw[h1,h2];rfl
 have WV:∀ (f:Expr->Option Str) {A B:Expr} {u v:Str},f A=some u->f B=some v->[A,B].filterMap f=[u,v]:=λf _ _ _ _ h1 h2=>by
  rw[aad h1,aad h2];rfl
 have HJ:([a.ex,b.ex].any λ|.Starred .. =>true|_=>false)=false:=QC _ WT WU
 have HK:([Expr.Name (nm x) p,Expr.Name (nm y) q].filterMap λ
  |.Name id pos=>if env.kindOf id==some .local&&pos.line==p.line then some id else none
  |_=>none)=[nm x,nm y]:=
  WV _ (show(if(env.kindOf (nm x)==some .local&&p.line==p.line)=true then some (nm x) else none)=some (nm x) from if_pos (by simp [ex]))
   (show(if(env.kindOf (nm y)==some .local&&q.line==p.line)=true then some (nm y) else none)=some (nm y) from if_pos (by simp [ey,hl]))
 unfold swappedStores
 show(if(_||env.blockKind != .function)=true then _ else _)=_
 rw[bk]
 rw[if_neg (by simp)]
 have Kq:∀ ns:List Str,ns=[nm x,nm y]->(if(ns.length !=2||ns.eraseDups.length !=ns.length)=true then(pure none:Sem (Option (List Str))) else if([a.ex,b.ex].all (foldedForSure 8))=true then pure none else if([a.ex,b.ex].all (constantsAlone 8))=true then(do let r<-unsupported "assign.tuple-of-constant-expressions:order-of-the-stores";(λ(_:PUnit)=>pure (some ns)) r) else pure (some ns))=pure (some [nm x,nm y]):=by
  intro ns e
  subst e
  rw[e1,Kp,Cp]
  rfl
 refine(if_neg (λh=>Bool.noConfusion (HJ.symm.trans h))).trans ?_
 exact Kq _ HK
set_option tactic.hygienic true in
theorem zC (C:bF cx n) {e:PE} (he:e.isComp=true) {P:bu} {u:Value->Sem Unit} {Q:Unit->Shared->Prop} (O:aW env sc) (hA:Good cx n A) (ok:e.ok sc=true) (hw:aZ cx e P σ) (R:aH cx env ab σ s.heap)
  (ck:∀ i D Cc m' br aj h' tk,P (.ref i) br->aj[i]? =some D->aH cx env aj br h'->h'.Ns Cc m'->(∀ i:Nat,aj[i]? ≠some Cc)->Cc≠env.locals->cx.h₀.get? Cc=none->s.heap.get? Cc=none->Step env.locals ab s.heap aj h'->
   wpAny (model cx.prog cx.w) A (u (.ref D)) (λø QD=>∃ m,QD.heap.Ns Cc m/\∀ h',Heap.SameBut Cc QD.heap h'->Q () {QD with heap:=h'}) E {s with heap:=h',toks:=tk}):
  wpAny (model cx.prog cx.w) A (evalThenUse e.ex env u) Q E s:=by
 cases e<;>first|(cases he;done)|skip
 .rename_i bI bU it iz fr fp p
  obtain⟨⟨⟨⟨⟨o1,o2⟩,o3⟩,o4⟩,o5⟩,o6⟩:=b6 ok
  show wpAny _ _ (do let _<-comprehension (.ListComp bI.ex [⟨bU.ex,it.ex,iz.ex,0⟩] fp p) fp env it.ex.pos (newList []) false (eval it.ex env) (some u);pure ()) _ _ _
  refine wpAny_bind (wpAny_mono (jl (P:=P) (Q:=λø s'=>Q () s') (Kn:=some u) (wt:=cu cx iz) (we:=aZ cx bI) O hA o3 o5 (zi o2) (λOC=>λa b c=>r7 C iz hA OC o6 a b c) (λOC=>λa b c=>bb C bI hA OC o4 a b c) hw.1 R (λ{Q'} K=>?_)
   λi D Cc m' br aj h' tk hP hi aK hn hC vH xT um aR=>?_) (λø ø q=>wpAny_pure q) λø ø q=>q)
  .exact bb C it hA O o1 hw.2 R λiv ae ag xv ai av hw₁ d au aB=>dw (s:={s with heap:=ai,toks:=av}) hw₁ au d λa9 H I h' hw₂ jy qG hk hI hH ø=>by
    obtain⟨cK,hw₂⟩:=hw₂
    exact K ag ae ai av a9 H I h' cK au aB hw₂ jy (λq=>by rw[qG] at q;cases q) hk hI hH
  .exact ck i D Cc m' br aj h' tk hP hi aK hn hC vH xT um aR
 .rename_i bI bU gx gp x cp fr fp p
  obtain⟨⟨⟨⟨⟨⟨⟨o1,o2⟩,o3⟩,o4⟩,o5⟩,o6⟩,o7⟩,o8⟩:=b8 ok
  show wpAny _ _ (do let _<-comprehension (.ListComp bI.ex [⟨bU.ex,.Call (.Name (nm gx) gp) [x.ex] [] cp,[],0⟩] fp p) fp env cp (newList []) false (eval (.Call (.Name (nm gx) gp) [x.ex] [] cp) env) (some u);pure ()) _ _ _
  refine wpAny_bind (wpAny_mono (jl (P:=P) (Q:=λø s'=>Q () s') (Kn:=some u) (we:=aZ cx bI) O hA o5 o7 (λø=>rfl) (wt:=λQ=>Q true) (λOC=>λa b c=>wpAny_pure (c.same b (tk:=_) a)) (λOC=>λa b c=>bb C bI hA OC o6 a b c) hw.2.1 R (λ{Q'} K=>?_)
   λi D Cc m' br aj h' tk hP hi aK hn hC vH xT um aR=>?_) (λø ø q=>wpAny_pure q) λø ø q=>q)
  .refine rY C O hA o2 (eq_of_beq o3) o4 hw.1 R (λ{Q} kk=>bb C x hA O o1 hw.2.2 R kk) λiv aw ag ai av hw₁ au aB=>?_
   obtain⟨i,rfl,hw₁⟩:=vu hw₁
   obtain⟨xs,hx,cK,hw₂⟩:=fg hw₁
   exact⟨i,xs,rfl,hx,λI H h' hk hI hH=>K ag aw ai av (.enm i 0) H I h' cK au aB hw₂ (λø ø q=>by cases q) (λø=>o8) hk hI hH⟩
  .exact ck i D Cc m' br aj h' tk hP hi aK hn hC vH xT um aR
theorem vq.inv:∀ {xs:List (Nat×Pos)} {es:ca},vq xs es=true->∃ x p y q a b,xs=[(x,p),(y,q)]/\es=.cons a (.cons b .nil)/\x≠y/\p.line=q.line/\ ¬ (constantsAlone 8 a.ex=true/\constantsAlone 8 b.ex=true)/\
  ¬ (foldedForSure 8 a.ex=true/\foldedForSure 8 b.ex=true)/\a.noExt=true/\b.noExt=true:=by
 intro xs es h
 rcases xs with _|⟨⟨x,p⟩,_|⟨⟨y,q⟩,_|⟨_,_⟩⟩⟩
 .cases h
 .cases h
 .rcases es with _|⟨a,_|⟨b,_|⟨_,_⟩⟩⟩
  .cases h
  .cases h
  .obtain⟨⟨⟨⟨⟨h1,h2⟩,h3⟩,h4⟩,h5⟩,h6⟩:=b6 h
   have no:∀ {u v:Bool},(!(u&&v))=true-> ¬ (u=true/\v=true):=λh e=>by rw[e.1,e.2] at h;cases h
   exact⟨x,p,y,q,a,b,rfl,rfl,bne_iff_ne.mp h1,eq_of_beq h2,no h3,no h4,h5,h6⟩
  .cases h
 .cases h
theorem jH.tup {xs:List (Nat×Pos)} {kk:Nat} {tp:Pos} {v:PV} {P:St->Prop} (h:jH cx (.tup xs kk tp) v P σ):(xs.map (·.1)).Nodup/\∃ i vs,v=.ref i/\σ.hp[i]? =some (.tup vs)/\vs.length=xs.length/\P {σ with loc:=dT xs vs σ.loc}:=by
 cases v with
 |ref i=>
  obtain⟨vs,e,q⟩:=yY h.2
  exact⟨h.1,i,vs,rfl,e,q⟩
 |_=>exact h.2.elim
theorem oQ (O:aW env sc) (hA:A.handled=none) {x y:Nat} {p q:Pos} {kk:Nat} {tp:Pos} {v:PV} {u:Value} {P:St->Prop} {ts:List (Value->Sem Unit)} (hx:kdOf sc x=1) (hy:kdOf sc y=1)
  (hw:jH cx (.tup [(x,p),(y,q)] kk tp) v P σ) (R:aH cx env ab σ s.heap) (d:cY ab v u) (k:iH cx env ab s P (λø=>Q .next)):
  wpAny (model cx.prog cx.w) A (assignStores env u (some [nm x,nm y]) ts) Q E s:=by
 obtain⟨hn,i,vs,rfl,La,cb,hw⟩:=hw.tup
 obtain⟨a,ha,rfl⟩:=d
 obtain⟨us,n,dd,hl⟩:=R.tup ha La
 rcases vs with _|⟨v1,_|⟨v2,_|⟨_,_⟩⟩⟩
 .cases cb
 .cases cb
 .obtain⟨u1,u2,rfl,d1,d2⟩:=pu dd
  show wpAny _ _ (do
   rule "assign.swapped-stores"
   let items<-unpackItems (.ref a) 2 none
   assignInOrder [bindName env (nm y),bindName env (nm x)] items.reverse
   pure Flow.next) _ _ _
  refine wpAny_bind (wpAny_rule (wpAny_bind (unpackItems_tuple hA (items:=#[u1,u2]) ⟨_,hl,rfl,n,rfl⟩ λh' he=>?_)))
  have qD:∀ b o,s.heap.get? b=some o->h'.get? b=some o:=λb o e=>he b o (Z7 (aaC e)) e
  obtain⟨R',S'⟩:=R.grow qD
  refine wpAny_bind (PyProof.Rows.assignInOrder_cons (wpAny_bindName (bY (s:={s with heap:=h'}) O hy (v:=v2) (P:=λae=>ae={σ with loc:=σ.loc.set y v2}) rfl R' d2 λae ag ai av QE au aB=>?_)))
  subst QE
  refine PyProof.Rows.assignInOrder_cons (wpAny_bindName (bY (s:={s with heap:=ai,toks:=av}) O hx (v:=v1) (P:=λae=>ae={σ with loc:=(σ.loc.set y v2).set x v1}) rfl au (d1.mono aB.ext) λaw aM bf bE QF aK aR=>?_))
  subst QF
  have hc:∀ z,((σ.loc.set y v2).set x v1).get z=(dT [(x,p),(y,q)] [v1,v2] σ.loc).get z:=λz=>uf (xs:=[(x,p),(y,q)]) (vs:=[v1,v2]) hn rfl z
  exact wpAny_pure (wpAny_pure (k _ aM bf bE hw (aK.congr hc) ((S'.trans aB).trans aR)))
 .cases cb
theorem xY {e:PE} {x l:Nat} {px:Pos} (hc:e.isComp=true):∃ b,swapsWith e.ex (some (.Name (nm x) px)) l env=pure b:=by
 cases e<;>first|(cases hc;done)|exact⟨_,rfl⟩
theorem xZ {e:PE} {x l:Nat} {px:Pos} (h:e.noExt=true) (nF:(env.kindOf (nm x)==some NameKind.local)=false):swapsWith e.ex (some (.Name (nm x) px)) l env=pure false:=by
 cases hc:e.isComp with
 |false=>exact ka h hc
 |true=>
  cases e<;>first|(cases hc;done)|skip
  all_goals
   show(pure ((env.blockKind== .function)&&(env.kindOf (nm x)==some NameKind.local)&&_&&_):Sem Bool)=_
   rw[nF,Bool.and_false]
   rfl
theorem mX.tup {xs:List (Nat×Pos)} {kk:Nat} {tp:Pos} {e:PE} (h:mX (.tup xs kk tp) e=true):e.isComp=false:=by
 cases e<;>first|rfl|(cases h;done)
theorem Ly.inv {e:PE} (h:e.isTup=true):∃ es k p,e=.tup es k p:=by
 cases e<;>first|(cases h;done)|exact⟨_,_,_,rfl⟩
theorem qH (C:bF cx n) (O:aW env sc) (hA:Good cx n A) {t:PT} {e:PE} {p:Pos} (ok:(PS.assign t e p).ok sc=true) (hw:aZ cx e (λv=>jH cx t v (P .next)) σ) (R:aH cx env ab σ s.heap) (k:cV cx env ab s P Q):
  wpAny (model cx.prog cx.w) A (exec (.Assign [t.ex] e.ex p) env) Q E s:=by
 obtain⟨⟨⟨o1,o2⟩,o3⟩,o4⟩:=b4 ok
 have kU:∀ {ag:aT} {bz:Shared},cV cx env ag bz P Q->iH cx env ag bz (P .next) (λø=>Q .next):=λk br aj h' tk a b c=>k .next br aj .next h' tk a rfl b c
 cases t with
 |name x px=>
  have hx:kdOf sc x=1:=eq_of_beq o1
  have plain:∀ (hs:swapsWith e.ex (some (.Name (nm x) px)) p.line env=pure false),wpAny (model cx.prog cx.w) A (exec (.Assign [.Name (nm x) px] e.ex p) env) Q E s:=by
   intro hs
   refine cZ hs (ft (t:=.name x px) o4 o3 (.inl rfl)) (bb C e hA O o2 hw R λv ae ag u ai av hw₁ d au aB=>iO (aae (bY (s:={s with heap:=ai,toks:=av}) O hx hw₁ au d (kU (k.after aB))))) rfl
  by_cases hc:e.isComp=true
  .obtain⟨b,hb⟩:=xY (env:=env) (x:=x) (px:=px) (l:=p.line) hc
   cases b with
   |false=>exact plain hb
   |true=>
    show wpAny _ _ (exec (.Assign [.Name (nm x) px] e.ex p) env) _ _ _
    rw[exec_Assign_Name_used _ _ _ _ hb]
    refine wpAny_bind (wpAny_standAt (wpAny_bind (zC C hc O hA o2 hw R λi D Cc m' br aj h' tk hP hi aK hn hC vH xT um aR=>?_)))
    refine aae (bY (s:={s with heap:=h',toks:=tk}) O hx hP aK ⟨D,hi,rfl⟩ λcn bW cD cf bZ cH cw=>?_)
    have WW:∀ i:Nat,bW[i]? ≠some Cc:=λi e=>by
     rcases cw.fresh i Cc e with q|q
     .exact hC i q
     .obtain⟨o,_,_,ho,_⟩:=hn;rw[show h'.get? Cc=none from q] at ho;cases ho
    refine⟨m',cw.ns hn vH hC,λfq hs=>wpAny_pure ?_⟩
    exact k .next cn bW .next fq cf bZ rfl (cH.but WW vH xT (R.ff.nf λo e=>by rw[um] at e;cases e) hs) ((aR.trans cw).but um hs)
  .exact plain (ka o3 (Bool.eq_false_iff.mpr hc))
 |cel x px=>
  have hx:sc.names.lookup (nm x)=some .cell:=eq_of_beq o1
  have hs:swapsWith e.ex (some (.Name (nm x) px)) p.line env=pure false:=xZ o3 (by rw[O.k4 x hx];rfl)
  refine cZ hs (ft (t:=.cel x px) o4 o3 (.inl rfl)) (bb C e hA O o2 hw R λv ae ag u ai av hw₁ d au aB=>iO (aae (jk (s:={s with heap:=ai,toks:=av}) O hx hw₁ au d (kU (k.after aB))))) rfl
 |tup xs kk tp=>
  have WX:e.isComp=false:=mX.tup o4
  by_cases ht:e.isTup=true
  .obtain⟨es,ek,ep,rfl⟩:=Ly.inv ht
   obtain⟨x,px,y,py,a,b,rfl,rfl,PA,q1,q2,q3,q4,q5⟩:=vq.inv o4
   have o1:(kdOf sc x==1&&(kdOf sc y==1&&true))=true:=o1
   have o1:=b2 o1
   have hx:kdOf sc x=1:=eq_of_beq o1.1
   have hy:kdOf sc y=1:=eq_of_beq (b2 o1.2).1
   refine cZ rfl (r8 O hx hy PA q1 q2 q3 q4 q5) (bb C (.tup (.cons a (.cons b .nil)) ek ep) hA O o2 hw R λv ae ag u ai av hw₁ d au aB=>?_) rfl
   exact oQ (s:={s with heap:=ai,toks:=av}) O hA.hd hx hy hw₁ au d (kU (k.after aB))
  .refine cZ (ka (env:=env) (t:=(PT.tup xs kk tp).ex) (l:=p.line) o3 WX) (ft (t:=.tup xs kk tp) o4 o3 (.inr (Bool.eq_false_iff.mpr ht))) (bb C e hA O o2 hw R λv ae ag u ai av hw₁ d au aB=>iO (gE (s:={s with heap:=ai,toks:=av}) O hA.hd o1 hw₁.2 au d (kU (k.after aB)))) rfl
 |sub o i px=>
  have o1:=b2 o1
  refine wpAny_Assign_Subscript (bb C e hA O o2 hw R λv ae ag u ai av hw₁ d au aB=>?_) (by cases e<;>first|(cases o3;done)|rfl)
  refine bb C o hA O o1.1 hw₁ au λov aw aM WY bf bE hw₂ iN aK aR=>?_
  refine bb C i hA O o1.2 hw₂ aK λiv cn bW WZ cD cf bZ HL cH cw=>?_
  refine t4 (s:={s with heap:=cD,toks:=cf}) bZ cH (iN.mono cw.ext) HL ((d.mono aR.ext).mono cw.ext) λbr h' hP R' S'=>?_
  exact k .next br bW .next h' cf hP rfl R' (((aB.trans aR).trans cw).trans S')
end
section
variable {cx:Cx} {n:Nat} {env:Env} {sc:Scope} {ab:aT} {σ:St} {s:Shared} {A:Around} {P:ba} {Q:Flow->Shared->Prop} {E:Value->Shared->Prop}
theorem dm.done {L:Addr} {H:List Addr} {ab aj:aT} {h h':Heap} (S:dm L H ab h aj h') (hn:∀ b∈H,h.get? b=none):Step L ab h aj h':=
 ⟨S.ext,λi a e=>by
  rcases S.fresh i a e with q|q|q
  .exact .inl q
  .exact .inr q
  .exact .inr (hn a q),λb e=>S.live b (λq=>by rw[hn b q] at e;cases e) e,λb o e hL ho=>S.frame b o e hL (λq=>by rw[hn b q] at e;cases e) ho⟩
inductive WI (cx:Cx) (env:Env) (ab:aT) (s:Shared) (W:Nat->St->Prop):Nat->Shared->Prop
 |mk {k:Nat} {br:St} {aj:aT} {h:Heap} {tk:Nat}:W k br->aH cx env aj br h->Step env.locals ab s.heap aj h->WI cx env ab s W k {s with heap:=h,toks:=tk}
inductive FI (cx:Cx) (env:Env) (ab:aT) (s:Shared) (H:List Addr) (I:Addr) (W:Nat->fE->St->Prop):Nat->Shared->Prop
 |mk {k:Nat} {it:fE} {br:St} {aj:aT} {h:Heap} {tk:Nat}:W k it br->it.isEnm=false->aH cx env aj br h->eT aj h H I it->dU cx env aj H->dm env.locals H ab s.heap aj h->FI cx env ab s H I W k {s with heap:=h,toks:=tk}
theorem uq {iG:Expr} {body gB:List Stmt} {wt:(Bool->St->Prop)->St->Prop} {wb we:ba->St->Prop}
  (Ht:∀ {ab:aT} {σ:St} {s:Shared} {P:Bool->St->Prop} {Q:Bool->Shared->Prop} {E:Value->Shared->Prop},wt P σ->aH cx env ab σ s.heap->fZ cx env ab s P Q->wpAny (model cx.prog cx.w) A (isTrue iG env (eval iG env)) Q E s)
  (Hb:∀ {ab:aT} {σ:St} {s:Shared} {P:ba} {Q:Flow->Shared->Prop} {E:Value->Shared->Prop},wb P σ->aH cx env ab σ s.heap->cV cx env ab s P Q->wpAny (model cx.prog cx.w) A (execs body env) Q E s)
  (He:∀ {ab:aT} {σ:St} {s:Shared} {P:ba} {Q:Flow->Shared->Prop} {E:Value->Shared->Prop},we P σ->aH cx env ab σ s.heap->cV cx env ab s P Q->wpAny (model cx.prog cx.w) A (execs gB env) Q E s)
  {cK:Nat} (hw:iF wt wb we P cK σ) (R:aH cx env ab σ s.heap) (k:cV cx env ab s P Q) {pos:Pos}:
  wpAny (model cx.prog cx.w) A (exec (.While iG body gB pos) env) Q E s:=by
 refine wpAny_While (codeAny_whileLoop (WI cx env ab s (iF wt wb we P)) ?_ cK (.mk hw R (.refl _ _ _)))
 rintro m _ ⟨hw₁,au,aB⟩
 cases m with
 |zero=>exact hw₁.elim
 |succ m=>
  rw[iF] at hw₁
  refine Ht hw₁ au λb aw aM bf bE hw₂ aK aR=>?_
  cases b with
  |true=>
   rw[if_pos rfl]
   refine Hb (s:={s with heap:=bf,toks:=bE}) (hw₂.1 rfl) aK λf cn bW fl cD cf bZ df cH cw=>?_
   cases f with
   |next=>
    cases df
    exact⟨m,Z0 _,.mk bZ cH ((aB.trans aR).trans cw)⟩
   |brk=>
    cases df
    exact k .next cn bW .next cD cf bZ rfl cH ((aB.trans aR).trans cw)
   |ret v=>
    obtain⟨u,rfl,du⟩:=df
    exact k (.ret v) cn bW (.ret u) cD cf bZ ⟨u,rfl,du⟩ cH ((aB.trans aR).trans cw)
  |false=>
   rw[if_neg (by decide)]
   exact He (s:={s with heap:=bf,toks:=bE}) (hw₂.2 rfl) aK λf cn bW fl cD cf bZ df cH cw=>k f cn bW fl cD cf bZ df cH ((aB.trans aR).trans cw)
set_option tactic.hygienic true in
theorem r9 (O:aW env sc) (hA:Good cx n A) {bU:gj} (ug:bU.ok sc=true) {body gB:List Stmt} {wb we:ba->St->Prop}
  (Hb:∀ {ab:aT} {σ:St} {s:Shared} {P:ba} {Q:Flow->Shared->Prop} {E:Value->Shared->Prop},wb P σ->aH cx env ab σ s.heap->cV cx env ab s P Q->wpAny (model cx.prog cx.w) A (execs body env) Q E s)
  (He:∀ {ab:aT} {σ:St} {s:Shared} {P:ba} {Q:Flow->Shared->Prop} {E:Value->Shared->Prop},we P σ->aH cx env ab σ s.heap->cV cx env ab s P Q->wpAny (model cx.prog cx.w) A (execs gB env) Q E s)
  {a9:fE} (iw:a9.isEnm=false) {cK:Nat} (hw:kW (aN bU) wb we P cK a9 σ) {H:List Addr} {I:Addr} {h₀:Heap} {Lz:Nat} (rW:aH cx env ab σ s.heap) (hI:eT ab h₀ H I a9)
  (hk:∀ b o,s.heap.get? b=some o->h₀.get? b=some o) (hH:∀ b∈H,s.heap.get? b=none) (k:cV cx env ab s P Q):
  codeAny (model cx.prog cx.w) A (.forLoop bU.ex (.ref I) body gB env) (λr s'=>match r with|.ok f=>Q f s'|.error e=>cameBackBy (model cx.prog cx.w) A env E e s') {s with heap:=h₀,toks:=Lz}:=by
 have LB:dU cx env ab H:=λb hb=>vE rW (hH b hb)
 refine y9 (FI cx env ab s H I (kW (aN bU) wb we P)) ?_ cK
  (.mk hw iw (rW.hid LB λb o ø e=>hk b o e) hI LB ((dm.refl _ _ _ _).hid (.refl _) (λø ø e=>.inl e) λb o ø e=>hk b o e))
 rintro m _ ⟨hw₁,zD,au,Hf,CM,aB⟩
 rename_i it ae ag ai av
 cases m with
 |zero=>exact hw₁.elim
 |succ m=>
  rw[kW] at hw₁
  cases hn:bw it ae.hp with
  |none=>rw[hn] at hw₁;exact hw₁.elim
  |some r=>
   rw[hn] at hw₁
   refine j8 (t:=bU) (S:=λu gk=>wpAny (model cx.prog cx.w) A (assign bU.ex env u) _ _ gk) (s:={s with heap:=ai,toks:=av}) hA.hd (λq=>by rw[zD] at q;cases q) au Hf CM hn
    (λe h' oD qD=>?_) (λv gV aE e u aM bf bE hE hf du aK HM HN hk=>?_)
   .subst e
    have aR:=(aB.hid (.refl _) (λø ø e=>.inl e) qD)
    exact He (s:={s with heap:=h',toks:=oD}) hw₁ (au.hid CM qD) λf cn bW fl cD cf bZ df cH cw=>k f cn bW fl cD cf bZ df cH ((aR.step cw).done hH)
   .subst e
    have aR:=aB.hid hE hf hk
    refine lU (s:={s with heap:=bf,toks:=bE}) O hA.hd ug hw₁ aK du λcn bW cD cf bZ cH cw=>?_
    have HP:=HN.step HM.live cw
    have HQ:eT bW cD H I gV:=HM.keep cw.ext λb hb o e=>cw.exact e (HN b hb).2.1 (HN b hb).1 (HM.notD b hb o e)
    refine Hb (s:={s with heap:=cD,toks:=cf}) bZ cH λf pK g8 fl fq jD fF df fT e8=>?_
    have S':=(aR.step cw).step e8
    cases f with
    |next=>
     cases df
     exact⟨m,Z0 _,.mk fF ((nk hn).trans zD) fT (HQ.keep e8.ext λb hb o e=>e8.exact e (HP b hb).2.1 (HP b hb).1 (HQ.notD b hb o e)) (HP.step HQ.live e8) S'⟩
    |brk=>
     cases df
     exact k .next pK g8 .next fq jD fF rfl fT (S'.done hH)
    |ret v=>
     obtain⟨u,rfl,du⟩:=df
     exact k (.ret v) pK g8 (.ret u) fq jD fF ⟨u,rfl,du⟩ fT (S'.done hH)
end
noncomputable def SS (cx:Cx) (n:Nat) (t:PS):Prop:=∀ {env:Env} {sc:Scope} {ab:aT} {σ:St} {s:Shared} {A:Around} {P:ba} {Q:Flow->Shared->Prop} {E:Value->Shared->Prop},
  Good cx n A->aW env sc->vD cx env->t.ok sc=true->wpS cx t P σ->aH cx env ab σ s.heap->cV cx env ab s P Q->wpAny (model cx.prog cx.w) A (exec t.st env) Q E s
noncomputable def vV (cx:Cx) (n:Nat) (ts:ao):Prop:=∀ {env:Env} {sc:Scope} {ab:aT} {σ:St} {s:Shared} {A:Around} {P:ba} {Q:Flow->Shared->Prop} {E:Value->Shared->Prop},
  Good cx n A->aW env sc->vD cx env->ts.ok sc=true->aF cx ts P σ->aH cx env ab σ s.heap->cV cx env ab s P Q->wpAny (model cx.prog cx.w) A (execs ts.sts env) Q E s
section
variable {cx:Cx} {n:Nat}
theorem pP (C:bF cx n) (t:PT) (e:PE) (p:Pos):SS cx n (.assign t e p):=by
 intro env sc ab σ s A P Q E hA O V ok hw R k
 exact qH C O hA ok hw R k
set_option tactic.hygienic true in
theorem nG (C:bF cx n) (t:PT) (u:PT) (e:PE) (p:Pos):SS cx n (.assign2 t u e p):=by
 intro env sc ab σ s A P Q E hA O V ok hw R k
 have ok:=b5 ok
 obtain⟨⟨⟨⟨o1,o2⟩,o3⟩,o4⟩,o5⟩:=ok
 cases t<;>first|(cases o4;done)|skip
 rename_i x px
 cases u<;>first|(cases o5;done)|skip
 rename_i y py
 have hx:kdOf sc x=1:=eq_of_beq o1
 have hy:kdOf sc y=1:=eq_of_beq o2
 refine wpAny_Assign_two (t₁:=.Name (nm x) px) (t₂:=.Name (nm y) py) (bb C e hA O o3 hw R λv ae ag u ai av hw₁ d au aB=>?_) rfl rfl
 refine aae (bY (s:={s with heap:=ai,toks:=av}) (P:=jH cx (.name y py) v (P .next)) O hx hw₁ au d λaw aM bf bE hw₂ aK aR=>?_)
 exact aae (bY (s:={s with heap:=bf,toks:=bE}) (P:=P .next) O hy hw₂ aK (d.mono aR.ext) λcn bW cD cf bZ cH cw=>k .next _ _ _ _ _ bZ rfl cH ((aB.trans aR).trans cw))
set_option tactic.hygienic true in
theorem zE (C:bF cx n) (x:Nat) (np:Pos) (op:Operator) (e:PE) (p:Pos):SS cx n (.aug x np op e p):=by
 intro env sc ab σ s A P Q E hA O V ok hw R k
 have ok:=b2 ok
 obtain⟨a,hx,hw⟩:=K3 hw
 obtain⟨m,hn,hm⟩:=R.loc
 obtain⟨u,h1,h2⟩:=hm x _ hx
 obtain⟨t,rfl⟩:=h2
 refine wpAny_AugAssign_Name (wpAny_loadName_local O.kind (O.k1 x (eq_of_beq ok.1)) hn h1 ?_)
 refine bb C e hA O ok.2 hw R λv ae ag u ai av hw₁ d au aB=>?_
 obtain⟨b,rfl,hw₁⟩:=K0 hw₁
 obtain⟨t',rfl⟩:=d
 refine rQ (s:={s with heap:=ai,toks:=av}) hw₁ au λr aw aM u bf bE hw₂ iN aK aR=>?_
 exact bY (s:={s with heap:=bf,toks:=bE}) O (eq_of_beq ok.1) hw₂ aK iN λcn bW cD cf bZ cH cw=>k .next _ _ _ _ _ bZ rfl cH ((aB.trans aR).trans cw)
theorem vW (C:bF cx n) (e:PE) (p:Pos):SS cx n (.expr e p):=by
 intro env sc ab σ s A P Q E hA O V ok hw R k
 have ok:=b2 ok
 exact wpAny_Expr_any (bb C e hA O ok.1 hw R λv ae ag u ai av hw₁ d au aB=>k .next _ _ _ _ _ hw₁ rfl au aB) (by unfold interactive;rw[O.kind];rfl) (nE ok.2)
theorem zF (C:bF cx n) (t:PE) (b:ao) (e:ao) (p:Pos) (hb:vV cx n b) (he:vV cx n e):SS cx n (.ite t b e p):=by
 intro env sc ab σ s A P Q E hA O V ok hw R k
 have ok:=b3 ok
 refine wpAny_If (jm C t hA O ok.1.1 hw R λc ae ag ai av hw₁ au aB=>?_)
 cases c with
 |true=>rw[if_pos rfl];exact hb (s:={s with heap:=ai,toks:=av}) hA O V ok.1.2 (hw₁.1 rfl) au (k.after aB)
 |false=>rw[if_neg (by decide)];exact he (s:={s with heap:=ai,toks:=av}) hA O V ok.2 (hw₁.2 rfl) au (k.after aB)
theorem zG (C:bF cx n) (t:PE) (b:ao) (e:ao) (p:Pos) (hb:vV cx n b) (he:vV cx n e):SS cx n (.whl t b e p):=by
 intro env sc ab σ s A P Q E hA O V ok hw R k
 have ok:=b3 ok
 obtain⟨cK,hw⟩:=hw
 exact uq (λa b c=>jm C t hA O ok.1.1 a b c) (λx y c=>hb hA O V ok.1.2 x y c) (λx y c=>he hA O V ok.2 x y c) hw R k
theorem Fi (C:bF cx n) (t:gj) (it:PE) (b:ao) (e:ao) (p:Pos) (hb:vV cx n b) (he:vV cx n e):SS cx n (.fo t it b e p):=by
 intro env sc ab σ s A P Q E hA O V ok hw R k
 have ok:=b5 ok
 obtain⟨⟨⟨⟨o1,o2⟩,o3⟩,o4⟩,o5⟩:=ok
 refine wpAny_For (bb C it hA O o2 hw R λiv ae ag u ai av hw₁ d au aB=>?_) (zi o3)
 refine dw (s:={s with heap:=ai,toks:=av}) hw₁ au d λa9 H I h' hw₂ jy qG hk hI hH ø=>?_
 obtain⟨cK,hw₂⟩:=hw₂
 exact r9 (s:={s with heap:=ai,toks:=av}) O hA o1 (λx y c=>hb hA O V o4 x y c) (λx y c=>he hA O V o5 x y c) qG hw₂ au hI hk hH (k.after aB)
set_option tactic.hygienic true in
theorem sd (C:bF cx n) (t:gj) (x:Nat) (xp:Pos) (it:PE) (ip:Pos) (b:ao) (e:ao) (p:Pos) (hb:vV cx n b) (he:vV cx n e):SS cx n (.foRev t x xp it ip b e p):=by
 intro env sc ab σ s A P Q E hA O V ok hw R k
 have ok:=b7 ok
 obtain⟨⟨⟨⟨⟨⟨o1,o2⟩,o3⟩,o4⟩,o5⟩,o6⟩,o7⟩:=ok
 obtain⟨m,mb,h1,h2,_,h3⟩:=C.en
 obtain⟨QG,hw⟩:=hw
 obtain⟨g1,g2⟩:=h3 x QG
 refine wpAny_For (iter:=.Call (.Name (nm x) xp) [it.ex] [] ip) (wpAny_Call_NameR (wpAny_Name ?_ (dG o3))) (λø=>rfl)
 rw[dq O (eq_of_beq o2)]
 refine loadGlobal_builtin (by rw[O.glob];exact h1.keeps R.keep) g1 (by rw[O.bi];exact h2.keeps R.keep) g2 ?_
 refine bQ (es:=.cons it .nil) (Pm:=λø=>True) (λh ø=>.inl (cE λa e=>by cases e)) (λe r q=>bj (by have z:it=e:=congrArg ca.hd q;rw[<-z];exact o5)) ?_ (λq=>absurd (congrArg ca.isNil q) aaF) (λø=>?_)
 .show(backTo ip (starEach (it.ex::ca.nil.ex) env)).any (·.1)=false
  rw[bj o5];rfl
 .refine spliced_more (bb C it hA O o4 hw R λiv ae ag xv ai av hw₁ d au aB=>spliced_none ⟨trivial,?_⟩) (bj o5)
  obtain⟨i,rfl,hw₁⟩:=vu hw₁
  obtain⟨a,ha,rfl⟩:=d
  obtain⟨xs,hx,hw₁⟩:=fg hw₁
  obtain⟨vs,nn,dd,hl⟩:=au.list (s:={s with heap:=ai,toks:=av}) ha hx
  obtain⟨_,cK,hw₂⟩:=hw₁
  refine call_reversed_list (s:={s with heap:=ai,toks:=av}) (aI hl) ?_
  refine wpAny_pyIter_revIter ⟨_,aai _ rfl,rfl,rfl⟩ ?_
  refine r9 (s:={s with heap:=ai,toks:=av}) O hA o1 (λx y c=>hb hA O V o6 x y c) (λx y c=>he hA O V o7 x y c) rfl hw₂ au (H:=[ai.objs.size]) ⟨rfl,a,ha,_,aai _ rfl,rfl,?_⟩ (λø ø e=>ZX _ e) (λb hb=>?_) (k.after aB)
  .rw[dd.length];rfl
  .rw[ZG.mp hb];exact aO (ZA _)
theorem zH (C:bF cx n) (e:PE) (p:Pos):SS cx n (.ret e p):=by
 intro env sc ab σ s A P Q E hA O V ok hw R k
 exact wpAny_Return_some (bb C e hA O ok hw R λv ae ag u ai av hw₁ d au aB=>k (.ret v) _ _ _ _ _ hw₁ ⟨u,rfl,d⟩ au aB)
theorem vX (C:bF cx n) (p:Pos):SS cx n (.ret0 p):=by
 intro env sc ab σ s A P Q E hA O V ok hw R k
 exact wpAny_Return_none (k (.ret .none) σ ab _ s.heap s.toks hw ⟨_,rfl,rfl⟩ R (.refl _ _ _))
theorem zI (C:bF cx n) (p:Pos):SS cx n (.brk p):=by
 intro env sc ab σ s A P Q E hA O V ok hw R k
 exact wpAny_Break (k .brk σ ab _ s.heap s.toks hw rfl R (.refl _ _ _))
theorem zJ (C:bF cx n) (k':Nat) (t:Stmt) (xs:List (Nat×NameKind)):SS cx n (.ext k' t xs):=by
 intro env sc ab σ s A P Q E hA O V ok hw R k
 exact C.sx k' t xs hw.1 ok hA O V hw.2 R k
theorem zK (C:bF cx n):vV cx n .nil:=by
 intro env sc ab σ s A P Q E hA O V ok hw R k
 exact wpAny_execs_nil (k .next σ ab _ s.heap s.toks hw rfl R (.refl _ _ _))
theorem vY (C:bF cx n) (t:PS) (ts:ao) (ht:SS cx n t) (zL:vV cx n ts):vV cx n (.cons t ts):=by
 intro env sc ab σ s A P Q E hA O V ok hw R k
 have ok:=b2 ok
 refine wpAny_execs_cons (ht hA O V ok.1 hw R λf ae ag fl ai av hw₁ df au aB=>?_)
 cases f with
 |next=>
  cases df
  exact zL (s:={s with heap:=ai,toks:=av}) hA O V ok.2 hw₁ au (k.after aB)
 |brk=>
  cases df
  exact k .brk _ _ _ _ _ hw₁ rfl au aB
 |ret v=>
  obtain⟨u,rfl,d⟩:=df
  exact k (.ret v) _ _ _ _ _ hw₁ ⟨u,rfl,d⟩ au aB
theorem x5 (C:bF cx n) (t:PS):SS cx n t:=@PS.rec (SS cx n) (vV cx n) (pP C) (nG C) (zE C) (vW C) (zF C) (zG C) (Fi C) (sd C) (zH C) (vX C) (zI C) (zJ C) (zK C) (vY C) t
theorem fH (C:bF cx n) (ts:ao):vV cx n ts:=@ao.rec (SS cx n) (vV cx n) (pP C) (nG C) (zE C) (vW C) (zF C) (zG C) (Fi C) (sd C) (zH C) (vX C) (zI C) (zJ C) (zK C) (vY C) ts
end
set_option tactic.hygienic true in
theorem nH {cx:Cx} {l:List Env} {ab:aT} {ob:Obj} {o:PO}:cN (cx.at l) ab ob o↔cN cx ab ob o:=by
 cases o<;>first|exact Iff.rfl|(rename_i v;cases v<;>exact Iff.rfl)|(rename_i p v;cases v<;>exact Iff.rfl)
theorem qI {cx:Cx} {l:List Env} {env:Env} {ab:aT} {σ:St} {h:Heap} (ff:FF cx.h₀ h l) (R:aH cx env ab σ h):aH (cx.at l) env ab σ h:=
 ⟨R.keep,R.off,R.offL,R.inj,R.notL,R.len,λi o e=>(R.obj i o e).imp λø=>.imp λø=>aaa (aaa nH.mpr),R.loc,R.cel,ff,R.tb⟩
theorem kb (cx:Cx) (l:List Env) (ts:ao):aF (cx.at l) ts=aF cx ts:=by kernel_rfl
noncomputable def e9 (sc:Scope):List Nat->List PV->Loc->Loc
 |x::xs,p::ps,l=>e9 sc xs ps (if sc.names.lookup (nm x)=some .local then l.set x p else l)
 |_,_,l=>l
noncomputable def jM (sc:Scope):List Nat->List PV->(Nat->Option PV)->Nat->Option PV
 |x::xs,p::ps,c=>jM sc xs ps (if sc.names.lookup (nm x)=some .local then c else λy=>if y=x then some p else c y)
 |_,_,c=>c
noncomputable def ur:Nat->List Nat->List (Nat×Nat)
 |_,[]=>[]
 |k,x::xs=>(x,k)::ur (k+1) xs
theorem pQ {xs:List Nat}:∀ {k x i:Nat},look (ur k xs) x=some i->∃ j,xs[j]? =some x/\i=k+j:=by
 induction xs with
 |nil=>exact nofun
 |cons y xs ih=>
  intro k x i h
  have h:(if x=y then some k else look (ur (k+1) xs) x)=some i:=h
  by_cases e:x=y
  .rw[if_pos e] at h;cases h;exact⟨0,by rw[e];rfl,rfl⟩
  .rw[if_neg e] at h
   obtain⟨j,h1,h2⟩:=ih h
   exact⟨j+1,h1,by rw[h2,aaA,aao 1]⟩
noncomputable def cW (K:PV->List PO->Prop):ba:=λf σ=>match f with
 |.next=>K .none σ.hp
 |.ret v=>K v σ.hp
 |.brk=>False
noncomputable def bc (cx:Cx) (sc:Scope) (params cl:List Nat) (ce:List (Nat×Nat)) (body:ao):Spec:=λps hp K=>
 ps.length=params.length/\aF cx body (cW K) {loc:=e9 sc params ps [],ce:=ce++ur hp.length cl,hp:=hp++cl.map λx=>.cell (jM sc params ps (λø=>none) x)}
section
variable {cx:Cx} {n:Nat} {env:Env} {sc:Scope} {ab:aT} {σ:St} {s:Shared} {A:Around} {P:bu} {Q:Value->Shared->Prop} {E:Value->Shared->Prop}
theorem jn {sc:Scope} {kindOf:Str->Option NameKind} (hk:∀ x,kindOf x=sc.names.lookup x) {ab:aT} {xs:List Nat}:∀ {ps:List PV} {vs:List Value} {l:Loc} {m:Str->Option Value},aU ab ps vs->
  (∀ x p,l.get x=some p->∃ v,m (nm x)=some v/\cY ab p v)->∀ x p,(e9 sc xs ps l).get x=some p->∃ v,bindL kindOf ((xs.map nm).zip vs) m (nm x)=some v/\cY ab p v:=by
 induction xs with
 |nil=>exact λø h=>h
 |cons y xs ih=>
  intro ps vs l m d h
  cases ps with
  |nil=>cases vs with
   |nil=>exact h
   |cons=>exact d.elim
  |cons q ps=>cases vs with
   |nil=>exact d.elim
   |cons u vs=>
    refine ih d.2 λx p e=>?_
    by_cases c:sc.names.lookup (nm y)=some .local
    .rw[if_pos c,Loc.get_set] at e
     rw[if_pos ((hk _).trans c)]
     by_cases C7:x=y
     .rw[if_pos C7] at e;cases e
      exact⟨u,by rw[if_pos (by rw[C7])],d.1⟩
     .rw[if_neg C7] at e
      rw[if_neg λq=>C7 (kO q)]
      exact h x p e
    .rw[if_neg c] at e
     rw[if_neg (λq=>c ((hk _).symm.trans q))]
     exact h x p e
noncomputable def qJ (ab:aT) (c:Nat->Option PV) (cm:Str->Option Value):Prop:=∀ x,match c x with
 |none=>cm (nm x)=none
 |some p=>∃ v,cm (nm x)=some v/\cY ab p v
theorem pR {sc:Scope} {kindOf:Str->Option NameKind} (hk:∀ x,kindOf x=sc.names.lookup x) {ab:aT} {xs:List Nat}:∀ {ps:List PV} {vs:List Value} {c:Nat->Option PV} {cm:Str->Option Value},aU ab ps vs->
  qJ ab c cm->qJ ab (jM sc xs ps c) (bindC kindOf ((xs.map nm).zip vs) cm):=by
 induction xs with
 |nil=>exact λø h=>h
 |cons y xs ih=>
  intro ps vs l m d h
  cases ps with
  |nil=>cases vs with
   |nil=>exact h
   |cons=>exact d.elim
  |cons q ps=>cases vs with
   |nil=>exact d.elim
   |cons u vs=>
    refine ih d.2 λx=>?_
    by_cases c:sc.names.lookup (nm y)=some .local
    .rw[if_pos c,if_pos ((hk _).trans c)]
     exact h x
    .rw[if_neg c,if_neg (λq=>c ((hk _).symm.trans q))]
     by_cases C7:x=y
     .rw[if_pos C7]
      exact⟨u,by rw[if_pos (by rw[C7])],d.1⟩
     .rw[if_neg C7,if_neg λq=>C7 (kO q)]
      exact h x
theorem HR {ak:Env} {aj:aT} {br:St} {h ai h':Heap} (R:aH cx env ab σ h) (hk:∀ b o,h.get? b=some o->ai.get? b=some o) {ag:aT} (ut:mx ab ag) (zM:∀ (i:Nat) (a:Addr),ag[i]? =some a->ab[i]? =some a\/h.get? a=none)
  (hL:h.get? ak.locals=none) (S:Step ak.locals ag ai aj h') (R':aH (cx.at (ak::cx.fr)) ak aj br h'):
  aH cx env aj {σ with hp:=br.hp} h'/\Step env.locals ab h aj h':=by
 have live:∀ b,(h.get? b).isSome=true->(ai.get? b).isSome=true:=λb e=>by
  obtain⟨o,q⟩:=ZJ.mp e
  rw[hk b o q];rfl
 obtain⟨m,hn,hm⟩:=R.loc
 have W0:∃ o,h.get? env.locals=some o:=by obtain⟨o,_,_,ho,_⟩:=hn;exact⟨o,ho⟩
 obtain⟨oL,Hj⟩:=W0
 have QH:∀ i:Nat,ag[i]? ≠some env.locals:=λi e=>by
  rcases zM i _ e with q|q
  .exact R.notL i _ q rfl
  .rw[Hj] at q;cases q
 have nL:env.locals≠ak.locals:=λq=>by rw[q,hL] at Hj;cases Hj
 have fr:∀ b o,h.get? b=some o->(∀ i:Nat,ab[i]? ≠some b)->∃ sl,h'.get? b=some {o with slots:=sl}/\(eP o=false->sl=o.slots):=λb o e hb=>by
  refine S.frame b o (hk b o e) (λq=>by rw[q,hL] at e;cases e) λi q=>?_
  rcases zM i b q with q|q
  .exact hb i q
  .rw[e] at q;cases q
 have fresh:∀ (i:Nat) (a:Addr),aj[i]? =some a->ab[i]? =some a\/h.get? a=none:=λi a e=>by
  rcases S.fresh i a e with q|q
  .exact zM i a q
  .refine .inr ?_
   cases z:h.get? a with
   |none=>rfl
   |some o=>rw[hk a o z] at q;cases q
 refine⟨⟨R'.keep,R'.off,R.offL,R'.inj,λi a e q=>?_,R'.len,λi o e=>(R'.obj i o e).imp λø=>.imp λø=>aaa (aaa nH.mp),⟨m,by
   obtain⟨o,es,ep,e1,e2,e3⟩:=hn
   obtain⟨sl,e4,_⟩:=fr _ o e1 λi q=>R.notL i _ q rfl
   exact⟨_,es,ep,e4,e2,e3⟩,λx p e=>(hm x p e).imp λø=>aaa (.mono (ut.trans S.ext))⟩,λx i e=>(R.cel x i e).imp λø=>And.imp_left (ut.trans S.ext _ _),R'.ff.2,R'.tb⟩,
  ⟨ut.trans S.ext,fresh,λb e=>S.live b (live b e),λb o e ø hb=>fr b o e hb⟩⟩
 rcases fresh i a e with z|z
 .exact R.notL i a z q
 .rw[q,Hj] at z;cases z
structure zN (fd:FuncData) (LC:Scope) (params:List Nat) (b:ao):Prop where
 body:fd.body=.stmts b.sts
 sc:fd.scope=LC
 gl:fd.globals=mainGlobals
 bi:fd.builtins=builtinsNs
 bind:∀ c8,c8.length=params.length->bindArgs fd ⟨c8,[]⟩=pure ((params.map nm).zip c8)
 co:LC.isCoroutine=false
 gen:LC.isGenerator=false
 kind:LC.kind=.function
 ok:b.ok LC=true
theorem uu {α:Type} {y:Str} {l r:List (Str×α)}:(l++r).lookup y=(l.lookup y).or (r.lookup y):=by
 induction l with
 |nil=>exact(Option.none_or ..).symm
 |cons x l ih=>
  rw[aap,aax,aax]
  cases y==x.1 with
  |true=>rfl
  |false=>exact ih
theorem pS {kindOf:Str->Option NameKind} {binds:List (Str×Value)}:∀ {m:Str->Option Value},(∀ x∈binds,kindOf x.1=some .local)->∀ y,bindL kindOf binds m y=(binds.reverse.lookup y).or (m y):=by
 induction binds with
 |nil=>exact λø y=>(Option.none_or ..).symm
 |cons x r ih=>
  intro m h y
  refine(ih (λx hx=>h x (.tail _ hx)) y).trans ?_
  rw[List.reverse_cons,uu,if_pos (h x (.head _)),Option.or_assoc]
  congr 1
  rw[aax]
  by_cases e:y=x.1
  .rw[if_pos e,e,beq_self_eq_true];rfl
  .rw[if_neg e,beq_false_of_ne e];exact(Option.none_or ..).symm
theorem W1 {sc:Scope} {x:Nat} (h:kdOf sc x=1):sc.names.lookup (nm x)=some .local:=by
 unfold kdOf at h
 revert h
 generalize sc.names.lookup (nm x)=o
 intro h
 rcases o with _|o
 .exact absurd h (by decide)
 cases o<;>first|exact absurd h (by decide)|rfl
theorem W2 {sc:Scope} {x:Nat} (h:kdOf sc x=2):sc.names.lookup (nm x)=some .cell\/sc.names.lookup (nm x)=some .free:=by
 unfold kdOf at h
 revert h
 generalize sc.names.lookup (nm x)=o
 intro h
 rcases o with _|o
 .exact absurd h (by decide)
 cases o<;>first|exact absurd h (by decide)|exact .inl rfl|exact .inr rfl
theorem W3 {sc:Scope} {x:Nat} (h:kdOf sc x=3):sc.names.lookup (nm x)=some .globalImplicit:=by
 unfold kdOf at h
 revert h
 generalize sc.names.lookup (nm x)=o
 intro h
 rcases o with _|o
 .exact absurd h (by decide)
 cases o<;>first|exact absurd h (by decide)|rfl
theorem ew {sc:Scope} (hk:sc.kind=.function) {L:Addr} {dy:List (Str×Addr)} {qK:Str} {f:Option Addr} {code:Value}:aW (newEnv sc L mainGlobals dy qK f code none builtinsNs) sc:=by
 have kf:∀ x,(newEnv sc L mainGlobals dy qK f code none builtinsNs).kindOf x=sc.names.lookup x:=λø=>rfl
 refine⟨hk,rfl,rfl,λx h=>?_,λx h=>?_,λx h=>?_,λx h=>?_⟩
 .exact W1 h
 .exact W2 h
 .exact W3 h
 .rw[kf];exact h
theorem eU (hA:Good cx (n+1) A) (e:Env):Good (cx.at (e::cx.fr)) n (A.deeper e):=
 ⟨hA.hd,Around.frames_deeper hA.fr,by have:=hA.depth;show A.depth+1+n<_;exact la [_,_,_] [] [.t (.a .v0 (.a .v1 .n1)) .v2] (.t (.a (.a .v0 .n1) .v1) .v2) (.f [1,1]) rfl this,by have:=hA.units;show A.units+3+_+_<_;exact la [_,_,_] [] [.t (.a (.a .v0 (.m 16 (.a .v1 .n1))) (.n 100)) .v2] (.t (.a (.a (.a .v0 (.n 3)) (.m 16 .v1)) (.n 100)) .v2) (.f [1,1]) rfl this⟩
theorem iP {a:Addr} {o:Obj} {fd:FuncData} (C:∀ L,bF (cx.at (newEnv sc L mainGlobals fd.closure (fd.qualname++".<locals>.") (some a) fd.code none builtinsNs::cx.fr)) n) (hA:Good cx (n+1) A) {params:List Nat} {body:ao} {ce:List (Nat×Nat)} (F:zN fd sc params body) (ho:s.heap.get? a=some o) (hd:o.data=.func fd) (iQ:cx.h₀.NoLimit)
  (HS:s.heap.CodeRec fd.code fd.qualname) (nJ:∀ x∈sc.names,x.2≠ .cell) (nF:∀ x∈params,sc.names.lookup (nm x)=some .local)
  (kc:∀ x i,look ce x=some i->∃ a,ab[i]? =some a/\fd.closure.lookup (nm x)=some a)
  {ps:List PV} {vs:List Value} (R:aH cx env ab σ s.heap) (d:aU ab ps vs) (hw:bc cx sc params [] ce body ps σ.hp (λr aE=>P r {σ with hp:=aE})) (k:bB cx env ab s P Q):
  wpAny (model cx.prog cx.w) A (call (.ref a) vs) Q E s:=by
 obtain⟨cb,hw⟩:=hw
 have HT:vs.length=params.length:=by rw[<-d.length,cb]
 have LD:=R.keep
 refine wpAny_call (codeAny_call_def (fd:=fd) (body:=body.sts) (binds:=(params.map nm).zip vs) (by have:=hA.depth;exact la [_,_,_] [] [.t (.a .v0 (.a .v1 .n1)) .v2] (.t .v0 .v2) (.f [1,1]) rfl this) ho hd (iQ.keeps LD) HS F.body (BindsTo.of_eq (F.bind vs HT)) (by rw[F.sc];exact nJ) (λx hx=>?_) (λai rS hk=>?_)
  (by rw[F.sc];exact F.co) (by rw[F.sc];exact F.gen) (by rw[F.sc];exact F.kind))
 .obtain⟨y,hy,e⟩:=aal.mp (abf (show(x.1,x.2)∈_ from hx)).1
  rw[F.sc,<-e];exact nF y hy
 .have uv:callEnv fd s.heap.objs.size a=newEnv sc s.heap.objs.size mainGlobals fd.closure (fd.qualname++".<locals>.") (some a) fd.code none builtinsNs:=by
   unfold callEnv;rw[F.sc,F.gl,F.bi]
  rw[uv]
  have O:=ew F.kind (L:=s.heap.objs.size) (dy:=fd.closure) (qK:=fd.qualname++".<locals>.") (f:=some a) (code:=fd.code)
  have nK:s.heap.get? s.heap.objs.size=none:=aO (ZA _)
  have new:cx.h₀.get? s.heap.objs.size=none:=by
   cases q:cx.h₀.get? s.heap.objs.size with
   |none=>rfl
   |some o=>have:=R.keep _ _ q;rw[nK] at this;cases this
  have au:aH (cx.at (newEnv sc s.heap.objs.size mainGlobals fd.closure (fd.qualname++".<locals>.") (some a) fd.code none builtinsNs::cx.fr)) (newEnv sc s.heap.objs.size mainGlobals fd.closure (fd.qualname++".<locals>.") (some a) fd.code none builtinsNs) ab {loc:=e9 sc params ps [],ce:=ce,hp:=σ.hp} ai:=by
   refine qI (by
    obtain⟨oL,e1,e2⟩:=iC rS
    exact⟨⟨by show sc.kind≠_;rw[F.kind];decide,_,oL,rfl,new,e1,e2⟩,R.ff.keep λb o ø e d=>⟨o,hk b o e,d⟩⟩) (cx:=cx) ?_
   refine⟨λb o e=>hk b o (R.keep b o e),R.off,?_,R.inj,λi b e=>Z7 (R.lt e),R.len,λi o e=>?_,⟨_,rS,λx p e=>?_⟩,kc,R.ff.keep λb o ø e d=>⟨o,hk b o e,d⟩,R.tb⟩
   .exact new
   .obtain⟨b,ob,e1,e2,e3⟩:=R.obj i o e
    exact⟨b,ob,e1,hk _ _ e2,e3⟩
   .obtain⟨v,h1,h2⟩:=jn (sc:=sc) (kindOf:=λx=>sc.names.lookup x) (λø=>rfl) (xs:=params) (ps:=ps) (vs:=vs) (l:=[]) (m:=λø=>none) d (λø ø q=>by cases q) x p e
    refine⟨v,?_,h2⟩
    rw[<-h1,pS (λy hy=>?_)]
    .simp
    .obtain⟨z,hz,e⟩:=aal.mp (abf (show(y.1,y.2)∈_ from hy)).1
     rw[<-e];exact nF z hz
  refine fH (C _) body (eU hA _) O ⟨⟨_,rfl⟩,rfl⟩ F.ok (P:=cW λr aE=>P r {σ with hp:=aE}) (by rw[kb];simpa [ur] using hw) (s:={s with heap:=ai,toks:=_}) au λf br aj fl h' tk hP df R' S'=>?_
  obtain⟨aK,aR⟩:=HR R hk (.refl _) (λø ø e=>.inl e) nK S' R'
  cases f with
  |next=>cases df;exact k _ _ _ _ _ _ hP rfl aK aR
  |brk=>exact hP.elim
  |ret v=>obtain⟨u,rfl,du⟩:=df;exact k _ _ _ _ _ _ hP du aK aR
set_option tactic.hygienic true in
theorem cellsFrom_some {x:Str} {names:List (Str×NameKind)}:∀ {k:Nat} {aD:List (Str×Addr)},(names.lookup x=some .cell\/(aD.lookup x).isSome=true)->((cellsFrom k names aD).lookup x).isSome=true:=by
 induction names with
 |nil=>exact λh=>h.elim (λh=>nomatch h) id
 |cons y r ih=>
  intro k aD h
  unfold cellsFrom
  have c7:(aD.lookup x).isSome=true->(((y.1,k)::aD).lookup x).isSome=true:=λq=>by
   rw[aax]
   cases x==y.1 with
   |true=>rfl
   |false=>exact q
  rw[aax] at h
  by_cases hk:(y.2==NameKind.cell)=true
  .rw[if_pos hk]
   refine ih ?_
   rcases h with h|h
   .cases e:x==y.1 with
    |true=>exact .inr (by rw[aax,e];rfl)
    |false=>rw[e] at h;exact .inl h
   .exact .inr (c7 h)
  .rw[if_neg hk]
   refine ih (h.imp_left λh=>?_)
   cases e:x==y.1 with
   |true=>rw[e] at h;exact absurd (by rw[aan h];rfl) hk
   |false=>rw[e] at h;exact h
theorem pT {ak:Env} {h:Heap} {lo:Addr} {cm:Str->Option Value} {cv:Nat->Option PV} (LF:ak.cells.Pairwise λx y=>x.2≠y.2) (LG:∀ n c,(n,c)∈ak.cells->lo<=c) (new:∀ c,lo<=c->cx.h₀.get? c=none) (nL:ak.locals<lo):
  ∀ (cl done:List Nat) {ab:aT} {σ:St},(done++cl).Nodup->aH cx ak ab σ h->(∀ x∈cl,∃ c,ak.cells.lookup (nm x)=some c/\h.IsCell c (cm (nm x)))->(∀ (i:Nat) (a:Addr),ab[i]? =some a->a<lo\/∃ y∈done,ak.cells.lookup (nm y)=some a)->qJ ab cv cm->
  ∃ cs:List Addr,aH cx ak (ab++cs) {σ with hp:=σ.hp++cl.map λx=>.cell (cv x)} h/\(∀ (j x:Nat),cl[j]? =some x->∃ a,cs[j]? =some a/\ak.cells.lookup (nm x)=some a)/\∀ a∈cs,lo<=a:=by
 intro cl
 induction cl with
 |nil=>
  intro done ab σ _ R _ _ _
  exact⟨[],by rw[ZV,List.map_nil,ZV];exact R,nofun,nofun⟩
 |cons x cl ih=>
  intro done ab σ nd R oE LH Vt
  obtain⟨c,hc,ob,QI,LJ⟩:=oE x (.head _)
  have po:=LG _ _ (mem_of_lookup hc)
  have off:∀ i:Nat,ab[i]? ≠some c:=λi e=>by
   rcases LH i c e with q|⟨y,hy,q⟩
   .exact aaw _ (ZD q po)
   .have:=kO (name_of_addr LF (mem_of_lookup q) (mem_of_lookup hc))
    subst this
    rw[List.nodup_append] at nd
    exact nd.2.2 y hy y (.head _) rfl
  have R':=R.take (o:=.cell (cv x)) QI (by
   have:=Vt x
   cases e:cv x with
   |none=>rw[e] at this;show ob.data=_;rw[LJ];exact congrArg _ this
   |some p=>rw[e] at this;obtain⟨v,h1,h2⟩:=this;exact⟨v,h2,by rw[LJ,h1]⟩) off (aam (ZD nL po)) (new c po)
  obtain⟨cs,aK,h2,h3⟩:=ih (done++[x]) (by rw[ZH];exact nd) R' (λy hy=>oE y (.tail _ hy)) (λi a e=>by
   rcases c6 e with e|⟨rfl,rfl⟩
   .rcases LH i a e with q|⟨y,hy,q⟩
    .exact .inl q
    .exact .inr ⟨y,aaX _ hy,q⟩
   .exact .inr ⟨x,List.mem_append_right _ (.head _),hc⟩) (λy=>by
    have:=Vt y
    revert this
    cases cv y with
    |none=>exact id
    |some p=>exact .imp λø=>aaa (.mono (.snoc _ _)))
  refine⟨c::cs,?_,λj y e=>?_,λa ha=>?_⟩
  .rw[List.append_cons ab c cs,List.map_cons,List.append_cons σ.hp]
   exact aK
  .cases j with
   |zero=>cases e;exact⟨c,rfl,hc⟩
   |succ j=>exact h2 j y e
  .rcases ZF.mp ha with rfl|ha
   .exact po
   .exact h3 a ha
theorem lX {a:Addr} {o:Obj} {fd:FuncData} (C:∀ L,bF (cx.at (newEnv sc L mainGlobals (cellsFrom (L+1) sc.names []) (fd.qualname++".<locals>.") (some a) fd.code none builtinsNs::cx.fr)) n) (hA:Good cx (n+1) A) {params cl:List Nat} {body:ao} (F:zN fd sc params body) (ho:s.heap.get? a=some o) (hd:o.data=.func fd) (iQ:cx.h₀.NoLimit)
  (HS:s.heap.CodeRec fd.code fd.qualname) (HU:fd.closure=[]) (jY:∀ x∈cl,sc.names.lookup (nm x)=some .cell) (nd:cl.Nodup) (uw:∀ x∈params,sc.names.lookup (nm x)=some .local\/x∈cl)
  {ps:List PV} {vs:List Value} (R:aH cx env ab σ s.heap) (d:aU ab ps vs) (hw:bc cx sc params cl [] body ps σ.hp (λr aE=>P r {σ with hp:=aE})) (k:bB cx env ab s P Q):
  wpAny (model cx.prog cx.w) A (call (.ref a) vs) Q E s:=by
 obtain⟨cb,hw⟩:=hw
 have HT:vs.length=params.length:=by rw[<-d.length,cb]
 refine wpAny_call (codeAny_call_cells (fd:=fd) (body:=body.sts) (binds:=(params.map nm).zip vs) (by have:=hA.depth;exact la [_,_,_] [] [.t (.a .v0 (.a .v1 .n1)) .v2] (.t .v0 .v2) (.f [1,1]) rfl this) ho hd (iQ.keeps R.keep) HS F.body (F.bind vs HT) HU (λx hx=>?_) (λbz X=>?_)
  (by rw[F.sc];exact F.co) (by rw[F.sc];exact F.gen) (by rw[F.sc];exact F.kind))
 .obtain⟨y,hy,e⟩:=aal.mp (abf (show(x.1,x.2)∈_ from hx)).1
  rw[F.sc,<-e]
  rcases uw y hy with q|q
  .exact .inl q
  .exact .inr ⟨jY y q,cellsFrom_some (.inl (jY y q))⟩
 .have uv:callEnvC fd s.heap.objs.size a=newEnv sc s.heap.objs.size mainGlobals (cellsFrom (s.heap.objs.size+1) sc.names []) (fd.qualname++".<locals>.") (some a) fd.code none builtinsNs:=by
   unfold callEnvC;rw[F.sc,F.gl,F.bi]
  rw[uv] at X ⊢
  have O:=ew F.kind (L:=s.heap.objs.size) (dy:=cellsFrom (s.heap.objs.size+1) sc.names []) (qK:=fd.qualname++".<locals>.") (f:=some a) (code:=fd.code)
  have C:=C s.heap.objs.size
  generalize kc:newEnv sc s.heap.objs.size mainGlobals (cellsFrom (s.heap.objs.size+1) sc.names []) (fd.qualname++".<locals>.") (some a) fd.code none builtinsNs=ak at X O C ⊢
  have eF:ak.frame=some ak.locals:=by rw[<-kc];rfl
  have eS:ak.scope=sc:=by rw[<-kc];rfl
  have eL:ak.locals=s.heap.objs.size:=by rw[<-kc];rfl
  have eC:ak.cells=cellsFrom (s.heap.objs.size+1) sc.names []:=by rw[<-kc];rfl
  have eK:∀ x,ak.kindOf x=sc.names.lookup x:=λx=>by rw[<-kc];rfl
  obtain⟨ai,av,rfl⟩:=X.toInCall.same
  have hk:=X.toInCall.keep
  have nK:s.heap.get? ak.locals=none:=by rw[eL];exact aO (ZA _)
  have new:∀ c,ak.locals+1<=c->cx.h₀.get? c=none:=λc hc=>by
   cases q:cx.h₀.get? c with
   |none=>rfl
   |some o=>have:=aaC (R.keep _ _ q);rw[eL] at hc;exact absurd (ZD this (Nat.le_of_succ_le hc)) (aaw _)
  have HV:cx.h₀.get? ak.locals=none:=by
   cases q:cx.h₀.get? ak.locals with
   |none=>rfl
   |some o=>have:=R.keep _ _ q;rw[nK] at this;cases this
  have au:aH (cx.at (ak::cx.fr)) ak ab {loc:=e9 sc params ps [],ce:=[],hp:=σ.hp} ai:=by
   refine qI (by
    obtain⟨oL,e1,e2⟩:=iC X.toInCall.ns
    exact⟨⟨by rw[eS,F.kind];decide,_,oL,eF,HV,e1,e2⟩,R.ff.keep λb o ø e d=>⟨o,hk b o e,d⟩⟩) (cx:=cx) ?_
   refine⟨λb o e=>hk b o (R.keep b o e),R.off,?_,R.inj,λi b e q=>?_,R.len,λi o e=>?_,⟨_,X.toInCall.ns,λx p e=>?_⟩,(λø ø e=>by cases e),R.ff.keep λb o ø e d=>⟨o,hk b o e,d⟩,R.tb⟩
   .cases q:cx.h₀.get? ak.locals with
    |none=>rfl
    |some o=>have:=R.keep _ _ q;rw[nK] at this;cases this
   .have:=R.lt e;rw[q,eL] at this;exact aaw _ this
   .obtain⟨b,ob,e1,e2,e3⟩:=R.obj i o e
    exact⟨b,ob,e1,hk _ _ e2,e3⟩
   .exact jn (sc:=sc) eK (xs:=params) (ps:=ps) (vs:=vs) (l:=[]) (m:=λø=>none) d (λø ø q=>by cases q) x p e
  obtain⟨cs,aK,oE,po⟩:=pT (cx:=cx.at (ak::cx.fr)) (cm:=bindC ak.kindOf ((params.map nm).zip vs) λø=>none) (cv:=jM sc params ps λø=>none) X.apart (λn c e=>X.above n c e) new (Z0 _) cl [] (by simpa using nd) au (λx hx=>by
    obtain⟨c,hc⟩:=ZJ.mp (cellsFrom_some (k:=s.heap.objs.size+1) (aD:=[]) (.inl (jY x hx)))
    rw[<-eC] at hc
    exact⟨c,hc,X.cell _ _ hc⟩) (λi b e=>.inl (by have:=R.lt e;rw[eL];exact ZZ this)) (pR eK d λx=>rfl)
  have cH:aH (cx.at (ak::cx.fr)) ak (ab++cs) {loc:=e9 sc params ps [],ce:=ur σ.hp.length cl,hp:=σ.hp++cl.map λx=>.cell (jM sc params ps (λø=>none) x)} ai:=
   ⟨aK.keep,aK.off,aK.offL,aK.inj,aK.notL,aK.len,aK.obj,aK.loc,λx i e=>by
    obtain⟨j,h1,h2⟩:=pQ e
    obtain⟨b,h3,h4⟩:=oE j x h1
    refine⟨b,?_,h4⟩
    rw[h2,<-R.len,aah (by exact la [_,_] [] [] (.l .v0 (.a .v0 .v1)) (.f [1]) rfl)]
    rw[show ab.length+j-ab.length=j by exact la [_,_] [] [] (.e (.s (.a .v0 .v1) .v0) .v1) (.o 0 (.k true (.s (.a .v0 .v1) .v0) (.o 0 (.f [0,0,1,1]) (.f [1,0,0,1]))) (.k true (.s (.a .v0 .v1) .v0) (.o 0 (.f [0,1,0,1]) (.f [0,1,0,1])))) rfl]
    exact h3,aK.ff,aK.tb⟩
  refine fH C body (eU hA _) O ⟨⟨_,rfl⟩,eF⟩ F.ok (P:=cW λr aE=>P r {σ with hp:=aE}) (by rw[kb];simpa using hw) (s:={s with heap:=ai,toks:=_}) cH λf br aj fl h' tk hP df R' S'=>?_
  obtain⟨fT,e8⟩:=HR R hk (λi b e=>by rw[ZQ (Zv.mp e).1];exact e) (λi b e=>by
   rcases Nat.lt_or_ge i ab.length with l|l
   .rw[ZQ l] at e;exact .inl e
   .rw[aah l] at e
    have:=po b (ZE e)
    rw[eL] at this
    exact .inr (aO (Nat.le_of_succ_le this))) nK S' R'
  cases f with
  |next=>cases df;exact k _ _ _ _ _ _ hP rfl fT e8
  |brk=>exact hP.elim
  |ret v=>obtain⟨u,rfl,du⟩:=df;exact k _ _ _ _ _ _ hP du fT e8
end
noncomputable def W4:List Str:=Ck.map Str.ofString
noncomputable def LK (s:Str):List Str->Nat->Nat
 | [],k=>k+1000
 |t::r,k=>if s==t then k else LK s r (k+1)
noncomputable def ix (s:Str):Nat:=LK s W4 0
noncomputable def QJ (s:Str):Option Mt:=([.lower,.append,.extend,.join,.get,.bit_length,.count,.reverse].filter λm:Mt=>m.name==s).head?
noncomputable def HW (sc:Scope):List Nat:=(sc.names.filter λy=>y.2== .free).map λy=>ix y.1
noncomputable def namesOf:List Expr->List (Nat×Pos)
 |.Name x p::r=>(ix x,p)::namesOf r
 |_=>[]
noncomputable def toPT0 (sc:Scope):Expr->gj
 |.Name x p=>(match sc.names.lookup x with
   |some .cell=>.cel (ix x) p
   |_=>.name (ix x) p)
 |.Tuple es k p=>.tup (namesOf es) k p
 |_=>.name 999 ⟨0,0,0,0⟩
noncomputable def toPE:Nat->Scope->Expr->PE
 |0,_,e=>.ext 0 e
 |n+1,sc,e=>
  let all:=λ(sc:Scope) (es:List Expr)=>es.foldr (λe r=>ca.cons (toPE n sc e) r) .nil
  match e with
  |.Constant (.int i) _ p=>.int i p
  |.Constant (.str s) _ p=>.str s p
  |.Constant .none _ p=>.none p
  |.Constant (.bool b) _ p=>.bool b p
  |.Name x p=>(match sc.names.lookup x with
    |some .local=>.loc (ix x) p
    |some .globalImplicit=>.glob (ix x) p
    |_=>.cel (ix x) p)
  |.BinOp l op r p=>.bin op (toPE n sc l) (toPE n sc r) p
  |.UnaryOp op e p=>.un op (toPE n sc e) p
  |.Compare l [op] [r] p=>.cmp op (toPE n sc l) (toPE n sc r) p
  |.BoolOp op es p=>.bop op (all sc es) p
  |.IfExp t a b p=>.ite (toPE n sc t) (toPE n sc a) (toPE n sc b) p
  |.Call (.Attribute o m ap) bo [] p=>(match QJ m with
    |some m=>.meth (toPE n sc o) m ap (all sc bo) p
    |none=>.ext 0 e)
  |.Call f bo [] p=>.call (toPE n sc f) (all sc bo) p
  |.Subscript o (.Slice lo hi st sp) p=>
    let QK:=λ(x:Option Expr)=>match x with
     |some e=>toPE n sc e
     |none=>.absent
    .slice (toPE n sc o) (QK lo) (QK hi) (QK st) sp p
  |.Subscript o i p=>.sub (toPE n sc o) (toPE n sc i) p
  |.List es p=>.list (all sc es) p
  |.Tuple es k p=>.tup (all sc es) k p
  |.ListComp bI [⟨bU,it,iz,0⟩] fp p=>(match it with
    |.Call (.Name g gp) [x] [] cp=>if ix g==ix (Str.ofString "enumerate") then .compEn (toPE n fp bI) (toPT0 fp bU) (ix g) gp (toPE n sc x) cp (HW fp) fp p
      else .comp (toPE n fp bI) (toPT0 fp bU) (toPE n sc it) (all fp iz) (HW fp) fp p
    |_=>.comp (toPE n fp bI) (toPT0 fp bU) (toPE n sc it) (all fp iz) (HW fp) fp p)
  |e=>.ext 0 e
noncomputable def toPT (n:Nat) (sc:Scope):Expr->PT
 |.Name x p=>(match sc.names.lookup x with
   |some .cell=>.cel (ix x) p
   |_=>.name (ix x) p)
 |.Tuple es k p=>.tup (namesOf es) k p
 |.Subscript o i p=>.sub (toPE n sc o) (toPE n sc i) p
 |_=>.name 999 ⟨0,0,0,0⟩
noncomputable def toPS:Nat->Scope->Stmt->PS
 |0,_,t=>.ext 0 t []
 |n+1,sc,t=>
  let all:=λ(ts:List Stmt)=>ts.foldr (λe r=>ao.cons (toPS n sc e) r) .nil
  match t with
  |.Assign [t] e p=>.assign (toPT n sc t) (toPE n sc e) p
  |.Assign [t,u] e p=>.assign2 (toPT n sc t) (toPT n sc u) (toPE n sc e) p
  |.AugAssign (.Name x np) op e p=>.aug (ix x) np op (toPE n sc e) p
  |.Expr e p=>.expr (toPE n sc e) p
  |.If t b e p=>.ite (toPE n sc t) (all b) (all e) p
  |.While t b e p=>.whl (toPE n sc t) (all b) (all e) p
  |.For t it b e p=>(match it with
    |.Call (.Name g gp) [x] [] cp=>if ix g==ix (Str.ofString "reversed") then .foRev (toPT0 sc t) (ix g) gp (toPE n sc x) cp (all b) (all e) p else .fo (toPT0 sc t) (toPE n sc it) (all b) (all e) p
    |_=>.fo (toPT0 sc t) (toPE n sc it) (all b) (all e) p)
  |.Return (some e) p=>.ret (toPE n sc e) p
  |.Return none p=>.ret0 p
  |.Break p=>.brk p
  |t=>.ext 1 t (sc.names.map λy=>(ix y.1,y.2))
noncomputable def toPSs (n:Nat) (sc:Scope) (ts:List Stmt):ao:=ts.foldr (λe r=>ao.cons (toPS n sc e) r) .nil
noncomputable def p0:Pos:=⟨0,0,0,0⟩
noncomputable def kZ:Scope:={kind:=.function,names:=[],isGenerator:=false,isCoroutine:=false,more:=[]}
noncomputable def gj.er:gj->gj
 |.name x _=>.name x p0
 |.cel x _=>.cel x p0
 |.tup xs _ _=>.tup (xs.map λy=>(y.1,p0)) 0 p0
mutual
noncomputable def PE.er:PE->PE
 |.int i _=>.int i p0
 |.str s _=>.str s p0
 |.none _=>.none p0
 |.bool b _=>.bool b p0
 |.loc x _=>.loc x p0
 |.cel x _=>.cel x p0
 |.glob x _=>.glob x p0
 |.bin op l r _=>.bin op l.er r.er p0
 |.un op e _=>.un op e.er p0
 |.cmp op l r _=>.cmp op l.er r.er p0
 |.bop op es _=>.bop op es.er p0
 |.ite t a b _=>.ite t.er a.er b.er p0
 |.call f bo _=>.call f.er bo.er p0
 |.meth o m _ bo _=>.meth o.er m p0 bo.er p0
 |.sub o i _=>.sub o.er i.er p0
 |.slice o lo hi st _ _=>.slice o.er lo.er hi.er st.er p0 p0
 |.absent=>.absent
 |.list es _=>.list es.er p0
 |.tup es _ _=>.tup es.er 0 p0
 |.comp bI bU it iz fr _ _=>.comp bI.er bU.er it.er iz.er fr kZ p0
 |.compEn bI bU gx _ x _ fr _ _=>.compEn bI.er bU.er gx p0 x.er p0 fr kZ p0
 |.ext k e=>.ext k e
noncomputable def ca.er:ca->ca
 |.nil=>.nil
 |.cons e es=>.cons e.er es.er
end
noncomputable def PT.er:PT->PT
 |.name x _=>.name x p0
 |.cel x _=>.cel x p0
 |.tup xs _ _=>.tup (xs.map λy=>(y.1,p0)) 0 p0
 |.sub o i _=>.sub o.er i.er p0
mutual
noncomputable def PS.er:PS->PS
 |.assign t e _=>.assign t.er e.er p0
 |.assign2 t u e _=>.assign2 t.er u.er e.er p0
 |.aug x _ op e _=>.aug x p0 op e.er p0
 |.expr e _=>.expr e.er p0
 |.ite t b e _=>.ite t.er b.er e.er p0
 |.whl t b e _=>.whl t.er b.er e.er p0
 |.fo t it b e _=>.fo t.er it.er b.er e.er p0
 |.foRev t x _ it _ b e _=>.foRev t.er x p0 it.er p0 b.er e.er p0
 |.ret e _=>.ret e.er p0
 |.ret0 _=>.ret0 p0
 |.brk _=>.brk p0
 |.ext k t xs=>.ext k t xs
noncomputable def ao.er:ao->ao
 |.nil=>.nil
 |.cons s ss=>.cons s.er ss.er
end
theorem pU {xs:List (Nat×Pos)}:∀ {vs:List PV} {l:Loc},dT (xs.map λy=>(y.1,p0)) vs l=dT xs vs l:=by
 induction xs with
 |nil=>exact rfl
 |cons x xs ih=>intro vs l;cases vs with
  |nil=>rfl
  |cons v vs=>exact ih
theorem ke {t:gj}:aN t.er=aN t:=by
 cases t with
 |name x p=>rfl
 |cel x p=>rfl
 |tup xs k p=>
  funext v Q σ
  simp only[gj.er,aN,pU,ZI]
theorem gG {e:PE}:e.er.isAbs=e.isAbs:=by cases e<;>rfl
noncomputable def EE (cx:Cx) (e:PE):Prop:=aZ cx e.er=aZ cx e/\iB cx e.er=iB cx e
noncomputable def x6 (cx:Cx) (es:ca):Prop:=gW cx es.er=gW cx es/\(∀ op,E7 cx op es.er=E7 cx op es)/\(∀ op,ub cx op es.er=ub cx op es)/\cu cx es.er=cu cx es
section
variable {cx:Cx}
theorem zO (op:_) (l:PE) (r:PE) (p:_) (hl:EE cx l) (hr:EE cx r):aZ cx (PE.er (.bin op l r p))=aZ cx (.bin op l r p):=by
 funext Q σ
 show(aZ cx l.er (λa=>aZ cx r.er (λb=>yX op a b Q)) σ)=_
 rw[hl.1,hr.1]
 rfl
theorem zP (op:_) (l:PE) (r:PE) (p:_) (hl:EE cx l) (hr:EE cx r):iB cx (PE.er (.bin op l r p))=iB cx (.bin op l r p):=by
 funext Q σ
 show(aZ cx l.er (λa=>aZ cx r.er (λb=>yX op a b (λv=>oJ v Q))) σ)=_
 rw[hl.1,hr.1]
 rfl
theorem Fj (op:_) (e:PE) (p:_) (he:EE cx e):aZ cx (PE.er (.un op e p))=aZ cx (.un op e p):=by
 funext Q σ
 show(aZ cx e.er (λv=>Qd op v Q) σ)=_
 rw[he.1]
 rfl
theorem zQ (op:_) (l:PE) (r:PE) (p:_) (hl:EE cx l) (hr:EE cx r):aZ cx (PE.er (.cmp op l r p))=aZ cx (.cmp op l r p):=by
 funext Q σ
 show(aZ cx l.er (λa=>aZ cx r.er (λb=>xA op a b Q)) σ)=_
 rw[hl.1,hr.1]
 rfl
theorem zR (op:_) (l:PE) (r:PE) (p:_) (hl:EE cx l) (hr:EE cx r):iB cx (PE.er (.cmp op l r p))=iB cx (.cmp op l r p):=by
 funext Q σ
 show(aZ cx l.er (λa=>aZ cx r.er (λb=>xA op a b (λv=>oJ v Q))) σ)=_
 rw[hl.1,hr.1]
 rfl
theorem zS (op:_) (es:ca) (p:_) (fG:x6 cx es):aZ cx (PE.er (.bop op es p))=aZ cx (.bop op es p):=by
 funext Q σ
 show(E7 cx op es.er Q σ)=_
 rw[fG.2.1]
 rfl
theorem zT (op:_) (es:ca) (p:_) (fG:x6 cx es):iB cx (PE.er (.bop op es p))=iB cx (.bop op es p):=by
 funext Q σ
 show(ub cx op es.er Q σ)=_
 rw[fG.2.2.1]
 rfl
theorem zU (t:PE) (a:PE) (b:PE) (p:_) (ht:EE cx t) (ha:EE cx a) (hb:EE cx b):aZ cx (PE.er (.ite t a b p))=aZ cx (.ite t a b p):=by
 funext Q σ
 show(iB cx t.er (λc ae=>(c=true->aZ cx a.er Q ae)/\(c=false->aZ cx b.er Q ae)) σ)=_
 rw[ht.2,ha.1,hb.1]
 rfl
theorem vZ (f:PE) (es:ca) (p:_) (hf:EE cx f) (fG:x6 cx es):aZ cx (PE.er (.call f es p))=aZ cx (.call f es p):=by
 funext Q σ
 show(aZ cx f.er (λfv=>gW cx es.er (λvs=>pA cx fv vs Q)) σ)=_
 rw[hf.1,fG.1]
 rfl
theorem v8 (f:PE) (es:ca) (p:_) (hf:EE cx f) (fG:x6 cx es):iB cx (PE.er (.call f es p))=iB cx (.call f es p):=by
 funext Q σ
 show(aZ cx f.er (λfv=>gW cx es.er (λvs=>pA cx fv vs (λv=>oJ v Q))) σ)=_
 rw[hf.1,fG.1]
 rfl
theorem v9 (o:PE) (m:_) (ap:_) (es:ca) (p:_) (ho:EE cx o) (fG:x6 cx es):aZ cx (PE.er (.meth o m ap es p))=aZ cx (.meth o m ap es p):=by
 funext Q σ
 show(aZ cx o.er (λov ae=>pn cx m ov ae/\gW cx es.er (λvs=>CB cx m ov vs Q) ae) σ)=_
 rw[ho.1,fG.1]
 rfl
theorem zV (o:PE) (i:PE) (p:_) (ho:EE cx o) (hi:EE cx i):aZ cx (PE.er (.sub o i p))=aZ cx (.sub o i p):=by
 funext Q σ
 show(aZ cx o.er (λov=>aZ cx i.er (λiv=>GS ov iv Q)) σ)=_
 rw[ho.1,hi.1]
 rfl
theorem se (o:PE) (lo:PE) (hi:PE) (st:PE) (sp:_) (p:_) (ho:EE cx o) (po:EE cx lo) (Cm:EE cx hi) (yR:EE cx st):aZ cx (PE.er (.slice o lo hi st sp p))=aZ cx (.slice o lo hi st sp p):=by
 funext Q σ
 show(aZ cx o.er (λov=>kS lo.er.isAbs (aZ cx lo.er) (λl=>kS hi.er.isAbs (aZ cx hi.er) (λh=>kS st.er.isAbs (aZ cx st.er) (λs=>mY ov l h s Q)))) σ)=_
 rw[ho.1,gG (e:=lo),po.1,gG (e:=hi),Cm.1,gG (e:=st),yR.1]
 rfl
theorem sf (o:PE) (lo:PE) (hi:PE) (st:PE) (sp:_) (p:_) (ho:EE cx o) (po:EE cx lo) (Cm:EE cx hi) (yR:EE cx st):iB cx (PE.er (.slice o lo hi st sp p))=iB cx (.slice o lo hi st sp p):=by
 funext Q σ
 show(aZ cx o.er (λov=>kS lo.er.isAbs (aZ cx lo.er) (λl=>kS hi.er.isAbs (aZ cx hi.er) (λh=>kS st.er.isAbs (aZ cx st.er) (λs=>mY ov l h s (λv=>oJ v Q))))) σ)=_
 rw[ho.1,gG (e:=lo),po.1,gG (e:=hi),Cm.1,gG (e:=st),yR.1]
 rfl
theorem wa (es:ca) (p:_) (fG:x6 cx es):aZ cx (PE.er (.list es p))=aZ cx (.list es p):=by
 funext Q σ
 show(gW cx es.er (λvs ae=>aV vs.length/\push (.list vs) Q ae) σ)=_
 rw[fG.1]
 rfl
theorem zW (es:ca) (k:_) (p:_) (fG:x6 cx es):aZ cx (PE.er (.tup es k p))=aZ cx (.tup es k p):=by
 funext Q σ
 show(gW cx es.er (λvs ae=>aV vs.length/\push (.tup vs) Q ae) σ)=_
 rw[fG.1]
 rfl
theorem wc (bI:PE) (bU:_) (it:PE) (iz:ca) (fr:_) (sc:_) (p:_) (nB:EE cx bI) (eQ:EE cx it) (zm:x6 cx iz):aZ cx (PE.er (.comp bI bU it iz fr sc p))=aZ cx (.comp bI bU it iz fr sc p):=by
 funext Q σ
 show((fr.all λx=>(look σ.ce x).isSome)=true/\aZ cx it.er (λiv=>f0 iv (λa9 aw=>∃ n,bh (aN bU.er) (cu cx iz.er) (aZ cx bI.er) (λxs jX=>push (.list xs) Q {aw with hp:=jX.hp}) n a9 [] {loc:=[],ce:=jG fr aw.ce,hp:=aw.hp})) σ)=_
 rw[nB.1,eQ.1,zm.2.2.2,ke]
 rfl
theorem pV (bI:PE) (bU:_) (gx:_) (gp:_) (x:PE) (cp:_) (fr:_) (sc:_) (p:_) (nB:EE cx bI) (hx:EE cx x):aZ cx (PE.er (.compEn bI bU gx gp x cp fr sc p))=aZ cx (.compEn bI bU gx gp x cp fr sc p):=by
 funext Q σ
 show(cx.EN gx/\(fr.all λx=>(look σ.ce x).isSome)=true/\aZ cx x.er (λiv aw=>(match iv with|.ref i=>(match aw.hp[i]? with|some (.list _)=>∃ n,bh (aN bU.er) (λQ=>Q true) (aZ cx bI.er) (λxs jX=>push (.list xs) Q {aw with hp:=jX.hp}) n (.enm i 0) [] {loc:=[],ce:=jG fr aw.ce,hp:=aw.hp}|_=>False)|_=>False)) σ)=_
 rw[nB.1,hx.1,ke]
 rfl
theorem Fk (op:_) (e:PE) (p:_) (he:EE cx e):iB cx (PE.er (.un op e p))=iB cx (.un op e p):=by
 cases op with
 |Not=>
  funext Q σ
  show iB cx e.er (λb=>Q (!b)) σ=_
  rw[he.2]
  rfl
 |_=>rfl
theorem sg (e:PE) (es:ca) (he:EE cx e) (fG:x6 cx es):x6 cx (.cons e es):=by
 refine⟨?_,λop=>?_,λop=>?_,?_⟩
 .funext Q σ
  show aZ cx e.er (λv=>gW cx es.er (λvs=>Q (v::vs))) σ=_
  rw[he.1,fG.1];rfl
 .cases es with
  |nil=>exact he.1
  |cons e' es=>
   funext Q σ
   show aZ cx e.er (λv=>oJ v (λt ae=>(ik op t=true->Q v ae)/\(ik op t=false->E7 cx op (ca.er (.cons e' es)) Q ae))) σ=_
   rw[he.1,fG.2.1];rfl
 .funext Q σ
  show iB cx e.er (λt ae=>(ik op t=true->Q t ae)/\(ik op t=false->ub cx op es.er Q ae)) σ=_
  rw[he.2,fG.2.2.1];rfl
 .funext Q σ
  show iB cx e.er (λt ae=>(t=true->cu cx es.er Q ae)/\(t=false->Q false ae)) σ=_
  rw[he.2,fG.2.2.2];rfl
theorem ee (e:PE):EE cx e:=@PE.rec (EE cx) (x6 cx) (λø ø=>⟨rfl,rfl⟩) (λø ø=>⟨rfl,rfl⟩) (λø=>⟨rfl,rfl⟩) (λø ø=>⟨rfl,rfl⟩) (λø ø=>⟨rfl,rfl⟩) (λø ø=>⟨rfl,rfl⟩) (λø ø=>⟨rfl,rfl⟩) (λa0 a1 a2 a3 h0 h1=>⟨zO a0 a1 a2 a3 h0 h1,zP a0 a1 a2 a3 h0 h1⟩) (λa0 a1 a2 h0=>⟨Fj a0 a1 a2 h0,Fk a0 a1 a2 h0⟩) (λa0 a1 a2 a3 h0 h1=>⟨zQ a0 a1 a2 a3 h0 h1,zR a0 a1 a2 a3 h0 h1⟩) (λa0 a1 a2 h0=>⟨zS a0 a1 a2 h0,zT a0 a1 a2 h0⟩) (λa0 a1 a2 a3 h0 h1 h2=>⟨zU a0 a1 a2 a3 h0 h1 h2,rfl⟩) (λa0 a1 a2 h0 h1=>⟨vZ a0 a1 a2 h0 h1,v8 a0 a1 a2 h0 h1⟩) (λa0 a1 a2 a3 a4 h0 h1=>⟨v9 a0 a1 a2 a3 a4 h0 h1,rfl⟩) (λa0 a1 a2 h0 h1=>⟨zV a0 a1 a2 h0 h1,rfl⟩) (λa0 a1 a2 a3 a4 a5 h0 h1 h2 h3=>⟨se a0 a1 a2 a3 a4 a5 h0 h1 h2 h3,sf a0 a1 a2 a3 a4 a5 h0 h1 h2 h3⟩) ⟨rfl,rfl⟩ (λa0 a1 h0=>⟨wa a0 a1 h0,rfl⟩) (λa0 a1 a2 h0=>⟨zW a0 a1 a2 h0,rfl⟩) (λa0 a1 a2 a3 a4 a5 a6 h0 h1 h2=>⟨wc a0 a1 a2 a3 a4 a5 a6 h0 h1 h2,rfl⟩) (λa0 a1 a2 a3 a4 a5 a6 a7 a8 h0 h1=>⟨pV a0 a1 a2 a3 a4 a5 a6 a7 a8 h0 h1,rfl⟩) (λø ø=>⟨rfl,rfl⟩) ⟨rfl,λø=>rfl,λø=>rfl,rfl⟩ sg e
theorem W5 (es:ca):x6 cx es:=@ca.rec (EE cx) (x6 cx) (λø ø=>⟨rfl,rfl⟩) (λø ø=>⟨rfl,rfl⟩) (λø=>⟨rfl,rfl⟩) (λø ø=>⟨rfl,rfl⟩) (λø ø=>⟨rfl,rfl⟩) (λø ø=>⟨rfl,rfl⟩) (λø ø=>⟨rfl,rfl⟩) (λa0 a1 a2 a3 h0 h1=>⟨zO a0 a1 a2 a3 h0 h1,zP a0 a1 a2 a3 h0 h1⟩) (λa0 a1 a2 h0=>⟨Fj a0 a1 a2 h0,Fk a0 a1 a2 h0⟩) (λa0 a1 a2 a3 h0 h1=>⟨zQ a0 a1 a2 a3 h0 h1,zR a0 a1 a2 a3 h0 h1⟩) (λa0 a1 a2 h0=>⟨zS a0 a1 a2 h0,zT a0 a1 a2 h0⟩) (λa0 a1 a2 a3 h0 h1 h2=>⟨zU a0 a1 a2 a3 h0 h1 h2,rfl⟩) (λa0 a1 a2 h0 h1=>⟨vZ a0 a1 a2 h0 h1,v8 a0 a1 a2 h0 h1⟩) (λa0 a1 a2 a3 a4 h0 h1=>⟨v9 a0 a1 a2 a3 a4 h0 h1,rfl⟩) (λa0 a1 a2 h0 h1=>⟨zV a0 a1 a2 h0 h1,rfl⟩) (λa0 a1 a2 a3 a4 a5 h0 h1 h2 h3=>⟨se a0 a1 a2 a3 a4 a5 h0 h1 h2 h3,sf a0 a1 a2 a3 a4 a5 h0 h1 h2 h3⟩) ⟨rfl,rfl⟩ (λa0 a1 h0=>⟨wa a0 a1 h0,rfl⟩) (λa0 a1 a2 h0=>⟨zW a0 a1 a2 h0,rfl⟩) (λa0 a1 a2 a3 a4 a5 a6 h0 h1 h2=>⟨wc a0 a1 a2 a3 a4 a5 a6 h0 h1 h2,rfl⟩) (λa0 a1 a2 a3 a4 a5 a6 a7 a8 h0 h1=>⟨pV a0 a1 a2 a3 a4 a5 a6 a7 a8 h0 h1,rfl⟩) (λø ø=>⟨rfl,rfl⟩) ⟨rfl,λø=>rfl,λø=>rfl,rfl⟩ sg es
end
theorem eA (cx:Cx) (e:PE):aZ cx e.er=aZ cx e:=(ee e).1
theorem qL (cx:Cx) (e:PE):iB cx e.er=iB cx e:=(ee e).2
theorem qM {cx:Cx} {t:PT}:jH cx t.er=jH cx t:=by
 cases t with
 |name x p=>rfl
 |cel x p=>rfl
 |tup xs k p=>
  funext v Q σ
  simp only[PT.er,jH,pU,ZI,List.map_map]
  rfl
 |sub o i p=>funext v Q σ;simp only[PT.er,jH,eA]
section
variable {cx:Cx}
theorem x7 (t:PT) (e:PE) (p:_):wpS cx (PS.er (.assign t e p))=wpS cx (.assign t e p):=by
 funext Q σ
 show(aZ cx e.er (λv=>jH cx t.er v (Q .next)) σ)=_
 rw[eA,qM]
 rfl
theorem ux (t:PT) (u:PT) (e:PE) (p:_):wpS cx (PS.er (.assign2 t u e p))=wpS cx (.assign2 t u e p):=by
 funext Q σ
 show(aZ cx e.er (λv=>jH cx t.er v (jH cx u.er v (Q .next))) σ)=_
 rw[eA,qM (t:=t),qM (t:=u)]
 rfl
theorem HX (x:_) (np:_) (op:_) (e:PE) (p:_):wpS cx (PS.er (.aug x np op e p))=wpS cx (.aug x np op e p):=by
 funext Q σ
 show(match σ.loc.get x with|some (.int a)=>aZ cx e.er (λv ae=>(match v with|.int b=>binI op a b (λr aw=>Q .next {aw with loc:=aw.loc.set x r}) ae|_=>False)) σ|_=>False)=_
 rw[eA]
 rfl
theorem C8 (e:PE) (p:_):wpS cx (PS.er (.expr e p))=wpS cx (.expr e p):=by
 funext Q σ
 show(aZ cx e.er (λø ae=>Q .next ae) σ)=_
 rw[eA]
 rfl
theorem HY (t:PE) (b:ao) (e:ao) (p:_) (hb:aF cx b.er=aF cx b) (he:aF cx e.er=aF cx e):wpS cx (PS.er (.ite t b e p))=wpS cx (.ite t b e p):=by
 funext Q σ
 show(iB cx t.er (λc ae=>(c=true->aF cx b.er Q ae)/\(c=false->aF cx e.er Q ae)) σ)=_
 rw[qL,hb,he]
 rfl
theorem HZ (t:PE) (b:ao) (e:ao) (p:_) (hb:aF cx b.er=aF cx b) (he:aF cx e.er=aF cx e):wpS cx (PS.er (.whl t b e p))=wpS cx (.whl t b e p):=by
 funext Q σ
 show(∃ n,iF (iB cx t.er) (aF cx b.er) (aF cx e.er) Q n σ)=_
 rw[qL,hb,he]
 rfl
theorem LL (t:gj) (it:PE) (b:ao) (e:ao) (p:_) (hb:aF cx b.er=aF cx b) (he:aF cx e.er=aF cx e):wpS cx (PS.er (.fo t it b e p))=wpS cx (.fo t it b e p):=by
 funext Q σ
 show(aZ cx it.er (λiv=>f0 iv (λa9 ae=>∃ n,kW (aN t.er) (aF cx b.er) (aF cx e.er) Q n a9 ae)) σ)=_
 rw[eA,ke,hb,he]
 rfl
theorem zX (t:gj) (x:_) (xp:_) (it:PE) (ip:_) (b:ao) (e:ao) (p:_) (hb:aF cx b.er=aF cx b) (he:aF cx e.er=aF cx e):wpS cx (PS.er (.foRev t x xp it ip b e p))=wpS cx (.foRev t x xp it ip b e p):=by
 funext Q σ
 show(cx.RV x/\aZ cx it.er (λiv ae=>(match iv with|.ref i=>(match ae.hp[i]? with|some (.list xs)=>aV xs.length/\∃ n,kW (aN t.er) (aF cx b.er) (aF cx e.er) Q n (.rev i xs.length) ae|_=>False)|_=>False)) σ)=_
 rw[eA,ke,hb,he]
 rfl
theorem H8 (e:PE) (p:_):wpS cx (PS.er (.ret e p))=wpS cx (.ret e p):=by
 funext Q σ
 show(aZ cx e.er (λv=>Q (.ret v)) σ)=_
 rw[eA]
 rfl
theorem zY (ts:ao):aF cx ts.er=aF cx ts:=@ao.rec (λt=>wpS cx t.er=wpS cx t) (λts=>aF cx ts.er=aF cx ts) x7 ux HX C8 HY HZ LL zX H8 (λø=>rfl) (λø=>rfl) (λø ø ø=>rfl) rfl (λt ts ht zL=>by
 funext Q σ
 show wpS cx t.er (λf ae=>(match f with|.next=>aF cx ts.er Q ae|f=>Q f ae)) σ=_
 rw[ht,zL]
 rfl) ts
end
theorem dW (cx:Cx) (ts:ao):aF cx ts.er=aF cx ts:=zY ts
noncomputable def wf (x:Str):List Stmt->List Stmt×Scope
 | []=>([],kZ)
 |.FunctionDef name _ body _ _ _ scope _ _ _::r=>if name==x then(body,scope) else wf x r
 |_::r=>wf x r
noncomputable def QL:List Stmt:=PySem.Challenge.pw_rw0084_01.main.body
noncomputable def H9 (x:String):List Stmt:=(wf (Str.ofString x) QL).1
noncomputable def am (x:String):Scope:=(wf (Str.ofString x) QL).2
noncomputable def aQ (x:String):ao:=toPSs 40 (am x) (H9 x)
noncomputable def cJ:ao->Stmt×List (Nat×NameKind)
 |.nil=>(.Break p0,[])
 |.cons (.ext _ t xs) _=>(t,xs)
 |.cons (.ite _ (.cons (.ext _ t xs) _) _ _) _=>(t,xs)
 |.cons _ r=>cJ r
noncomputable def wg (x:String):List Stmt×Scope:=match(cJ (aQ x)).1 with
 |.FunctionDef _ _ body _ _ _ scope _ _ _=>(body,scope)
 |_=>([],kZ)
noncomputable def oR (x:String):ao:=toPSs 40 (wg x).2 (wg x).1
noncomputable def eV:Expr:=match aQ "_law_table" with
 |.cons _ (.cons _ (.cons _ (.cons _ (.cons (.fo _ (.bin _ _ (.ext _ e) _) _ _ _) _))))=>e
 |_=>.Constant .none 0 p0
noncomputable def LM:ao:=.cons (.ret (.glob 98 p0) p0) .nil
noncomputable def LN:ao:=.cons (.ret (.glob 97 p0) p0) .nil
noncomputable def LO:ao:=.cons (.ite (.cmp .Eq (.meth (.loc 0 p0) .lower p0 .nil p0) (.meth (.loc 1 p0) .lower p0 .nil p0) p0) LN .nil p0) LM
noncomputable def LP:ao:=.cons (.ret (.int 0 p0) p0) .nil
noncomputable def LQ:ao:=.cons (.ite (.cmp .Eq (.loc 0 p0) (.loc 1 p0) p0) LP .nil p0) LO
noncomputable def jz:ao:=LQ
theorem g9:(aQ "_substitution_cost").er=jz:=by kernel_rfl
noncomputable def QM:ao:=.cons (.ret (.loc 8 p0) p0) .nil
noncomputable def QN:ao:=.cons (.ret (.bin .Add (.loc 4 p0) (.int 1 p0) p0) p0) .nil
noncomputable def QO:ao:=.cons (.ite (.cmp .Gt (.loc 12 p0) (.loc 4 p0) p0) QN .nil p0) .nil
noncomputable def QP:ao:=.cons (.assign (.name 12 p0) (.loc 8 p0) p0) .nil
noncomputable def QQ:ao:=.cons (.ite (.cmp .Lt (.loc 8 p0) (.loc 12 p0) p0) QP .nil p0) .nil
noncomputable def QR:ao:=.cons (.assign (.sub (.loc 7 p0) (.loc 13 p0) p0) (.loc 8 p0) p0) QQ
noncomputable def QS:ao:=.cons (.assign (.name 8 p0) (.call (.glob 124 p0) (.cons (.loc 15 p0) (.cons (.loc 14 p0) .nil)) p0) p0) QR
noncomputable def QT:ao:=.cons (.assign (.name 15 p0) (.bin .Add (.call (.glob 124 p0) (.cons (.loc 8 p0) (.cons (.loc 11 p0) .nil)) p0) (.glob 98 p0) p0) p0) QS
noncomputable def QU:ao:=.cons (.assign (.name 11 p0) (.sub (.loc 7 p0) (.loc 13 p0) p0) p0) QT
noncomputable def LR:ao:=.cons (.assign (.name 14 p0) (.bin .Add (.loc 11 p0) (.call (.glob 102 p0) (.cons (.loc 10 p0) (.cons (.sub (.loc 2 p0) (.loc 13 p0) p0) .nil)) p0) p0) p0) QU
noncomputable def LS:ao:=.cons (.fo (.name 13 p0) (.call (.glob 122 p0) (.cons (.call (.glob 121 p0) (.cons (.loc 2 p0) .nil) p0) .nil) p0) LR .nil p0) QO
noncomputable def LU:ao:=.cons (.assign (.name 12 p0) (.int 9223372036854775807 p0) p0) LS
noncomputable def LV:ao:=.cons (.assign2 (.name 11 p0) (.name 8 p0) (.bin .Mult (.loc 9 p0) (.glob 98 p0) p0) p0) LU
noncomputable def LW:ao:=.cons (.assign (.name 10 p0) (.sub (.loc 3 p0) (.loc 9 p0) p0) p0) LV
noncomputable def Fl:ao:=.cons (.fo (.name 9 p0) (.call (.glob 122 p0) (.cons (.call (.glob 121 p0) (.cons (.loc 3 p0) .nil) p0) .nil) p0) LW .nil p0) QM
noncomputable def LX:ao:=.cons (.assign (.name 8 p0) (.int 0 p0) p0) Fl
noncomputable def LY:ao:=.cons (.assign (.name 7 p0) (.call (.glob 123 p0) (.cons (.call (.glob 122 p0) (.cons (.glob 98 p0) (.cons (.bin .Mult (.glob 98 p0) (.bin .Add (.call (.glob 121 p0) (.cons (.loc 2 p0) .nil) p0) (.int 1 p0) p0) p0) (.cons (.glob 98 p0) .nil))) p0) .nil) p0) p0) LX
noncomputable def LZ:ao:=.cons (.ret (.bin .Add (.loc 4 p0) (.int 1 p0) p0) p0) .nil
noncomputable def Fm:ao:=.cons (.ite (.cmp .Gt (.bin .Mult (.bin .Sub (.call (.glob 121 p0) (.cons (.loc 3 p0) .nil) p0) (.call (.glob 121 p0) (.cons (.loc 2 p0) .nil) p0) p0) (.glob 98 p0) p0) (.loc 4 p0) p0) LZ .nil p0) LY
noncomputable def L0:ao:=.cons (.assign (.tup [(2,p0),(3,p0)] 0 p0) (.tup (.cons (.loc 3 p0) (.cons (.loc 2 p0) .nil)) 0 p0) p0) .nil
noncomputable def L1:ao:=.cons (.ite (.cmp .Lt (.call (.glob 121 p0) (.cons (.loc 3 p0) .nil) p0) (.call (.glob 121 p0) (.cons (.loc 2 p0) .nil) p0) p0) L0 .nil p0) Fm
noncomputable def Fn:ao:=.cons (.ret (.bin .Add (.loc 4 p0) (.int 1 p0) p0) p0) .nil
noncomputable def L2:ao:=.cons (.ite (.bop .Or (.cons (.cmp .Gt (.call (.glob 121 p0) (.cons (.loc 2 p0) .nil) p0) (.glob 99 p0) p0) (.cons (.cmp .Gt (.call (.glob 121 p0) (.cons (.loc 3 p0) .nil) p0) (.glob 99 p0) p0) .nil)) p0) Fn .nil p0) L1
noncomputable def Fo:ao:=.cons (.ret (.bin .Mult (.glob 98 p0) (.bin .Add (.call (.glob 121 p0) (.cons (.loc 2 p0) .nil) p0) (.call (.glob 121 p0) (.cons (.loc 3 p0) .nil) p0) p0) p0) p0) .nil
noncomputable def Fp:ao:=.cons (.ite (.bop .Or (.cons (.un .Not (.loc 2 p0) p0) (.cons (.un .Not (.loc 3 p0) p0) .nil)) p0) Fo .nil p0) L2
noncomputable def L3:ao:=.cons (.assign (.name 3 p0) (.slice (.loc 3 p0) .absent (.bop .Or (.cons (.loc 6 p0) (.cons (.none p0) .nil)) p0) .absent p0 p0) p0) Fp
noncomputable def zZ:ao:=.cons (.assign (.name 2 p0) (.slice (.loc 2 p0) .absent (.bop .Or (.cons (.loc 6 p0) (.cons (.none p0) .nil)) p0) .absent p0 p0) p0) L3
noncomputable def L4:ao:=.cons (.aug 6 p0 .Sub (.int 1 p0) p0) .nil
noncomputable def Fq:ao:=.cons (.whl (.bop .And (.cons (.slice (.loc 2 p0) .absent (.bop .Or (.cons (.loc 6 p0) (.cons (.none p0) .nil)) p0) .absent p0 p0) (.cons (.slice (.loc 3 p0) .absent (.bop .Or (.cons (.loc 6 p0) (.cons (.none p0) .nil)) p0) .absent p0 p0) (.cons (.cmp .Eq (.sub (.loc 2 p0) (.bin .Sub (.loc 6 p0) (.int 1 p0) p0) p0) (.sub (.loc 3 p0) (.bin .Sub (.loc 6 p0) (.int 1 p0) p0) p0) p0) .nil))) p0) L4 .nil p0) zZ
noncomputable def L6:ao:=.cons (.assign (.name 6 p0) (.int 0 p0) p0) Fq
noncomputable def L7:ao:=.cons (.assign (.name 3 p0) (.slice (.loc 3 p0) (.loc 5 p0) .absent .absent p0 p0) p0) L6
noncomputable def z0:ao:=.cons (.assign (.name 2 p0) (.slice (.loc 2 p0) (.loc 5 p0) .absent .absent p0 p0) p0) L7
noncomputable def L8:ao:=.cons (.aug 5 p0 .Add (.int 1 p0) p0) .nil
noncomputable def Fs:ao:=.cons (.whl (.bop .And (.cons (.slice (.loc 2 p0) (.loc 5 p0) .absent .absent p0 p0) (.cons (.slice (.loc 3 p0) (.loc 5 p0) .absent .absent p0 p0) (.cons (.cmp .Eq (.sub (.loc 2 p0) (.loc 5 p0) p0) (.sub (.loc 3 p0) (.loc 5 p0) p0) p0) .nil))) p0) L8 .nil p0) z0
noncomputable def L9:ao:=.cons (.assign (.name 5 p0) (.int 0 p0) p0) Fs
noncomputable def Ma:ao:=.cons (.ret (.int 0 p0) p0) .nil
noncomputable def Mb:ao:=.cons (.ite (.cmp .Eq (.loc 2 p0) (.loc 3 p0) p0) Ma .nil p0) L9
noncomputable def hG:ao:=Mb
theorem fU:(aQ "_levenshtein_distance").er=hG:=by kernel_rfl
noncomputable def QV:ao:=.cons (.ret (.tup (.cons (.bin .BitOr (.bin .LShift (.loc 22 p0) (.loc 18 p0) p0) (.loc 24 p0) p0) (.cons (.loc 23 p0) .nil)) 0 p0) p0) .nil
noncomputable def QW:ao:=.cons (.aug 23 p0 .RShift (.int 1 p0) p0) .nil
noncomputable def QX:ao:=.cons (.ite (.loc 17 p0) QW .nil p0) QV
noncomputable def QY:ao:=.cons (.assign (.tup [(24,p0),(23,p0)] 0 p0) (.call (.glob 105 p0) (.cons (.loc 23 p0) (.cons (.bin .BitAnd (.loc 2 p0) (.loc 19 p0) p0) (.cons (.loc 3 p0) (.cons (.loc 20 p0) (.cons (.loc 21 p0) (.cons (.loc 18 p0) .nil)))))) p0) p0) QX
noncomputable def QZ:ao:=.cons (.assign (.tup [(22,p0),(23,p0)] 0 p0) (.call (.glob 105 p0) (.cons (.bin .RShift (.loc 2 p0) (.loc 16 p0) p0) (.cons (.bin .BitAnd (.bin .RShift (.loc 2 p0) (.loc 18 p0) p0) (.loc 19 p0) p0) (.cons (.loc 3 p0) (.cons (.loc 20 p0) (.cons (.loc 21 p0) (.cons (.loc 18 p0) .nil)))))) p0) p0) QY
noncomputable def Q0:ao:=.cons (.assign (.tup [(20,p0),(21,p0)] 0 p0) (.tup (.cons (.bin .RShift (.loc 3 p0) (.loc 18 p0) p0) (.cons (.bin .BitAnd (.loc 3 p0) (.loc 19 p0) p0) .nil)) 0 p0) p0) QZ
noncomputable def Q1:ao:=.cons (.assign (.name 19 p0) (.bin .Sub (.bin .LShift (.int 1 p0) (.loc 18 p0) p0) (.int 1 p0) p0) p0) Q0
noncomputable def Q2:ao:=.cons (.assign (.name 18 p0) (.bin .RShift (.loc 16 p0) (.int 1 p0) p0) p0) Q1
noncomputable def Q3:ao:=.cons (.aug 16 p0 .Add (.int 1 p0) p0) .nil
noncomputable def Q4:ao:=.cons (.aug 3 p0 .LShift (.int 1 p0) p0) Q3
noncomputable def Mc:ao:=.cons (.aug 2 p0 .LShift (.int 1 p0) p0) Q4
noncomputable def Md:ao:=.cons (.ite (.loc 17 p0) Mc .nil p0) Q2
noncomputable def Me:ao:=.cons (.assign (.name 17 p0) (.bin .BitAnd (.loc 16 p0) (.int 1 p0) p0) p0) Md
noncomputable def Mf:ao:=.cons (.ret (.call (.glob 134 p0) (.cons (.loc 2 p0) (.cons (.loc 3 p0) .nil)) p0) p0) .nil
noncomputable def Mg:ao:=.cons (.ite (.cmp .LtE (.bin .Sub (.meth (.loc 2 p0) .bit_length p0 .nil p0) (.loc 16 p0) p0) (.glob 100 p0) p0) Mf .nil p0) Me
noncomputable def x8:ao:=Mg
theorem qN:(aQ "_div2n1n").er=x8:=by kernel_rfl
noncomputable def Q5:ao:=.cons (.ret (.cel 28 p0) p0) .nil
noncomputable def Q6:ao:=.cons (.expr (.call (.cel 29 p0) (.cons (.loc 2 p0) (.cons (.int 0 p0) (.cons (.call (.glob 121 p0) (.cons (.cel 28 p0) .nil) p0) .nil))) p0) p0) .nil
noncomputable def Mh:ao:=.cons (.ite (.loc 2 p0) Q6 .nil p0) Q5
noncomputable def Q7:ao:=.cons (.ext 1 (cJ (aQ "_int2digits")).1 (cJ (aQ "_int2digits")).2) Mh
noncomputable def Q8:ao:=.cons (.assign (.cel 28 p0) (.bin .Mult (.list (.cons (.int 0 p0) .nil) p0) (.bin .FloorDiv (.bin .Sub (.bin .Add (.meth (.loc 2 p0) .bit_length p0 .nil p0) (.cel 16 p0) p0) (.int 1 p0) p0) (.cel 16 p0) p0) p0) p0) Q7
noncomputable def kg:ao:=Q8
theorem my:(aQ "_int2digits").er=kg:=by kernel_rfl
noncomputable def Mi:ao:=.cons (.ret (.ite (.cel 37 p0) (.call (.cel 29 p0) (.cons (.int 0 p0) (.cons (.call (.glob 121 p0) (.cons (.cel 37 p0) .nil) p0) .nil)) p0) (.int 0 p0) p0) p0) .nil
noncomputable def Q9:ao:=.cons (.ext 1 (cJ (aQ "_digits2int")).1 (cJ (aQ "_digits2int")).2) Mi
noncomputable def kh:ao:=Q9
theorem mz:(aQ "_digits2int").er=kh:=by kernel_rfl
noncomputable def Ra:ao:=.cons (.ret (.tup (.cons (.loc 27 p0) (.cons (.loc 23 p0) .nil)) 0 p0) p0) .nil
noncomputable def Rb:ao:=.cons (.assign (.name 27 p0) (.call (.glob 107 p0) (.cons (.loc 38 p0) (.cons (.loc 16 p0) .nil)) p0) p0) Ra
noncomputable def Rc:ao:=.cons (.expr (.meth (.loc 38 p0) .reverse p0 .nil p0) p0) Rb
noncomputable def Rd:ao:=.cons (.expr (.meth (.loc 38 p0) .append p0 (.cons (.loc 40 p0) .nil) p0) p0) .nil
noncomputable def Rf:ao:=.cons (.assign (.tup [(40,p0),(23,p0)] 0 p0) (.call (.glob 104 p0) (.cons (.bin .Add (.bin .LShift (.loc 23 p0) (.loc 16 p0) p0) (.loc 39 p0) p0) (.cons (.loc 3 p0) (.cons (.loc 16 p0) .nil))) p0) p0) Rd
noncomputable def Rg:ao:=.cons (.foRev (.name 39 p0) 135 p0 (.loc 28 p0) p0 Rf .nil p0) Rc
noncomputable def Rh:ao:=.cons (.assign (.name 38 p0) (.list .nil p0) p0) Rg
noncomputable def Ri:ao:=.cons (.assign (.name 23 p0) (.int 0 p0) p0) Rh
noncomputable def Rj:ao:=.cons (.assign (.name 28 p0) (.call (.glob 106 p0) (.cons (.loc 2 p0) (.cons (.loc 16 p0) .nil)) p0) p0) Ri
noncomputable def Rk:ao:=.cons (.assign (.name 16 p0) (.meth (.loc 3 p0) .bit_length p0 .nil p0) p0) Rj
noncomputable def qO:ao:=Rk
theorem mA:(aQ "_divmod_pos").er=qO:=by kernel_rfl
noncomputable def Rl:ao:=.cons (.ext 1 (cJ (aQ "int_divmod")).1 (cJ (aQ "int_divmod")).2) .nil
noncomputable def Rn:ao:=.cons (.ret (.tup (.cons (.loc 27 p0) (.cons (.un .USub (.loc 23 p0) p0) .nil)) 0 p0) p0) .nil
noncomputable def Ro:ao:=.cons (.assign (.tup [(27,p0),(23,p0)] 0 p0) (.call (.glob 109 p0) (.cons (.un .USub (.loc 2 p0) p0) (.cons (.un .USub (.loc 3 p0) p0) .nil)) p0) p0) Rn
noncomputable def Rp:ao:=.cons (.ret (.tup (.cons (.un .Invert (.loc 27 p0) p0) (.cons (.bin .Add (.loc 3 p0) (.un .Invert (.loc 23 p0) p0) p0) .nil)) 0 p0) p0) .nil
noncomputable def Rq:ao:=.cons (.assign (.tup [(27,p0),(23,p0)] 0 p0) (.call (.glob 109 p0) (.cons (.un .Invert (.loc 2 p0) p0) (.cons (.loc 3 p0) .nil)) p0) p0) Rp
noncomputable def Rr:ao:=.cons (.ret (.call (.glob 108 p0) (.cons (.loc 2 p0) (.cons (.loc 3 p0) .nil)) p0) p0) .nil
noncomputable def Rs:ao:=.cons (.ite (.cmp .Lt (.loc 2 p0) (.int 0 p0) p0) Rq Rr p0) .nil
noncomputable def Rt:ao:=.cons (.ite (.cmp .Lt (.loc 3 p0) (.int 0 p0) p0) Ro Rs p0) .nil
noncomputable def Ru:ao:=.cons (.ite (.cmp .Eq (.loc 3 p0) (.int 0 p0) p0) Rl Rt p0) .nil
noncomputable def si:ao:=Ru
theorem iR:(aQ "int_divmod").er=si:=rfl
noncomputable def Mj:ao:=.cons (.ret (.meth (.str (Str.ofString ", ") p0) .join p0 (.cons (.loc 42 p0) .nil) p0) p0) .nil
noncomputable def Rv:ao:=.cons (.brk p0) .nil
noncomputable def Rw:ao:=.cons (.ite (.un .Not (.loc 41 p0) p0) Rv .nil p0) .nil
noncomputable def Rx:ao:=.cons (.aug 41 p0 .BitXor (.loc 44 p0) p0) Rw
noncomputable def Ry:ao:=.cons (.expr (.meth (.loc 42 p0) .append p0 (.cons (.meth (.glob 101 p0) .get p0 (.cons (.loc 44 p0) (.cons (.call (.glob 128 p0) (.cons (.loc 44 p0) .nil) p0) .nil)) p0) .nil) p0) p0) Rx
noncomputable def Rz:ao:=.cons (.ite (.bin .BitAnd (.loc 41 p0) (.loc 44 p0) p0) Ry .nil p0) .nil
noncomputable def RA:ao:=.cons (.assign (.name 44 p0) (.bin .LShift (.int 1 p0) (.loc 43 p0) p0) p0) Rz
noncomputable def RB:ao:=.cons (.expr (.meth (.loc 42 p0) .append p0 (.cons (.call (.glob 128 p0) (.cons (.loc 41 p0) .nil) p0) .nil) p0) p0) .nil
noncomputable def RC:ao:=.cons (.fo (.name 43 p0) (.call (.glob 122 p0) (.cons (.int 32 p0) .nil) p0) RA RB p0) Mj
noncomputable def RD:ao:=.cons (.assign (.name 42 p0) (.list .nil p0) p0) RC
noncomputable def oS:ao:=RD
theorem k6:(aQ "pretty_flags").er=oS:=rfl
noncomputable def RF:ao:=.cons (.ret (.loc 46 p0) p0) .nil
noncomputable def RG:ao:=.cons (.aug 46 p0 .BitOr (.bin .BitAnd (.loc 3 p0) (.int 63 p0) p0) p0) .nil
noncomputable def RH:ao:=.cons (.assign (.name 3 p0) (.call (.glob 133 p0) (.cons (.loc 45 p0) .nil) p0) p0) RG
noncomputable def Ia:ao:=.cons (.aug 46 p0 .LShift (.int 6 p0) p0) RH
noncomputable def RI:ao:=.cons (.whl (.bin .BitAnd (.loc 3 p0) (.int 64 p0) p0) Ia .nil p0) RF
noncomputable def RJ:ao:=.cons (.assign (.name 46 p0) (.bin .BitAnd (.loc 3 p0) (.int 63 p0) p0) p0) RI
noncomputable def RK:ao:=.cons (.assign (.name 3 p0) (.call (.glob 133 p0) (.cons (.loc 45 p0) .nil) p0) p0) RJ
noncomputable def iS:ao:=RK
theorem f5:(aQ "_parse_varint").er=iS:=by kernel_rfl
noncomputable def RL:ao:=.cons (.ret (.bin .Add (.loc 42 p0) (.list (.cons (.str (Str.ofString "0x400") p0) (.cons (.str (Str.ofString "0x800") p0) .nil)) p0) p0) p0) .nil
noncomputable def RM:ao:=.cons (.assign (.name 42 p0) (.bin .Add (.loc 42 p0) (.list (.cons (.str (Str.ofString "GENERATOR") p0) (.cons (.str (Str.ofString "NOFREE") p0) (.cons (.str (Str.ofString "COROUTINE") p0) (.cons (.str (Str.ofString "ITERABLE_COROUTINE") p0) (.cons (.str (Str.ofString "ASYNC_GENERATOR") p0) .nil))))) p0) p0) p0) RL
noncomputable def RN:ao:=.cons (.assign (.name 42 p0) (.list (.cons (.str (Str.ofString "OPTIMIZED") p0) (.cons (.str (Str.ofString "NEWLOCALS") p0) (.cons (.str (Str.ofString "VARARGS") p0) (.cons (.str (Str.ofString "VARKEYWORDS") p0) (.cons (.str (Str.ofString "NESTED") p0) .nil))))) p0) p0) RM
noncomputable def sj:ao:=RN
theorem nM:(aQ "_law_names").er=sj:=by kernel_rfl
noncomputable def RO:ao:=.cons (.ret (.compEn (.bin .Add (.loc 52 p0) (.bin .Mult (.int 128 p0) (.bin .Mod (.loc 53 p0) (.int 2 p0) p0) p0) p0) (.tup [(53,p0),(52,p0)] 0 p0) 131 p0 (.loc 48 p0) p0 [] kZ p0) p0) .nil
noncomputable def RP:ao:=.cons (.expr (.meth (.loc 48 p0) .extend p0 (.cons (.bin .Add (.comp (.bin .Add (.int 64 p0) (.loc 51 p0) p0) (.name 51 p0) (.slice (.loc 7 p0) .absent (.un .USub (.int 1 p0) p0) .absent p0 p0) .nil [] kZ p0) (.slice (.loc 7 p0) (.un .USub (.int 1 p0) p0) .absent .absent p0 p0) p0) .nil) p0) p0) .nil
noncomputable def RQ:ao:=.cons (.assign (.name 7 p0) (.comp (.bin .Mod (.bin .FloorDiv (.cel 49 p0) (.bin .Pow (.int 64 p0) (.loc 50 p0) p0) p0) (.int 64 p0) p0) (.name 50 p0) (.tup (.cons (.int 2 p0) (.cons (.int 1 p0) (.cons (.int 0 p0) .nil))) 0 p0) (.cons (.bop .Or (.cons (.cmp .Eq (.loc 50 p0) (.int 0 p0) p0) (.cons (.cmp .GtE (.cel 49 p0) (.bin .Pow (.int 64 p0) (.loc 50 p0) p0) p0) .nil)) p0) .nil) [49] kZ p0) p0) RP
noncomputable def RT:ao:=.cons (.fo (.cel 49 p0) (.loc 47 p0) RQ .nil p0) RO
noncomputable def RU:ao:=.cons (.assign (.name 48 p0) (.list .nil p0) p0) RT
noncomputable def nN:ao:=RU
theorem oU:(aQ "_law_tape").er=nN:=by kernel_rfl
noncomputable def RW:ao:=.cons (.ret (.none p0) p0) .nil
noncomputable def RX:ao:=.cons (.ext 1 (cJ (aQ "_law_read")).1 (cJ (aQ "_law_read")).2) RW
noncomputable def RY:ao:=.cons (.assign (.name 55 p0) (.call (.glob 132 p0) (.cons (.loc 48 p0) .nil) p0) p0) RX
noncomputable def RZ:ao:=.cons (.assign (.name 54 p0) (.list .nil p0) p0) RY
noncomputable def uy:ao:=RZ
theorem oV:(aQ "_law_read").er=uy:=by kernel_rfl
noncomputable def R1:ao:=.cons (.ret (.call (.glob 129 p0) (.cons (.loc 59 p0) .nil) p0) p0) .nil
noncomputable def R4:ao:=.cons (.assign (.tup [(56,p0),(57,p0)] 0 p0) (.tup (.cons (.loc 35 p0) (.cons (.sub (.loc 58 p0) (.loc 36 p0) p0) .nil)) 0 p0) p0) .nil
noncomputable def R5:ao:=.cons (.expr (.meth (.loc 59 p0) .append p0 (.cons (.loc 36 p0) .nil) p0) p0) R4
noncomputable def R6:ao:=.cons (.assign (.tup [(35,p0),(36,p0)] 0 p0) (.tup (.cons (.call (.glob 124 p0) (.cons (.loc 56 p0) (.cons (.loc 57 p0) .nil)) p0) (.cons (.call (.glob 125 p0) (.cons (.loc 56 p0) (.cons (.loc 57 p0) .nil)) p0) .nil)) 0 p0) p0) R5
noncomputable def R7:ao:=.cons (.whl (.cmp .NotEq (.loc 56 p0) (.loc 57 p0) p0) R6 .nil p0) R1
noncomputable def R8:ao:=.cons (.assign (.name 59 p0) (.list .nil p0) p0) R7
noncomputable def x9:ao:=R8
theorem qP:(aQ "_law_way").er=x9:=by kernel_rfl
noncomputable def R9:ao:=.cons (.ret (.sub (.list (.cons (.loc 62 p0) (.cons (.loc 63 p0) (.cons (.bin .Add (.loc 62 p0) (.loc 63 p0) p0) (.cons (.bin .Mult (.str (Str.ofString "x") p0) (.loc 61 p0) p0) (.cons (.bin .Mult (.loc 64 p0) (.loc 61 p0) p0) .nil))))) p0) (.loc 60 p0) p0) p0) .nil
noncomputable def Sa:ao:=.cons (.assign (.name 64 p0) (.sub (.list (.cons (.str (Str.ofString "xy") p0) (.cons (.str (Str.ofString "yx") p0) .nil)) p0) (.bin .FloorDiv (.loc 50 p0) (.int 3 p0) p0) p0) p0) R9
noncomputable def Sb:ao:=.cons (.assign (.name 63 p0) (.sub (.str (Str.ofString "mnopstuv") p0) (.bin .Add (.bin .Sub (.loc 50 p0) (.int 1 p0) p0) (.bin .Mult (.int 4 p0) (.loc 61 p0) p0) p0) p0) p0) Sa
noncomputable def Sc:ao:=.cons (.assign (.name 62 p0) (.sub (.str (Str.ofString "AaBbCcDd") p0) (.bin .Sub (.bin .Sub (.bin .Mult (.int 2 p0) (.loc 50 p0) p0) (.int 1 p0) p0) (.loc 61 p0) p0) p0) p0) Sb
noncomputable def sk:ao:=Sc
theorem nO:(aQ "_law_piece").er=sk:=by kernel_rfl
noncomputable def Sd:ao:=.cons (.ret (.ite (.call (.glob 130 p0) (.cons (.loc 54 p0) (.cons (.glob 136 p0) .nil)) p0) (.comp (.call (.glob 127 p0) (.cons (.loc 68 p0) .nil) p0) (.name 68 p0) (.loc 54 p0) .nil [] kZ p0) (.none p0) p0) p0) .nil
noncomputable def Se:ao:=.cons (.ext 1 (cJ (aQ "_law_split")).1 (cJ (aQ "_law_split")).2) Sd
noncomputable def sn:ao:=Se
theorem nP:(aQ "_law_split").er=sn:=by kernel_rfl
noncomputable def Sf:ao:=.cons (.ret (.loc 76 p0) p0) .nil
noncomputable def Sg:ao:=.cons (.assign (.sub (.sub (.loc 76 p0) (.loc 77 p0) p0) (.loc 43 p0) p0) (.bin .Pow (.loc 27 p0) (.loc 54 p0) p0) p0) .nil
noncomputable def C9:ao:=.cons (.assign (.sub (.sub (.loc 76 p0) (.loc 43 p0) p0) (.loc 77 p0) p0) (.bin .Pow (.loc 27 p0) (.loc 54 p0) p0) p0) Sg
noncomputable def Mk:ao:=.cons (.ret (.none p0) p0) .nil
noncomputable def Ib:ao:=.cons (.ite (.cmp .NotEq (.list (.cons (.call (.glob 127 p0) (.cons (.loc 54 p0) .nil) p0) (.cons (.call (.glob 127 p0) (.cons (.loc 83 p0) .nil) p0) (.cons (.call (.glob 127 p0) (.cons (.loc 86 p0) .nil) p0) .nil))) p0) (.list (.cons (.call (.glob 127 p0) (.cons (.loc 79 p0) .nil) p0) (.cons (.call (.glob 127 p0) (.cons (.loc 80 p0) .nil) p0) (.cons (.ite (.cmp .NotEq (.loc 59 p0) (.list .nil p0) p0) (.str (Str.ofString "31") p0) (.str (Str.ofString "0") p0) p0) .nil))) p0) p0) Mk .nil p0) C9
noncomputable def Sh:ao:=.cons (.assign (.name 86 p0) (.call (.glob 103 p0) (.cons (.sub (.loc 84 p0) (.int 0 p0) p0) (.cons (.sub (.loc 84 p0) (.int 1 p0) p0) (.cons (.int 30 p0) .nil))) p0) p0) Ib
noncomputable def Si:ao:=.cons (.assign (.name 84 p0) (.comp (.bin .Add (.bin .Add (.loc 85 p0) (.bin .Mult (.str (Str.ofString "-") p0) (.int 41 p0) p0) p0) (.loc 85 p0) p0) (.name 85 p0) (.loc 81 p0) .nil [] kZ p0) p0) Sh
noncomputable def Sj:ao:=.cons (.assign (.name 83 p0) (.call (.glob 103 p0) (.cons (.sub (.loc 81 p0) (.bin .Sub (.int 1 p0) (.loc 82 p0) p0) p0) (.cons (.sub (.loc 81 p0) (.loc 82 p0) p0) (.cons (.int 0 p0) .nil))) p0) p0) Si
noncomputable def Sk:ao:=.cons (.assign (.name 54 p0) (.call (.glob 103 p0) (.cons (.sub (.loc 81 p0) (.loc 82 p0) p0) (.cons (.sub (.loc 81 p0) (.bin .Sub (.int 1 p0) (.loc 82 p0) p0) p0) (.cons (.bin .Add (.bin .Sub (.loc 79 p0) (.int 1 p0) p0) (.bin .Mod (.bin .Add (.bin .Add (.loc 71 p0) (.loc 43 p0) p0) (.loc 77 p0) p0) (.int 3 p0) p0) p0) .nil))) p0) p0) Sj
noncomputable def Sl:ao:=.cons (.assign (.name 82 p0) (.bin .Mod (.bin .Add (.loc 71 p0) (.loc 77 p0) p0) (.int 2 p0) p0) p0) Sk
noncomputable def so:ao:=.cons (.assign (.name 81 p0) (.list (.cons (.sub (.loc 72 p0) (.loc 43 p0) p0) (.cons (.sub (.loc 72 p0) (.loc 77 p0) p0) .nil)) p0) p0) Sl
noncomputable def Ft:ao:=.cons (.assign (.name 80 p0) (.ite (.bop .Or (.cons (.cmp .Eq (.loc 59 p0) (.list .nil p0) p0) (.cons (.bop .And (.cons (.cmp .Eq (.call (.glob 121 p0) (.cons (.loc 59 p0) .nil) p0) (.int 1 p0) p0) (.cons (.cmp .Gt (.sub (.cel 69 p0) (.sub (.loc 59 p0) (.int 0 p0) p0) p0) (.int 2 p0) p0) .nil)) p0) .nil)) p0) (.loc 79 p0) (.int 1 p0) p0) p0) so
noncomputable def Ml:ao:=.cons (.assign (.name 79 p0) (.call (.glob 126 p0) (.cons (.comp (.sub (.cel 70 p0) (.loc 78 p0) p0) (.name 78 p0) (.loc 59 p0) .nil [70] kZ p0) .nil) p0) p0) Ft
noncomputable def Mm:ao:=.cons (.ret (.none p0) p0) .nil
noncomputable def Fu:ao:=.cons (.ite (.cmp .NotEq (.call (.glob 110 p0) (.cons (.call (.glob 126 p0) (.cons (.comp (.bin .Pow (.int 2 p0) (.bin .Add (.bin .Sub (.loc 78 p0) (.int 1 p0) p0) (.cel 34 p0) p0) p0) (.name 78 p0) (.loc 59 p0) .nil [34] kZ p0) .nil) p0) .nil) p0) (.loc 41 p0) p0) Mm .nil p0) Ml
noncomputable def Mo:ao:=.cons (.assign (.name 41 p0) (.ite (.cmp .NotEq (.loc 59 p0) (.list .nil p0) p0) (.meth (.str (Str.ofString ", ") p0) .join p0 (.cons (.comp (.sub (.cel 42 p0) (.bin .Add (.bin .Sub (.loc 78 p0) (.int 1 p0) p0) (.cel 34 p0) p0) p0) (.name 78 p0) (.loc 59 p0) .nil [42,34] kZ p0) .nil) p0) (.str (Str.ofString "0x0") p0) p0) p0) Fu
noncomputable def Fv:ao:=.cons (.assign (.name 59 p0) (.call (.glob 115 p0) (.cons (.loc 43 p0) (.cons (.loc 77 p0) (.cons (.loc 58 p0) .nil))) p0) p0) Mo
noncomputable def Fw:ao:=.cons (.fo (.tup [(43,p0),(77,p0)] 0 p0) (.bin .Add (.list (.cons (.tup (.cons (.int 0 p0) (.cons (.int 0 p0) .nil)) 0 p0) .nil) p0) (.ext 0 eV) p0) Fv .nil p0) Sf
noncomputable def Fx:ao:=.cons (.assign (.name 76 p0) (.comp (.bin .Mult (.list (.cons (.int 1 p0) .nil) p0) (.int 5 p0) p0) (.name 73 p0) (.call (.glob 122 p0) (.cons (.int 5 p0) .nil) p0) .nil [] kZ p0) p0) Fw
noncomputable def Mp:ao:=.cons (.expr (.meth (.loc 72 p0) .append p0 (.cons (.bin .Add (.bin .Add (.bin .Add (.bin .Add (.sub (.loc 75 p0) (.int 0 p0) p0) (.sub (.loc 75 p0) (.int 1 p0) p0) p0) (.str (Str.ofString "1") p0) p0) (.sub (.loc 75 p0) (.int 2 p0) p0) p0) (.sub (.loc 75 p0) (.int 3 p0) p0) p0) .nil) p0) p0) .nil
noncomputable def Mq:ao:=.cons (.assign (.name 75 p0) (.comp (.call (.glob 116 p0) (.cons (.loc 50 p0) (.cons (.sub (.cel 69 p0) (.loc 50 p0) p0) (.cons (.meth (.cel 74 p0) .count p0 (.cons (.loc 50 p0) .nil) p0) .nil))) p0) (.name 50 p0) (.call (.glob 122 p0) (.cons (.int 1 p0) (.cons (.int 5 p0) .nil)) p0) .nil [69,74] kZ p0) p0) Mp
noncomputable def Mr:ao:=.cons (.assign (.cel 74 p0) (.call (.glob 115 p0) (.cons (.loc 73 p0) (.cons (.int 0 p0) (.cons (.loc 58 p0) .nil))) p0) p0) Mq
noncomputable def Fy:ao:=.cons (.fo (.name 73 p0) (.call (.glob 122 p0) (.cons (.int 5 p0) .nil) p0) Mr .nil p0) Fx
noncomputable def Ms:ao:=.cons (.assign (.name 72 p0) (.list .nil p0) p0) Fy
noncomputable def Mu:ao:=.cons (.assign (.cel 42 p0) (.call (.glob 112 p0) .nil p0) p0) Ms
noncomputable def lY:ao:=Mu
theorem nQ:(aQ "_law_table").er=lY:=by kernel_rfl
noncomputable def Sm:ao:=.cons (.ret (.loc 79 p0) p0) .nil
noncomputable def Sn:ao:=.cons (.assign (.name 79 p0) (.bin .Mult (.loc 79 p0) (.bin .Sub (.int 1 p0) (.bin .Pow (.loc 27 p0) (.bin .Mult (.int 2 p0) (.sub (.cel 70 p0) (.loc 78 p0) p0) p0) p0) p0) p0) p0) .nil
noncomputable def Mv:ao:=.cons (.fo (.name 78 p0) (.call (.glob 122 p0) (.cons (.int 1 p0) (.cons (.bin .Add (.loc 50 p0) (.int 1 p0) p0) .nil)) p0) Sn .nil p0) Sm
noncomputable def So:ao:=.cons (.assign (.name 79 p0) (.bin .Sub (.bin .Pow (.loc 27 p0) (.call (.glob 126 p0) (.cons (.comp (.sub (.cel 70 p0) (.loc 78 p0) p0) (.name 78 p0) (.call (.glob 115 p0) (.cons (.loc 43 p0) (.cons (.loc 77 p0) (.cons (.loc 58 p0) .nil))) p0) .nil [70] kZ p0) .nil) p0) p0) (.bin .Pow (.loc 27 p0) (.loc 88 p0) p0) p0) p0) Mv
noncomputable def Mw:ao:=.cons (.assign (.name 88 p0) (.bin .Add (.loc 88 p0) (.call (.glob 126 p0) (.cons (.comp (.sub (.cel 70 p0) (.loc 78 p0) p0) (.name 78 p0) (.call (.glob 115 p0) (.cons (.sub (.loc 87 p0) (.int 0 p0) p0) (.cons (.sub (.loc 87 p0) (.int 1 p0) p0) (.cons (.loc 58 p0) .nil))) p0) .nil [70] kZ p0) .nil) p0) p0) p0) So
noncomputable def Sp:ao:=.cons (.assign (.sub (.loc 87 p0) (.loc 82 p0) p0) (.sub (.loc 58 p0) (.sub (.loc 87 p0) (.loc 82 p0) p0) p0) p0) .nil
noncomputable def Sq:ao:=.cons (.assign (.name 88 p0) (.bin .Add (.loc 88 p0) (.sub (.cel 70 p0) (.sub (.loc 87 p0) (.loc 82 p0) p0) p0) p0) p0) Sp
noncomputable def Mx:ao:=.cons (.whl (.cmp .Gt (.sub (.loc 87 p0) (.loc 82 p0) p0) (.loc 50 p0) p0) Sq .nil p0) .nil
noncomputable def Sr:ao:=.cons (.fo (.name 82 p0) (.call (.glob 122 p0) (.cons (.int 2 p0) .nil) p0) Mx .nil p0) Mw
noncomputable def Ss:ao:=.cons (.assign (.name 88 p0) (.int 0 p0) p0) Sr
noncomputable def My:ao:=.cons (.assign (.name 87 p0) (.list (.cons (.loc 43 p0) (.cons (.loc 77 p0) .nil)) p0) p0) Ss
noncomputable def pW:ao:=My
theorem qQ:(aQ "_law_due").er=pW:=by kernel_rfl
noncomputable def Su:ao:=.cons (.ret (.bool true p0) p0) .nil
noncomputable def Sv:ao:=.cons (.assign (.name 76 p0) (.loc 90 p0) p0) .nil
noncomputable def Mz:ao:=.cons (.assign (.name 66 p0) (.sub (.sub (.loc 76 p0) (.loc 50 p0) p0) (.loc 50 p0) p0) p0) Sv
noncomputable def Sw:ao:=.cons (.assign (.sub (.sub (.loc 90 p0) (.loc 77 p0) p0) (.loc 43 p0) p0) (.loc 53 p0) p0) .nil
noncomputable def Db:ao:=.cons (.assign (.sub (.sub (.loc 90 p0) (.loc 43 p0) p0) (.loc 77 p0) p0) (.loc 53 p0) p0) Sw
noncomputable def MA:ao:=.cons (.assign (.name 53 p0) (.loc 79 p0) p0) .nil
noncomputable def Sx:ao:=.cons (.ret (.bool false p0) p0) .nil
noncomputable def Sy:ao:=.cons (.ite (.cmp .NotEq (.call (.glob 117 p0) (.cons (.bin .Add (.loc 53 p0) (.loc 91 p0) p0) (.cons (.loc 66 p0) .nil)) p0) (.ite (.cmp .NotEq (.loc 66 p0) (.int 0 p0) p0) (.list (.cons (.call (.glob 127 p0) (.cons (.loc 79 p0) .nil) p0) (.cons (.call (.glob 127 p0) (.cons (.loc 91 p0) .nil) p0) .nil)) p0) (.str (Str.ofString "none") p0) p0) p0) Sx .nil p0) MA
noncomputable def MB:ao:=.cons (.assign (.name 79 p0) (.call (.glob 119 p0) (.cons (.loc 43 p0) (.cons (.loc 77 p0) (.cons (.loc 50 p0) (.cons (.loc 58 p0) (.cons (.loc 70 p0) (.cons (.loc 27 p0) .nil)))))) p0) p0) Sy
noncomputable def Sz:ao:=.cons (.assign (.name 91 p0) (.ite (.cmp .NotEq (.loc 66 p0) (.int 0 p0) p0) (.bin .Mod (.loc 89 p0) (.loc 66 p0) p0) (.loc 89 p0) p0) p0) MB
noncomputable def MC:ao:=.cons (.ite (.cmp .Gt (.loc 50 p0) (.int 1 p0) p0) Sz .nil p0) Db
noncomputable def Fz:ao:=.cons (.assign (.name 53 p0) (.bin .Sub (.bin .Mult (.sub (.sub (.loc 76 p0) (.loc 50 p0) p0) (.loc 50 p0) p0) (.sub (.sub (.loc 76 p0) (.loc 43 p0) p0) (.loc 77 p0) p0) p0) (.bin .Mult (.sub (.sub (.loc 76 p0) (.loc 43 p0) p0) (.loc 50 p0) p0) (.sub (.sub (.loc 76 p0) (.loc 50 p0) p0) (.loc 77 p0) p0) p0) p0) p0) MC
noncomputable def FA:ao:=.cons (.fo (.name 77 p0) (.call (.glob 122 p0) (.cons (.bin .Add (.loc 50 p0) (.int 1 p0) p0) (.cons (.bin .Add (.loc 43 p0) (.int 1 p0) p0) .nil)) p0) Fz .nil p0) .nil
noncomputable def FC:ao:=.cons (.fo (.name 43 p0) (.call (.glob 122 p0) (.cons (.bin .Add (.loc 50 p0) (.int 1 p0) p0) (.cons (.int 5 p0) .nil)) p0) FA .nil p0) Mz
noncomputable def MD:ao:=.cons (.assign (.name 90 p0) (.comp (.bin .Mult (.list (.cons (.int 0 p0) .nil) p0) (.int 5 p0) p0) (.name 73 p0) (.call (.glob 122 p0) (.cons (.int 5 p0) .nil) p0) .nil [] kZ p0) p0) FC
noncomputable def MF:ao:=.cons (.fo (.name 50 p0) (.call (.glob 122 p0) (.cons (.int 4 p0) .nil) p0) MD .nil p0) Su
noncomputable def MG:ao:=.cons (.assign (.name 66 p0) (.int 1 p0) p0) MF
noncomputable def mB:ao:=MG
theorem jN:(aQ "_law_taken_out").er=mB:=by kernel_rfl
noncomputable def SD:ao:=.cons (.ret (.call (.glob 120 p0) (.cons (.loc 76 p0) (.cons (.loc 58 p0) (.cons (.loc 70 p0) (.cons (.bin .Sub (.sub (.cel 47 p0) (.int 0 p0) p0) (.int 4 p0) p0) (.cons (.sub (.loc 93 p0) (.int 7 p0) p0) .nil))))) p0) p0) .nil
noncomputable def SF:ao:=.cons (.ret (.bool false p0) p0) .nil
noncomputable def SG:ao:=.cons (.ite (.cmp .Is (.loc 76 p0) (.none p0) p0) SF .nil p0) SD
noncomputable def MH:ao:=.cons (.assign (.name 76 p0) (.call (.glob 118 p0) (.cons (.loc 58 p0) (.cons (.loc 69 p0) (.cons (.loc 70 p0) (.cons (.bin .Mod (.sub (.loc 93 p0) (.int 6 p0) p0) (.int 9 p0) p0) (.cons (.sub (.loc 93 p0) (.int 7 p0) p0) (.cons (.bin .Sub (.sub (.cel 47 p0) (.int 0 p0) p0) (.int 4 p0) p0) .nil)))))) p0) p0) SG
noncomputable def MI:ao:=.cons (.assign (.name 70 p0) (.bin .Add (.list (.cons (.int 0 p0) .nil) p0) (.comp (.sub (.list (.cons (.int 1 p0) (.cons (.int 2 p0) (.cons (.int 3 p0) (.cons (.int 2 p0) (.cons (.int 4 p0) .nil))))) p0) (.loc 60 p0) p0) (.name 60 p0) (.slice (.loc 69 p0) (.int 1 p0) .absent .absent p0 p0) .nil [] kZ p0) p0) p0) MH
noncomputable def MJ:ao:=.cons (.assign (.name 69 p0) (.comp (.ite (.cmp .Eq (.loc 50 p0) (.cel 95 p0) p0) (.bin .Add (.int 3 p0) (.bin .Mod (.bin .FloorDiv (.sub (.cel 47 p0) (.int 5 p0) p0) (.int 4 p0) p0) (.int 2 p0) p0) p0) (.sub (.cel 96 p0) (.loc 50 p0) p0) p0) (.name 50 p0) (.call (.glob 122 p0) (.cons (.int 5 p0) .nil) p0) .nil [47,95,96] kZ p0) p0) MI
noncomputable def MK:ao:=.cons (.assign (.cel 96 p0) (.bin .Add (.list (.cons (.int 0 p0) .nil) p0) (.comp (.bin .Mod (.bin .FloorDiv (.sub (.cel 47 p0) (.loc 50 p0) p0) (.loc 50 p0) p0) (.ite (.cmp .Eq (.loc 50 p0) (.bin .Sub (.int 5 p0) (.cel 95 p0) p0) p0) (.int 4 p0) (.int 3 p0) p0) p0) (.name 50 p0) (.call (.glob 122 p0) (.cons (.int 1 p0) (.cons (.int 5 p0) .nil)) p0) .nil [47,95] kZ p0) p0) p0) MJ
noncomputable def ML:ao:=.cons (.assign (.name 58 p0) (.bin .Add (.list (.cons (.int 0 p0) .nil) p0) (.comp (.bin .Mod (.sub (.cel 47 p0) (.loc 50 p0) p0) (.loc 50 p0) p0) (.name 50 p0) (.call (.glob 122 p0) (.cons (.int 1 p0) (.cons (.int 5 p0) .nil)) p0) .nil [47] kZ p0) p0) p0) MK
noncomputable def MM:ao:=.cons (.assign (.cel 95 p0) (.bin .Add (.int 1 p0) (.bin .Mod (.sub (.cel 47 p0) (.int 5 p0) p0) (.int 4 p0) p0) p0) p0) ML
noncomputable def SH:ao:=.cons (.ret (.bool false p0) p0) .nil
noncomputable def FD:ao:=.cons (.ite (.bop .Or (.cons (.cmp .NotEq (.call (.glob 114 p0) (.cons (.loc 48 p0) .nil) p0) (.loc 94 p0) p0) (.cons (.cmp .NotEq (.call (.glob 114 p0) (.cons (.slice (.loc 48 p0) .absent (.un .USub (.int 1 p0) p0) .absent p0 p0) .nil) p0) (.slice (.loc 94 p0) .absent (.un .USub (.int 1 p0) p0) .absent p0 p0) p0) .nil)) p0) SH .nil p0) MM
noncomputable def FE:ao:=.cons (.assign (.name 48 p0) (.call (.glob 113 p0) (.cons (.cel 47 p0) .nil) p0) p0) FD
noncomputable def FG:ao:=.cons (.assign (.name 94 p0) (.comp (.call (.glob 127 p0) (.cons (.loc 16 p0) .nil) p0) (.name 16 p0) (.cel 47 p0) .nil [] kZ p0) p0) FE
noncomputable def z4:ao:=.cons (.assign (.cel 47 p0) (.bin .Add (.list (.cons (.bin .Mod (.sub (.loc 93 p0) (.int 0 p0) p0) (.int 9 p0) p0) .nil) p0) (.comp (.bin .Mod (.loc 16 p0) (.bin .Pow (.int 64 p0) (.int 3 p0) p0) p0) (.name 16 p0) (.slice (.loc 93 p0) (.int 1 p0) (.int 6 p0) .absent p0 p0) .nil [] kZ p0) p0) p0) FG
noncomputable def FH:ao:=.cons (.assign (.name 93 p0) (.compEn (.bin .Mod (.bin .Add (.loc 16 p0) (.call (.glob 126 p0) (.cons (.slice (.cel 92 p0) (.loc 50 p0) (.int 60 p0) (.int 8 p0) p0 p0) .nil) p0) p0) (.bin .Pow (.int 10 p0) (.int 9 p0) p0) p0) (.tup [(50,p0),(16,p0)] 0 p0) 131 p0 (.list (.cons (.int 7 p0) (.cons (.int 4 p0) (.cons (.int 131 p0) (.cons (.int 9 p0) (.cons (.int 4090 p0) (.cons (.int 155905 p0) (.cons (.int 3 p0) (.cons (.int 5 p0) .nil)))))))) p0) p0 [92] kZ p0) p0) z4
noncomputable def SJ:ao:=FH
theorem Dc:(aQ "law").er=SJ:=rfl
noncomputable def SK:ao:=.cons (.expr (.call (.cel 29 p0) (.cons (.loc 35 p0) (.cons (.loc 33 p0) (.cons (.loc 32 p0) .nil))) p0) p0) .nil
noncomputable def SM:ao:=.cons (.expr (.call (.cel 29 p0) (.cons (.loc 36 p0) (.cons (.loc 31 p0) (.cons (.loc 33 p0) .nil))) p0) p0) SK
noncomputable def SN:ao:=.cons (.assign (.name 36 p0) (.bin .BitXor (.loc 30 p0) (.bin .LShift (.loc 35 p0) (.loc 34 p0) p0) p0) p0) SM
noncomputable def SO:ao:=.cons (.assign (.name 35 p0) (.bin .RShift (.loc 30 p0) (.loc 34 p0) p0) p0) SN
noncomputable def SP:ao:=.cons (.assign (.name 34 p0) (.bin .Mult (.bin .Sub (.loc 33 p0) (.loc 31 p0) p0) (.cel 16 p0) p0) p0) SO
noncomputable def SQ:ao:=.cons (.assign (.name 33 p0) (.bin .RShift (.bin .Add (.loc 31 p0) (.loc 32 p0) p0) (.int 1 p0) p0) p0) SP
noncomputable def SR:ao:=.cons (.ret0 p0) .nil
noncomputable def SU:ao:=.cons (.assign (.sub (.cel 28 p0) (.loc 31 p0) p0) (.loc 30 p0) p0) SR
noncomputable def SV:ao:=.cons (.ite (.cmp .Eq (.bin .Add (.loc 31 p0) (.int 1 p0) p0) (.loc 32 p0) p0) SU .nil p0) SQ
noncomputable def qR:ao:=SV
theorem mC:(oR "_int2digits").er=qR:=by kernel_rfl
noncomputable def SX:ao:=.cons (.ret (.bin .Add (.bin .LShift (.call (.cel 29 p0) (.cons (.loc 33 p0) (.cons (.loc 32 p0) .nil)) p0) (.loc 34 p0) p0) (.call (.cel 29 p0) (.cons (.loc 31 p0) (.cons (.loc 33 p0) .nil)) p0) p0) p0) .nil
noncomputable def SY:ao:=.cons (.assign (.name 34 p0) (.bin .Mult (.bin .Sub (.loc 33 p0) (.loc 31 p0) p0) (.cel 16 p0) p0) p0) SX
noncomputable def S0:ao:=.cons (.assign (.name 33 p0) (.bin .RShift (.bin .Add (.loc 31 p0) (.loc 32 p0) p0) (.int 1 p0) p0) p0) SY
noncomputable def S1:ao:=.cons (.ret (.sub (.cel 37 p0) (.loc 31 p0) p0) p0) .nil
noncomputable def S2:ao:=.cons (.ite (.cmp .Eq (.bin .Add (.loc 31 p0) (.int 1 p0) p0) (.loc 32 p0) p0) S1 .nil p0) S0
noncomputable def qS:ao:=S2
theorem mD:(oR "_digits2int").er=qS:=by kernel_rfl
noncomputable def gC:Loc:=[(97,.int 1),(98,.int 2),(99,.int 40),(100,.int 4000),(137,.val (.type "ZeroDivisionError")),(138,.val (.type "StopIteration")),(121,.fn .len),(122,.fn .range),(123,.fn .list),(124,.fn .min),(125,.fn .max),(126,.fn .sum),(127,.fn .str),(128,.fn .hex),(129,.fn .sorted),(130,.fn .isinstance),(132,.fn .iter),(133,.fn .next),(134,.fn .divmod),(136,.fn .tuple)]
noncomputable def z5 (A:Nat->Addr) (x:Nat):Option PV:=bif Nat.ble 101 x&&Nat.ble x 120 then some (.val (.ref (A x))) else gC.get x
structure GG (cx:Cx) (A:Nat->Addr):Prop where
 g:∀ x v,z5 A x=some v->cx.G x=some v
 en:cx.EN 131
 rv:cx.RV 135
theorem GG.of {cx:Cx} {A:Nat->Addr} (h:cx.G=z5 A) (e:cx.EN 131) (r:cx.RV 135):GG cx A:=⟨λx v q=>h▸q,e,r⟩
section
variable {cx:Cx} {A:Nat->Addr} (G:GG cx A)
include G
theorem GG.g127:cx.G 127=some (.fn .str):=G.g 127 _ rfl
theorem GG.g137:cx.G 137=some (.val (.type "ZeroDivisionError")):=G.g 137 _ rfl
theorem GG.g138:cx.G 138=some (.val (.type "StopIteration")):=G.g 138 _ rfl
end
noncomputable def sq:Str:=Str.ofString "_int2digits.<locals>.inner"
noncomputable def sr:Str:=Str.ofString "_digits2int.<locals>.inner"
noncomputable def FJ:Stmt->Pos
 |.FunctionDef _ _ _ _ _ _ _ _ _ p=>p
 |_=>p0
noncomputable def iU:Pos:=FJ (cJ (aQ "_int2digits")).1
noncomputable def iV:Pos:=FJ (cJ (aQ "_digits2int")).1
noncomputable def TabAt (hp:List PO) (i:Nat) (p:Pos) (q:Str):Prop:=hp[i]? =some (.ctab p none)\/∃ j,2<=j/\hp[i]? =some (.ctab p (some j))/\hp[j]? =some (.code q)
noncomputable def fV (hp:List PO):Prop:=TabAt hp 0 iU sq/\TabAt hp 1 iV sr
structure aq (hp aE:List PO):Prop where
 le:hp.length<=aE.length
 keep:∀ i o,2<=i->hp[i]? =some o->aE[i]? =some o
 tabs:fV hp->fV aE
theorem aq.refl (hp:List PO):aq hp hp:=⟨ZA _,λø ø ø e=>e,id⟩
theorem aq.trans {a b c:List PO} (x:aq a b) (y:aq b c):aq a c:=⟨Zu x.le y.le,λi o h e=>y.keep i o h (x.keep i o h e),λt=>y.tabs (x.tabs t)⟩
theorem TabAt.mono {hp aE:List PO} {i:Nat} {p:Pos} {q:Str} (hi:∀ o,hp[i]? =some o->aE[i]? =some o) (k:∀ i o,2<=i->hp[i]? =some o->aE[i]? =some o) (h:TabAt hp i p q):TabAt aE i p q:=
 h.imp (hi _) (.imp λj h=>⟨h.1,hi _ h.2.1,k j _ h.1 h.2.2⟩)
theorem aq.of_keep {hp aE:List PO} (le:hp.length<=aE.length) (k:∀ (i:Nat) o,hp[i]? =some o->aE[i]? =some o):aq hp aE:=
 ⟨le,λi o ø e=>k i o e,λt=>⟨t.1.mono (λo e=>k _ o e) λi o ø e=>k i o e,t.2.mono (λo e=>k _ o e) λi o ø e=>k i o e⟩⟩
theorem aq.push (hp:List PO) (o:PO):aq hp (hp++[o]):=
 .of_keep (by simp) λi o e=>by rw[ZQ (Zv.mp e).1];exact e
theorem aq.set {a b:List PO} (x:aq a b) {i:Nat} {o:PO} (h:a.length<=i) (h2:2<=i) (hc:∀ q,b[i]? ≠some (.code q)):aq a (b.set i o):=by
 have kp:∀ j o',j≠i->b[j]? =some o'->(b.set i o)[j]? =some o':=λj o' n e=>by rw[List.getElem?_set_ne (aaO n)];exact e
 refine⟨by rw[aaE];exact x.le,λj o' hj e=>?_,λt=>?_⟩
 .have:j<a.length:=(Zv.mp e).1
  exact kp j o' (by exact la [_,_,_] [] [.l .v0 .v1,.t .v2 .v0] (.n (.e .v2 .v1)) (.f [1,1,1]) rfl h this) (x.keep j o' hj e)
 .have t:=x.tabs t
  have pI:∀ k p q,k<2->TabAt b k p q->TabAt (b.set i o) k p q:=by
   rintro k p q hk (h|⟨j,h1,h2,h3⟩)
   .exact .inl (kp k _ (by exact la [_,_] [] [.l .n2 .v0,.t .v1 .n2] (.n (.e .v1 .v0)) (.f [1,1,1]) rfl h2 hk) h)
   .exact .inr ⟨j,h1,kp k _ (by exact la [_,_] [] [.l .n2 .v0,.t .v1 .n2] (.n (.e .v1 .v0)) (.f [1,1,1]) rfl ‹_› hk) h2,kp j _ (λz=>by subst z;exact hc q h3) h3⟩
  exact⟨pI 0 _ _ (by exact la [] [] [] (.t .n0 .n2) (.f [1]) rfl) t.1,pI 1 _ _ (by exact la [] [] [] (.t .n1 .n2) (.f [1]) rfl) t.2⟩
noncomputable def oW (a b:Str):Int:=if a=b then 0 else if Txt.lower a=Txt.lower b then 1 else 2
noncomputable def oX:Spec:=λps hp K=>∃ a b,ps=[.str a,.str b]/\aV (Txt.lower a).length/\aV (Txt.lower b).length/\K (.int (oW a b)) hp
theorem Ic {a b:Str} {hp:List PO} {K:PV->List PO->Prop} (h1:aV (Txt.lower a).length) (h2:aV (Txt.lower b).length) (k:K (.int (oW a b)) hp):oX [.str a,.str b] hp K:=⟨a,b,rfl,h1,h2,k⟩
theorem gI {cx:Cx} {sc:Scope} {params:List Nat} {s b:ao} {ps:List PV} {hp:List PO} {K:PV->List PO->Prop} {l:Loc} (hl:ps.length=params.length) (he:s.er=b) (hb:e9 sc params ps []=l)
  (h:aF cx b (cW K) {loc:=l,ce:=[],hp:=hp}):bc cx sc params [] [] s ps hp K:=by
 refine⟨hl,?_⟩
 rw[<-dW,he,hb]
 show aF cx b (cW K) {loc:=l,ce:=[],hp:=hp++[]}
 rw[ZV];exact h
theorem Ie {cx:Cx} {A:Nat->Addr} (G:GG cx A) {ps:List PV} {hp:List PO} {K:PV->List PO->Prop} (h:oX ps hp K):
  bc cx (am "_substitution_cost") [0,1] [] [] (aQ "_substitution_cost") ps hp K:=by
 obtain⟨a,b,rfl,ha,hb,h⟩:=h
 refine gI rfl g9 (l:=[(1,.str b),(0,.str a)]) rfl ?_
 unfold oW at h
 refine Zt (λq=>?_) (λq=>?_)
 .rw[if_pos (eq_of_beq q)] at h
  exact h
 .rw[if_neg λe=>by rw[e,beq_self_eq_true] at q;cases q] at h
  refine Zt trivial (Zt ha (Zt trivial (Zt hb (Zt (λq=>?_) (λq=>?_)))))
  .rw[if_pos (eq_of_beq q)] at h
   refine ax (G.g _ _ rfl) ?_
   exact h
  .rw[if_neg λe=>by rw[e,beq_self_eq_true] at q;cases q] at h
   refine ax (G.g _ _ rfl) ?_
   exact h
theorem iW {iG:(Bool->St->Prop)->St->Prop} {body gB:ba->St->Prop} {Q:ba} (I:Nat->St->Prop)
  (step:∀ k σ,I k σ->∀ again:St->Prop,(∀ j br,k=j+1->I j br->again br)->iG (λt ae=>(t=true->body (vy Q again) ae)/\(t=false->gB Q ae)) σ):
  ∀ k {σ:St},I k σ->∃ n,iF iG body gB Q n σ:=by
 intro k
 suffices h:∀ σ,I k σ->iF iG body gB Q (k+1) σ from λ{σ} hI=>⟨_,h σ hI⟩
 induction k with
 |zero=>intro σ hI;exact step 0 σ hI _ λj br q=>by exact(la [_] [] [.e .n0 (.a .v0 .n1)] .f (.f [1]) rfl q).elim
 |succ k ih=>intro σ hI;exact step (k+1) σ hI _ λj br q hj=>ih br (by
  obtain rfl:k=j:=Nat.succ.inj q
  exact hj)
theorem fI {oN:PV->(St->Prop)->St->Prop} {body gB:ba->St->Prop} {Q:ba} (n:Nat) (z6:Nat->fE) (I:Nat->St->Prop)
  (step:∀ i σ,i<n->I i σ->∃ v aE,bw (z6 i) σ.hp=some (some (v,z6 (i+1),aE))/\∀ again:St->Prop,(∀ br,I (i+1) br->again br)->oN v (body (vy Q again)) {σ with hp:=aE})
  (done:∀ σ,I n σ->bw (z6 n) σ.hp=some none/\gB Q σ) {σ:St} (h0:I 0 σ):∃ k,kW oN body gB Q k (z6 0) σ:=by
 suffices h:∀ m i σ,i+m=n->I i σ->kW oN body gB Q (m+1) (z6 i) σ from⟨_,h n 0 σ (by exact la [_] [] [] (.e (.a .n0 .v0) .v0) (.o 0 (.f [1]) (.f [1])) rfl) h0⟩
 intro m
 induction m with
 |zero=>
  intro i σ e hI
  obtain rfl:i=n:=by exact la [_,_] [] [.e (.a .v0 .n0) .v1] (.e .v0 .v1) (.o 0 (.f [1,1]) (.f [1,0,1])) rfl e
  obtain⟨h1,h2⟩:=done σ hI
  rw[kW,h1]
  exact h2
 |succ m ih=>
  intro i σ e hI
  obtain⟨v,aE,h1,h2⟩:=step i σ (by exact la [_,_,_] [] [.e (.a .v0 (.a .v1 .n1)) .v2] (.t .v0 .v2) (.f [0,1,1]) rfl e) hI
  rw[kW,h1]
  exact h2 _ λbr S3=>ih (i+1) br (by exact la [_,_,_] [] [.e (.a .v0 (.a .v1 .n1)) .v2] (.e (.a (.a .v0 .n1) .v1) .v2) (.o 0 (.f [1,1]) (.f [1,0,1])) rfl e) S3
theorem c9 {oN:PV->(St->Prop)->St->Prop} {dF:(Bool->St->Prop)->St->Prop} {bI:bu->St->Prop} {K:List PV->St->Prop} (n:Nat) (z6:Nat->fE) (I:Nat->List PV->St->Prop)
  (step:∀ i aD σ,i<n->I i aD σ->∃ v aE,bw (z6 i) σ.hp=some (some (v,z6 (i+1),aE))/\∀ again:List PV->St->Prop,(∀ c7 br,I (i+1) c7 br->again c7 br)->
   oN v (dF λok aw=>(ok=true->bI (λp cn=>aV aD.length/\again (aD++[p]) cn) aw)/\(ok=false->again aD aw)) {σ with hp:=aE})
  (done:∀ aD σ,I n aD σ->bw (z6 n) σ.hp=some none/\K aD σ) {σ:St} (h0:I 0 [] σ):∃ k,bh oN dF bI K k (z6 0) [] σ:=by
 suffices h:∀ m i aD σ,i+m=n->I i aD σ->bh oN dF bI K (m+1) (z6 i) aD σ from⟨_,h n 0 [] σ (by exact la [_] [] [] (.e (.a .n0 .v0) .v0) (.o 0 (.f [1]) (.f [1])) rfl) h0⟩
 intro m
 induction m with
 |zero=>
  intro i aD σ e hI
  obtain rfl:i=n:=by exact la [_,_] [] [.e (.a .v0 .n0) .v1] (.e .v0 .v1) (.o 0 (.f [1,1]) (.f [1,0,1])) rfl e
  obtain⟨h1,h2⟩:=done aD σ hI
  rw[bh,h1]
  exact h2
 |succ m ih=>
  intro i aD σ e hI
  obtain⟨v,aE,h1,h2⟩:=step i aD σ (by exact la [_,_,_] [] [.e (.a .v0 (.a .v1 .n1)) .v2] (.t .v0 .v2) (.f [0,1,1]) rfl e) hI
  rw[bh,h1]
  exact h2 _ λc7 br S3=>ih (i+1) c7 br (by exact la [_,_,_] [] [.e (.a .v0 (.a .v1 .n1)) .v2] (.e (.a (.a .v0 .n1) .v1) .v2) (.o 0 (.f [1,1]) (.f [1,0,1])) rfl e) S3
theorem qT {oN:PV->(St->Prop)->St->Prop} {dF:(Bool->St->Prop)->St->Prop} {bI:bu->St->Prop} {K:List PV->St->Prop} {n:Nat} {it gV:fE} {aD:List PV} {σ:St} {v:PV} {aE:List PO} (h:bw it σ.hp=some (some (v,gV,aE)))
  (k:oN v (dF λok aw=>(ok=true->bI (λp cn=>aV aD.length/\bh oN dF bI K n gV (aD++[p]) cn) aw)/\(ok=false->bh oN dF bI K n gV aD aw)) {σ with hp:=aE}):bh oN dF bI K (n+1) it aD σ:=by
 rw[bh,h];exact k
theorem mO {oN:PV->(St->Prop)->St->Prop} {dF:(Bool->St->Prop)->St->Prop} {bI:bu->St->Prop} {K:List PV->St->Prop} {n:Nat} {it:fE} {aD:List PV} {σ:St} (h:bw it σ.hp=some none) (k:K aD σ):bh oN dF bI K (n+1) it aD σ:=by
 rw[bh,h];exact k
noncomputable abbrev S (l:List Nat):Str:=⟨l.toArray⟩
theorem dX (l:List Nat):(S l).length=l.length:=by show(l.toArray).size=_;simp
theorem z7 {l m:List Nat}:S l=S m↔l=m:=⟨λh=>by have:=congrArg (λs:Str=>s.cps.toList) h;simpa using this,λh=>by rw[h]⟩
theorem z8 (l m:List Nat):(S l==S m)=decide (l=m):=by
 by_cases h:l=m
 .subst h;simp
 .have:S l≠S m:=λq=>h (z7.mp q)
  simp [h,this]
theorem nS {α:Type} (l:List α) (a m:Nat):a+m<=l.length->((List.range m).map (a+.)).filterMap (l[.]?)=(l.drop a).take m:=by
 induction m with
 |zero=>exact λø=>rfl
 |succ m ih=>
  intro(h:a+m<l.length)
  rw[List.range_succ,ZT,List.filterMap_append,ih (Nat.le_of_succ_le h),aaj,List.getElem?_drop,List.map_singleton,ZB h,aad (ZB h)];rfl
noncomputable def c4 (n:Nat) (v:Option Int) (d:Nat):Nat:=match v with
 |none=>d
 |some i=>(max 0 (min (if i<0 then i+n else i) (n:Int))).toNat
theorem k7 (l:List Nat) (lo hi:Option Int):fD (S l) lo hi=S ((l.drop (c4 l.length lo 0)).take (c4 l.length hi l.length-c4 l.length lo 0)):=by
 have ha:∀ v d,d<=l.length->c4 l.length v d<=l.length:=λv d hd=>by
  unfold c4
  split
  .exact hd
  .exact la [_] [_] [] (.l (.t (.x .n0 (.i .V0 (.c .v0)))) .v0) (.k true (.t (.x .n0 (.i .V0 (.c .v0)))) (.o 0 (.k false (.x .n0 (.i .V0 (.c .v0))) (.o 0 (.k false (.i .V0 (.c .v0)) (.o 0 (.f [0,1,1,0,1,0,0,1,0,1]) (.f [0,1,0,0,1,0,0,1,0,1]))) (.f [0,1,0,0,1,0,1]))) (.f [0,1,0,1]))) rfl
 have e:strSliceIndices lo hi 1 (S l).length=(List.range (c4 l.length hi l.length-c4 l.length lo 0)).map (c4 l.length lo 0+.):=by
  rw[<-sliceRange_one,dX]
  unfold strSliceIndices c4
  cases lo<;>cases hi<;>simp<;>(try split)<;>(try split)<;>congr 1<;>omega
 unfold fD
 rw[e]
 by_cases hc:(((List.range (c4 l.length hi l.length-c4 l.length lo 0)).map (c4 l.length lo 0+.)).length==(S l).length)=true
 .rw[if_pos hc]
  have hc:c4 l.length hi l.length-c4 l.length lo 0=l.length:=by simpa [dX] using hc
  have h1:=ha hi l.length (ZA _)
  rw[hc]
  have:c4 l.length lo 0=0\/l.length=0:=by exact la [_,_,_] [] [.e (.s .v0 .v1) .v2,.l .v0 .v2] (.r (.e .v1 .n0) (.e .v2 .n0)) (.k true (.s .v0 .v1) (.o 0 (.o 1 (.f [1]) (.f [1,0,1,0,0,1])) (.o 2 (.f [1]) (.f [1,0,1,0,1,1])))) rfl hc h1
  rcases this with q|q
  .rw[q];simp
  .have:l=[]:=aaH q
   subst this;simp
 .rw[if_neg hc]
  have h1:=ha hi l.length (ZA _)
  have h2:=ha lo 0 (ZM _)
  congr 2
  by_cases q:c4 l.length lo 0<=c4 l.length hi l.length
  .rw[<-nS l _ _ (by exact la [_,_,_] [] [.l .v0 .v1,.l .v2 .v1] (.l (.a .v2 (.s .v0 .v2)) .v1) (.k true (.s .v0 .v2) (.o 0 (.f [0,1,0,1,0,1]) (.f [0,1,0,0,1,1]))) rfl h1 h2)]
   congr 1
   funext i
   simp
  .have:c4 l.length hi l.length-c4 l.length lo 0=0:=by exact la [_,_] [] [.n (.l .v0 .v1)] (.e (.s .v1 .v0) .n0) (.o 0 (.f [1]) (.k true (.s .v1 .v0) (.o 0 (.f [0,1,0,1]) (.f [0,1,0,1,1])))) rfl q
   rw[this];simp
theorem hJ (l:List Nat) (k:Nat) (hk:k<=l.length):fD (S l) (some (k:Int)) none=S (l.drop k):=by
 rw[k7]
 have:c4 l.length (some (k:Int)) 0=k:=by unfold c4;dsimp only;split<;>(first|exact la [_,_] [] [.T (.c .v0) .n0] (.e (.t (.x .n0 (.i (.a (.c .v0) (.c .v1)) (.c .v1)))) .v0) (.f [1]) rfl ‹_› |exact la [_,_] [] [.l .v0 .v1] (.e (.t (.x .n0 (.i (.c .v0) (.c .v1)))) .v0) (.o 0 (.k true (.t (.x .n0 (.i (.c .v0) (.c .v1)))) (.o 0 (.k false (.x .n0 (.i (.c .v0) (.c .v1))) (.o 0 (.k false (.i (.c .v0) (.c .v1)) (.o 0 (.f [1,0,0,1,0,0,1,0,0,1]) (.f [1,0,0,1,0,0,1,0,0,1,1]))) (.k false (.i (.c .v0) (.c .v1)) (.o 0 (.f [1,0,0,0,0,1,0,0,0,1]) (.f [1,0,0,0,0,1,0,0,0,1,1]))))) (.k false (.x .n0 (.i (.c .v0) (.c .v1))) (.o 0 (.k false (.i (.c .v0) (.c .v1)) (.o 0 (.f [1,0,0,1,0,0,0,0,1,1]) (.f [1,0,0,1,0,0,0,0,1,1,1]))) (.k false (.i (.c .v0) (.c .v1)) (.o 0 (.f [1,0,0,0,0,1,0,0,0,1]) (.f [1,0,0,0,0,1,0,0,0,1,1]))))))) (.k true (.t (.x .n0 (.i (.c .v0) (.c .v1)))) (.o 0 (.k false (.x .n0 (.i (.c .v0) (.c .v1))) (.o 0 (.k false (.i (.c .v0) (.c .v1)) (.o 0 (.f [0,1,0,0,1,0,0,1,0,1]) (.f [0,1,1,0,1,0,0,1,0,1]))) (.f [0,1,0,0,1,0,1]))) (.f [0,1,0,1])))) rfl hk)
 rw[this]
 show S (List.take (l.length-k) _)=_
 rw[List.take_of_length_le (by simp)]
theorem z9 (l:List Nat) (k:Nat) (hk:k<=l.length) (h0:0<k):fD (S l) none (some (-(k:Int)))=S (l.take (l.length-k)):=by
 rw[k7]
 have:c4 l.length (some (-(k:Int))) l.length=l.length-k:=by unfold c4;dsimp only;split<;>omega
 rw[this]
 rfl
theorem ya (l:List Nat):fD (S l) none none=S l:=by
 rw[k7]
 show S (List.take (l.length-0) (l.drop 0))=_
 simp
noncomputable def bp:List Nat->List Nat->Nat
 |x::a,y::b=>if x=y then bp a b+1 else 0
 |_,_=>0
theorem b9 {x y:Nat} {a b:List Nat}:bp (x::a) (y::b)=if x=y then bp a b+1 else 0:=rfl
theorem jo {a:List Nat}:∀ {b:List Nat} {i:Nat},i<bp a b->∃ c,a[i]? =some c/\b[i]? =some c:=by
 induction a with
 |nil=>exact λh=>absurd h (Nat.not_lt_zero _)
 |cons x a ih=>intro b i h;cases b with
  |nil=>exact absurd h (Nat.not_lt_zero _)
  |cons y b=>
   rw[b9] at h
   by_cases e:x=y
   .rw[if_pos e] at h
    subst e
    cases i with
    |zero=>exact⟨x,rfl,rfl⟩
    |succ i=>exact ih (Nat.lt_of_succ_lt_succ h)
   .rw[if_neg e] at h;cases h
theorem qU {a:List Nat}:∀ {b:List Nat},a[bp a b]? =none\/b[bp a b]? =none\/∃ c d,a[bp a b]? =some c/\b[bp a b]? =some d/\c≠d:=by
 induction a with
 |nil=>exact .inl rfl
 |cons x a ih=>intro b;cases b with
  |nil=>exact .inr (.inl rfl)
  |cons y b=>
   rw[b9]
   by_cases e:x=y
   .rw[if_pos e];exact ih
   .rw[if_neg e];exact .inr (.inr ⟨x,y,rfl,rfl,e⟩)
theorem bX {a:List Nat}:∀ {b:List Nat},bp a b<=a.length:=by
 induction a with
 |nil=>exact ZM _
 |cons x a ih=>intro b;cases b with
  |nil=>exact ZM _
  |cons y b=>
   rw[b9]
   by_cases e:x=y
   .rw[if_pos e];exact aaP ih
   .rw[if_neg e];exact ZM _
theorem cQ {a:List Nat}:∀ {b:List Nat},bp a b=bp b a:=by
 induction a with
 |nil=>intro b;cases b<;>rfl
 |cons x a ih=>intro b;cases b with
  |nil=>rfl
  |cons y b=>
   rw[b9,b9,ih]
   by_cases e:x=y
   .rw[if_pos e,if_pos e.symm]
   .rw[if_neg e,if_neg λq=>e q.symm]
noncomputable abbrev jE (c x:Nat):Int:=oW (S [c]) (S [x])
noncomputable def fu (c:Nat):List Nat->List Int->Int->Int->Int->List Int×Int×Int
 |x::a,v::row,fw,di,mn=>
  let sub:=fw+jE c x
  let Vu:=(if v<di then v else di)+2
  let r:=if sub<Vu then sub else Vu
  let t:=fu c a row v r (if r<mn then r else mn)
  (r::t.1,t.2)
 |_,_,_,di,mn=>([],di,mn)
theorem pX {c x:Nat} {a:List Nat} {v:Int} {row:List Int} {d s m r:Int} (hr:r=if d+jE c x<(if v<s then v else s)+2 then d+jE c x else(if v<s then v else s)+2):
  fu c (x::a) (v::row) d s m=(r::(fu c a row v r (if r<m then r else m)).1,(fu c a row v r (if r<m then r else m)).2):=by subst hr;rfl
noncomputable def Aa (a:List Nat) (m:Int):List Nat->Nat->List Int->Int->Int
 | [],_,_,di=>di
 |c::b,k,row,_=>
  let t:=fu c a row (2*k) (2*k) 9223372036854775807
  if t.2.2>m then m+1 else Aa a m b (k+1) t.1 t.2.1
noncomputable def su (n:Nat):List Int:=(List.range n).map λk:Nat=>(2+(k:Int)*2:Int)
noncomputable def oY (a b:List Nat) (m:Int):Int:=
 if((b.length:Int)-a.length)*2>m then m+1 else Aa a m b 0 (su a.length) 0
noncomputable def uz (a b:List Nat) (m:Int):Int:=
 if a=[]\/b=[] then 2*((a.length:Int)+b.length)
 else if 40<a.length\/40<b.length then m+1
 else if b.length<a.length then oY b a m else oY a b m
noncomputable def bH (a b:List Nat):List Nat:=a.drop (bp a b)
noncomputable def ec (a b:List Nat):List Nat:=a.take (a.length-bp a.reverse b.reverse)
noncomputable def cj (a b:List Nat):List Nat:=ec (bH a b) (bH b a)
noncomputable def qV (a b:List Nat) (m:Int):Int:=if a=b then 0 else uz (cj a b) (cj b a) m
noncomputable def nT:Spec:=λps hp K=>∃ a b m,ps=[.str (S a),.str (S b),.int m]/\a.length<=1000/\b.length<=1000/\(∀ c∈a++b,(Txt.lower (S [c])).length<=3)/\2<=hp.length/\∀ aE,aq hp aE->K (.int (qV a b m)) aE
theorem sv (x:Nat):jE x x=0:=by unfold jE oW;rw[if_pos rfl]
theorem cL (x y:Nat):0<=jE x y:=by unfold jE oW;split<;>(try split)<;>(first|exact la [] [] [] (.L .n0 .n0) (.f [1]) rfl|exact la [] [] [] (.L .n0 .n1) (.f [1]) rfl|exact la [] [] [] (.L .n0 .n2) (.f [1]) rfl)
theorem Ab (x y:Nat):jE x y<=2:=by unfold jE oW;split<;>(try split)<;>(first|exact la [] [] [] (.L .n0 .n2) (.f [1]) rfl|exact la [] [] [] (.L .n1 .n2) (.f [1]) rfl|exact la [] [] [] (.L .n2 .n2) (.f [1]) rfl)
theorem sw (x y:Nat):jE x y=jE y x:=by
 unfold jE oW
 by_cases h:S [x]=S [y]
 .rw[if_pos h,if_pos h.symm]
 .have h': ¬ S [y]=S [x]:=λq=>h q.symm
  rw[if_neg h,if_neg h']
  by_cases h2:Txt.lower (S [x])=Txt.lower (S [y])
  .rw[if_pos h2,if_pos h2.symm]
  .have S4: ¬ Txt.lower (S [y])=Txt.lower (S [x]):=λq=>h2 q.symm
   rw[if_neg h2,if_neg S4]
theorem sy {x y:Nat} (h:jE x y=0):x=y:=by
 unfold jE oW at h
 by_cases q:S [x]=S [y]
 .have:=z7.mp q;simpa using this
 .rw[if_neg q] at h
  split at h<;>(first|exact la [_,_] [] [.E .n1 .n0] (.e .v0 .v1) (.f [0,1]) rfl h|exact la [_,_] [] [.E .n2 .n0] (.e .v0 .v1) (.f [0,1]) rfl h)
noncomputable def FK (x:Nat) (f:List Nat->Int) (n:Int):List Nat->Int
 | []=>n
 |y::b=>min (f b+jE x y) (min (f (y::b)) (FK x f n b)+2)
noncomputable def Vv:List Nat->List Nat->Int
 | []=>λb=>2*(b.length:Int)
 |x::a=>FK x (Vv a) (2*((a.length:Int)+1))
@[irreducible] noncomputable def ed (a b:List Nat):Int:=Vv a b
theorem bM (b:List Nat):ed [] b=2*(b.length:Int):=by unfold ed;rfl
theorem cy (a:List Nat):ed a []=2*(a.length:Int):=by unfold ed;cases a<;>rfl
theorem bR (x y:Nat) (a b:List Nat):ed (x::a) (y::b)=min (ed a b+jE x y) (min (ed a (y::b)) (ed (x::a) b)+2):=by unfold ed;rfl
theorem jO {P:List Nat->List Nat->Prop} (h1:∀ b,P [] b) (h2:∀ a,P a []) (h3:∀ x y a b,P a b->P a (y::b)->P (x::a) b->P (x::a) (y::b)) (a:List Nat):∀ b,P a b:=by
 induction a with
 |nil=>exact h1
 |cons x a ih=>
  intro b
  induction b with
  |nil=>exact h2 _
  |cons y b k=>exact h3 x y a b (ih b) (ih (y::b)) k
theorem hV:∀ a b,ed a b=ed b a:=jO (λb=>by rw[bM,cy]) (λa=>by rw[bM,cy]) λx y a b h1 h2 h3=>by
 rw[bR,bR,h1,h2,h3,sw x y]
 omega
theorem dJ:∀ a b,0<=ed a b:=jO (λb=>by rw[bM];exact la [_] [] [] (.L .n0 (.m 2 (.c .v0))) (.f [1]) rfl) (λa=>by rw[cy];exact la [_] [] [] (.L .n0 (.m 2 (.c .v0))) (.f [1]) rfl) λx y a b h1 h2 h3=>by
 rw[bR];have:=cL x y;exact la [] [_,_,_,_] [.L .n0 .V0,.L .n0 .V1,.L .n0 .V2,.L .n0 .V3] (.L .n0 (.i (.a .V0 .V3) (.a (.i .V1 .V2) .n2))) (.k false (.i (.a .V0 .V3) (.a (.i .V1 .V2) .n2)) (.o 0 (.f [1,0,0,1,0,0,1,1]) (.k false (.i .V1 .V2) (.o 0 (.f [1,0,0,1,0,0,0,0,1,0,1]) (.f [1,0,0,1,0,0,0,1,0,0,1]))))) rfl h1 h2 h3 this
theorem mP:∀ a,ed a a=0
 | []=>by rw[bM];rfl
 |x::a=>by
  rw[bR,mP a,sv]
  have:=dJ a (x::a)
  have:=dJ (x::a) a
  exact la [] [_,_] [.L .n0 .V0,.L .n0 .V1] (.E (.i (.a .n0 .n0) (.a (.i .V0 .V1) .n2)) .n0) (.k false (.i (.a .n0 .n0) (.a (.i .V0 .V1) .n2)) (.o 0 (.o 1 (.f [1,1]) (.f [1,0,1])) (.k false (.i .V0 .V1) (.o 0 (.f [1,0,0,0,0,1,0,1]) (.f [1,0,0,0,0,1,1]))))) rfl ‹_› this
theorem k8 (a b:List Nat) (y:Nat):ed a (y::b)<=ed a b+2:=by
 cases a with
 |nil=>rw[bM,bM];simp;exact la [_] [] [] (.L (.m 2 (.a (.c .v0) .n1)) (.a (.m 2 (.c .v0)) .n2)) (.f [1]) rfl
 |cons x a=>rw[bR];exact la [] [_,_,_,_] [] (.L (.i (.a .V0 .V1) (.a (.i .V2 .V3) .n2)) (.a .V3 .n2)) (.k false (.i (.a .V0 .V1) (.a (.i .V2 .V3) .n2)) (.o 0 (.k false (.i .V2 .V3) (.o 0 (.f [0,1,1,0,1,1,1]) (.f [0,1,0,0,1,1,1]))) (.k false (.i .V2 .V3) (.o 0 (.f [0,1,1,0,1,0,1]) (.f [0,1,0,0,1,0,1]))))) rfl
theorem pY:∀ a b,∀ y,ed a b<=ed a (y::b)+2:=jO (λb y=>by rw[bM,bM];simp;exact la [_] [] [] (.L (.m 2 (.c .v0)) (.a (.m 2 (.a (.c .v0) .n1)) .n2)) (.f [1]) rfl) (λa y=>by
  rw[cy]
  cases a with
  |nil=>rw[bM];simp
  |cons x a=>
   rw[bR,cy,cy]
   have:=cL x y
   have h:=dJ a [y]
   have:∀ a:List Nat,2*(a.length:Int)<=ed a [y]+2:=λa=>by
    induction a with
    |nil=>have:=dJ [] [y];simp;exact la [] [_] [.L .n0 .V0] (.L .n0 (.a .V0 .n2)) (.f [1,1]) rfl this
    |cons z a ih=>
     rw[bR,cy,cy]
     have:=cL z y
     simp only[ZL];exact la [_] [_,_] [.L (.m 2 (.c .v0)) (.a .V0 .n2),.L .n0 .V1] (.L (.m 2 (.c (.a .v0 .n1))) (.a (.i (.a (.m 2 (.c .v0)) .V1) (.a (.i .V0 (.m 2 (.c (.a .v0 .n1)))) .n2)) .n2)) (.k false (.i (.a (.m 2 (.c .v0)) .V1) (.a (.i .V0 (.m 2 (.c (.a .v0 .n1)))) .n2)) (.o 0 (.f [1,0,0,1,0,1]) (.k false (.i .V0 (.m 2 (.c (.a .v0 .n1)))) (.o 0 (.f [1,0,0,1,0,0,0,1,1]) (.f [1,0,0,1,0,0,0,0,1]))))) rfl ih this
   have:=this a
   simp only[ZL];exact la [_] [_,_] [.L .n0 .V0,.L (.m 2 (.c .v0)) (.a .V1 .n2)] (.L (.m 2 (.c (.a .v0 .n1))) (.a (.i (.a (.m 2 (.c .v0)) .V0) (.a (.i .V1 (.m 2 (.c (.a .v0 .n1)))) .n2)) .n2)) (.k false (.i (.a (.m 2 (.c .v0)) .V0) (.a (.i .V1 (.m 2 (.c (.a .v0 .n1)))) .n2)) (.o 0 (.f [1,0,0,0,1,1]) (.k false (.i .V1 (.m 2 (.c (.a .v0 .n1)))) (.o 0 (.f [1,0,0,1,0,0,1,0,1]) (.f [1,0,0,1,0,0,0,0,1]))))) rfl ‹_› this) λx z a b h1 h2 h3 y=>by
 rw[bR x y a (z::b)]
 have e1:=k8 a b z
 have e2:ed (x::a) (z::b)<=ed a (z::b)+2:=by rw[bR];exact la [] [_,_,_,_] [] (.L (.i (.a .V0 .V1) (.a (.i .V2 .V3) .n2)) (.a .V2 .n2)) (.k false (.i (.a .V0 .V1) (.a (.i .V2 .V3) .n2)) (.o 0 (.k false (.i .V2 .V3) (.o 0 (.f [0,1,0,0,1,1,1]) (.f [0,1,1,0,1,1,1]))) (.k false (.i .V2 .V3) (.o 0 (.f [0,1,0,0,1,0,1]) (.f [0,1,1,0,1,0,1]))))) rfl
 have e3:=h2 y
 have:=cL x y
 exact la [] [_,_,_,_] [.L .V0 (.a .V1 .n2),.L .V1 (.a .V2 .n2),.L .n0 .V3] (.L .V0 (.a (.i (.a .V1 .V3) (.a (.i .V2 .V0) .n2)) .n2)) (.k false (.i (.a .V1 .V3) (.a (.i .V2 .V0) .n2)) (.o 0 (.f [1,0,0,1,0,1,1]) (.k false (.i .V2 .V0) (.o 0 (.f [1,0,0,1,0,0,0,1,1,1]) (.f [1,0,0,1,0,0,0,0,0,1]))))) rfl e2 e3 this
theorem Ig (x:Nat) (a b:List Nat):ed (x::a) (x::b)=ed a b:=by
 rw[bR,sv]
 have h1:=pY a b x
 have h2:ed a b<=ed (x::a) b+2:=by
  rw[hV a b,hV (x::a) b];exact pY b a x
 exact la [] [_,_,_] [.L .V0 (.a .V1 .n2),.L .V0 (.a .V2 .n2)] (.E (.i (.a .V0 .n0) (.a (.i .V1 .V2) .n2)) .V0) (.o 0 (.k false (.i (.a .V0 .n0) (.a (.i .V1 .V2) .n2)) (.o 0 (.f [1,0,0,1]) (.k false (.i .V1 .V2) (.o 0 (.f [1,0,0,1,0,0,1,0,1]) (.f [1,0,0,1,0,0,1,1]))))) (.o 0 (.f [1,1]) (.k false (.i (.a .V0 .n0) (.a (.i .V1 .V2) .n2)) (.o 0 (.f [0,1,0,1]) (.f [0,1,1,1]))))) rfl h1 h2
theorem uA:∀ a b,∀ s t,ed (a++s) (b++t)<=ed a b+ed s t:=jO (λb s t=>by
  induction b with
  |nil=>rw[bM];simp
  |cons y b ih=>
   have h:ed s (y::(b++t))<=ed s (b++t)+2:=k8 s (b++t) y
   rw[bM] at ih ⊢
   simp only[abh,aap,ZL] at ih ⊢
   exact la [_] [_,_,_] [.L .V0 (.a (.m 2 (.c .v0)) .V1),.L .V2 (.a .V0 .n2)] (.L .V2 (.a (.m 2 (.c (.a .v0 .n1))) .V1)) (.f [1,1,1]) rfl ih h) (λa s t=>by
  induction a with
  |nil=>rw[bM];simp
  |cons y b ih=>
   have h:ed (y::(b++s)) t<=ed (b++s) t+2:=by rw[hV,hV (b++s)];exact k8 t (b++s) y
   rw[cy] at ih ⊢
   simp only[abh,aap,ZL] at ih ⊢
   exact la [_] [_,_,_] [.L .V0 (.a (.m 2 (.c .v0)) .V1),.L .V2 (.a .V0 .n2)] (.L .V2 (.a (.m 2 (.c (.a .v0 .n1))) .V1)) (.f [1,1,1]) rfl ih h) λx y a b h1 h2 h3 s t=>by
 have e1:=h1 s t
 have e2:=h2 s t
 have e3:=h3 s t
 simp only[aap] at e1 e2 e3 ⊢
 rw[bR,bR]
 exact la [] [_,_,_,_,_,_,_,_] [.L .V0 (.a .V1 .V2),.L .V3 (.a .V4 .V2),.L .V5 (.a .V6 .V2)] (.L (.i (.a .V0 .V7) (.a (.i .V3 .V5) .n2)) (.a (.i (.a .V1 .V7) (.a (.i .V4 .V6) .n2)) .V2)) (.k false (.i (.a .V0 .V7) (.a (.i .V3 .V5) .n2)) (.o 0 (.k false (.i .V3 .V5) (.o 0 (.k false (.i (.a .V1 .V7) (.a (.i .V4 .V6) .n2)) (.o 0 (.f [1,0,0,0,0,0,0,1,0,0,0,1,1]) (.k false (.i .V4 .V6) (.o 0 (.f [1,0,0,1,0,0,0,1,0,0,1,1,0,1,0,1]) (.f [1,0,0,1,0,0,0,1,1,0,1,1,1,0,0,1]))))) (.k false (.i (.a .V1 .V7) (.a (.i .V4 .V6) .n2)) (.o 0 (.f [1,0,0,0,0,0,0,1,0,0,0,1,1]) (.k false (.i .V4 .V6) (.o 0 (.f [1,0,0,1,0,0,0,1,1,0,1,1,0,1,0,1]) (.f [1,0,0,1,0,0,0,1,0,0,1,1,1,0,0,1]))))))) (.k false (.i .V3 .V5) (.o 0 (.k false (.i (.a .V1 .V7) (.a (.i .V4 .V6) .n2)) (.o 0 (.f [1,0,0,0,0,0,0,1,1,0,0,1,1]) (.k false (.i .V4 .V6) (.o 0 (.f [1,0,0,1,0,0,0,1,0,0,1,0,0,1,0,1]) (.f [1,0,0,1,0,0,0,1,1,0,1,0,1,0,0,1]))))) (.k false (.i (.a .V1 .V7) (.a (.i .V4 .V6) .n2)) (.o 0 (.f [1,0,0,0,0,0,0,1,1,0,0,1,1]) (.k false (.i .V4 .V6) (.o 0 (.f [1,0,0,1,0,0,0,1,1,0,1,0,0,1,0,1]) (.f [1,0,0,1,0,0,0,1,0,0,1,0,1,0,0,1]))))))))) rfl e1 e2 e3
theorem pZ:∀ a b,ed a.reverse b.reverse<=ed a b:=jO (λb=>by simp [bM]) (λa=>by simp [cy]) λx y a b h1 h2 h3=>by
 rw[bR]
 simp only[List.reverse_cons] at h1 h2 h3 ⊢
 have e1:=uA a.reverse b.reverse [x] [y]
 have e2:=uA a.reverse (b.reverse++[y]) [x] []
 have e3:=uA (a.reverse++[x]) b.reverse [] [y]
 rw[ZV] at e2 e3
 have s1:ed [x] [y]<=jE x y:=by rw[bR,bM];simp;exact la [] [_,_,_] [] (.L (.i .V0 (.a (.i .V1 .V2) .n2)) .V0) (.k false (.i .V0 (.a (.i .V1 .V2) .n2)) (.o 0 (.f [0,1,0,1]) (.f [0,1,1,1]))) rfl
 have s2:ed [x] []=2:=by rw[cy];rfl
 have s3:ed [] [y]=2:=by rw[bM];rfl
 exact la [] [_,_,_,_,_,_,_,_,_,_,_] [.L .V0 .V1,.L .V2 .V3,.L .V4 .V5,.L .V6 (.a .V0 .V7),.L .V6 (.a .V2 (.V 8)),.L .V6 (.a .V4 (.V 9)),.L .V7 (.V 10),.E (.V 8) .n2,.E (.V 9) .n2] (.L .V6 (.i (.a .V1 (.V 10)) (.a (.i .V3 .V5) .n2))) (.k false (.i (.a .V1 (.V 10)) (.a (.i .V3 .V5) .n2)) (.o 0 (.f [1,0,0,0,0,0,0,1,0,0,1,0,0,1,1]) (.k false (.i .V3 .V5) (.o 0 (.f [1,0,0,1,0,0,0,0,0,1,0,0,1,0,0,1,0,1]) (.f [1,0,0,1,0,0,0,1,0,0,0,1,0,0,1,0,0,1]))))) rfl h1 h2 h3 e1 e2 e3 s1 s2 s3
theorem uB (a b:List Nat):ed a.reverse b.reverse=ed a b:=by
 have h1:=pZ a b
 have h2:=pZ a.reverse b.reverse
 rw[aaY,aaY] at h2
 exact la [] [_,_] [.L .V0 .V1,.L .V1 .V0] (.E .V0 .V1) (.o 0 (.f [1,1]) (.f [1,0,1])) rfl h1 h2
theorem qW (p a b:List Nat):ed (p++a) (p++b)=ed a b:=by
 induction p with
 |nil=>rfl
 |cons x p ih=>rw[aap,aap,Ig,ih]
theorem wh (s a b:List Nat):ed (a++s) (b++s)=ed a b:=by
 rw[<-uB,aaz,aaz,qW,uB]
theorem Ih:∀ a b,2*((b.length:Int)-a.length)<=ed a b/\2*((a.length:Int)-b.length)<=ed a b:=jO (λb=>by rw[bM];constructor<;>simp only[abi]<;>(first|exact la [_] [] [] (.L (.m 2 (.s (.c .v0) (.c .n0))) (.m 2 (.c .v0))) (.f [1]) rfl|exact la [_] [] [] (.L (.m 2 (.s (.c .n0) (.c .v0))) (.m 2 (.c .v0))) (.f [1]) rfl)) (λa=>by rw[cy];constructor<;>simp only[abi]<;>(first|exact la [_] [] [] (.L (.m 2 (.s (.c .n0) (.c .v0))) (.m 2 (.c .v0))) (.f [1]) rfl|exact la [_] [] [] (.L (.m 2 (.s (.c .v0) (.c .n0))) (.m 2 (.c .v0))) (.f [1]) rfl)) λx y a b h1 h2 h3=>by
 rw[bR]
 simp only[ZL] at h1 h2 h3 ⊢
 have:=cL x y
 exact la [_,_] [_,_,_,_] [.L (.m 2 (.s (.c .v0) (.c .v1))) .V0,.L (.m 2 (.s (.c .v1) (.c .v0))) .V0,.L (.m 2 (.s (.c (.a .v0 .n1)) (.c .v1))) .V1,.L (.m 2 (.s (.c .v1) (.c (.a .v0 .n1)))) .V1,.L (.m 2 (.s (.c .v0) (.c (.a .v1 .n1)))) .V2,.L (.m 2 (.s (.c (.a .v1 .n1)) (.c .v0))) .V2,.L .n0 .V3] (.a (.L (.m 2 (.s (.c (.a .v0 .n1)) (.c (.a .v1 .n1)))) (.i (.a .V0 .V3) (.a (.i .V1 .V2) .n2))) (.L (.m 2 (.s (.c (.a .v1 .n1)) (.c (.a .v0 .n1)))) (.i (.a .V0 .V3) (.a (.i .V1 .V2) .n2)))) (.o 0 (.k false (.i (.a .V0 .V3) (.a (.i .V1 .V2) .n2)) (.o 0 (.f [1,0,0,1,1,0,0,0,0,0,1]) (.k false (.i .V1 .V2) (.o 0 (.f [1,0,0,1,0,0,1,0,0,0,0,1]) (.f [1,0,0,1,0,0,1,0,0,1]))))) (.k false (.i (.a .V0 .V3) (.a (.i .V1 .V2) .n2)) (.o 0 (.f [1,0,0,1,1,0,0,0,0,1]) (.k false (.i .V1 .V2) (.o 0 (.f [1,0,0,1,0,0,1,0,0,0,1]) (.f [1,0,0,1,0,0,1,0,1])))))) rfl h1.1 h1.2 h2.1 h2.2 h3.1 h3.2 this
theorem Dd:∀ a b,ed a b=0->a=b:=jO (λb h=>by
  rw[bM] at h
  exact(aaH (by exact la [_] [] [.E (.m 2 (.c .v0)) .n0] (.e .v0 .n0) (.o 0 (.f [1]) (.f [2,0,1])) rfl h)).symm) (λa h=>by
  rw[cy] at h
  exact aaH (by exact la [_] [] [.E (.m 2 (.c .v0)) .n0] (.e .v0 .n0) (.o 0 (.f [1]) (.f [2,0,1])) rfl h)) λx y a b h1 h2 h3 h=>by
 rw[bR] at h
 have q1:=dJ a b
 have q2:=dJ a (y::b)
 have q3:=dJ (x::a) b
 have q4:=cL x y
 have e1:ed a b=0:=by exact la [] [_,_,_,_] [.E (.i (.a .V0 .V1) (.a (.i .V2 .V3) .n2)) .n0,.L .n0 .V0,.L .n0 .V2,.L .n0 .V3,.L .n0 .V1] (.E .V0 .n0) (.k false (.i (.a .V0 .V1) (.a (.i .V2 .V3) .n2)) (.o 0 (.o 1 (.f [1,0,0,0,0,0,0,1]) (.f [1,1,0,0,1,0,0,0,0,1])) (.k false (.i .V2 .V3) (.o 0 (.f [1,0,0,1,0,0,0,0,1,0,0,1]) (.f [1,0,0,1,0,0,0,1,0,0,0,1]))))) rfl h q1 q2 q3 q4
 have e2:jE x y=0:=by exact la [] [_,_,_,_] [.E (.i (.a .V0 .V1) (.a (.i .V2 .V3) .n2)) .n0,.L .n0 .V0,.L .n0 .V2,.L .n0 .V3,.L .n0 .V1] (.E .V1 .n0) (.k false (.i (.a .V0 .V1) (.a (.i .V2 .V3) .n2)) (.o 0 (.o 1 (.f [1,0,0,0,1]) (.f [1,1,0,0,0,0,0,1,0,1])) (.k false (.i .V2 .V3) (.o 0 (.f [1,0,0,1,0,0,0,0,1,0,0,1]) (.f [1,0,0,1,0,0,0,1,0,0,0,1]))))) rfl h q1 q2 q3 q4
 rw[h1 e1,sy e2]
theorem qc {a:List Nat}:∀ {b:List Nat},a.take (bp a b)=b.take (bp a b):=by
 induction a with
 |nil=>exact List.take_zero.symm
 |cons x a ih=>intro b;cases b with
  |nil=>rfl
  |cons y b=>
   rw[b9]
   by_cases h:x=y
   .rw[if_pos h,List.take_succ_cons,List.take_succ_cons,ih,h]
   .rw[if_neg h];rfl
theorem Ac (a b:List Nat):a=a.take (bp a b)++bH a b/\b=a.take (bp a b)++bH b a:=by
 refine⟨(List.take_append_drop _ _).symm,?_⟩
 unfold bH
 rw[qc,cQ (a:=b) (b:=a)]
 exact(List.take_append_drop _ _).symm
theorem sz (a b:List Nat):∃ s,a=ec a b++s/\b=ec b a++s:=by
 have h:=qc (a:=a.reverse) (b:=b.reverse)
 have ha:bp a.reverse b.reverse<=a.length:=by have:=bX (a:=a.reverse) (b:=b.reverse);simpa using this
 have hb:bp a.reverse b.reverse<=b.length:=by rw[cQ];have:=bX (a:=b.reverse) (b:=a.reverse);simpa using this
 have e:a.drop (a.length-bp a.reverse b.reverse)=b.drop (b.length-bp a.reverse b.reverse):=by
  have h2:=congrArg List.reverse h
  rw[List.reverse_take,List.reverse_take,aaY,aaY,aab,aab] at h2
  exact h2
 refine⟨a.drop (a.length-bp a.reverse b.reverse),?_,?_⟩
 .unfold ec;exact(List.take_append_drop _ _).symm
 .unfold ec;rw[e,cQ (a:=b.reverse) (b:=a.reverse)];exact(List.take_append_drop _ _).symm
theorem De (a b:List Nat):∃ p s,a=p++cj a b++s/\b=p++cj b a++s:=by
 obtain⟨h1,h2⟩:=Ac a b
 obtain⟨s,h3,h4⟩:=sz (bH a b) (bH b a)
 refine⟨a.take (bp a b),s,?_,?_⟩
 .unfold cj;rw[ZH,<-h3];exact h1
 .unfold cj;rw[ZH,<-h4];exact h2
theorem wj (a b:List Nat):ed (cj a b) (cj b a)=ed a b:=by
 obtain⟨p,s,h1,h2⟩:=De a b
 have:ed a b=ed (p++cj a b++s) (p++cj b a++s):=by rw[<-h1,<-h2]
 rw[this,wh,qW]
noncomputable def jA (u:List Nat):List Nat->List Nat->List Int
 |_,[]=>[]
 |d,x::r=>ed (x::d) u::jA u (x::d) r
theorem S5 (A B z:Int) (this:z<=2):(if A+z<(if B<A then B else A)+2 then A+z else(if B<A then B else A)+2)=min (A+z) (min (A+2) B+2):=by
 split<;>split<;>(first|exact la [] [_,_,_] [.L .V0 .n2,.T (.a .V1 .V0) (.a .V2 .n2)] (.E (.a .V1 .V0) (.i (.a .V1 .V0) (.a (.i (.a .V1 .n2) .V2) .n2))) (.k false (.i (.a .V1 .V0) (.a (.i (.a .V1 .n2) .V2) .n2)) (.o 0 (.o 1 (.f [1,0,1]) (.f [1,1])) (.k false (.i (.a .V1 .n2) .V2) (.o 0 (.f [1,0,0,0,0,1,0,1]) (.f [1,0,0,0,0,1,1]))))) rfl this ‹_› |exact la [] [_,_,_] [.L .V0 .n2,.n (.T (.a .V1 .V0) (.a .V2 .n2))] (.E (.a .V2 .n2) (.i (.a .V1 .V0) (.a (.i (.a .V1 .n2) .V2) .n2))) (.o 0 (.k false (.i (.a .V1 .V0) (.a (.i (.a .V1 .n2) .V2) .n2)) (.o 0 (.k false (.i (.a .V1 .n2) .V2) (.o 0 (.f [0,0,1,0,1,0,1,0,1]) (.f [0,1,0,0,1,1,1]))) (.k false (.i (.a .V1 .n2) .V2) (.o 0 (.f [1,0,0,0,0,1,0,0,1]) (.f [0,1,0,0,1,0,1]))))) (.k false (.i (.a .V1 .V0) (.a (.i (.a .V1 .n2) .V2) .n2)) (.o 0 (.f [1,0,0,1,1]) (.k false (.i (.a .V1 .n2) .V2) (.o 0 (.f [0,0,1,0,0,0,0,1,1]) (.f [1,0,0,1,0,0,1])))))) rfl this ‹_› |exact la [] [_,_,_] [.n (.T .V0 .V1),.T (.a .V1 .V2) (.a .V1 .n2)] (.E (.a .V1 .V2) (.i (.a .V1 .V2) (.a (.i (.a .V1 .n2) .V0) .n2))) (.k false (.i (.a .V1 .V2) (.a (.i (.a .V1 .n2) .V0) .n2)) (.o 0 (.o 1 (.f [1,0,1]) (.f [1,1])) (.k false (.i (.a .V1 .n2) .V0) (.o 0 (.f [1,0,0,0,0,1,1]) (.f [1,0,0,0,0,1,1,1]))))) rfl ‹_› ‹_› |exact la [] [_,_,_] [.L .V0 .n2,.n (.T .V1 .V2),.n (.T (.a .V2 .V0) (.a .V2 .n2))] (.E (.a .V2 .n2) (.i (.a .V2 .V0) (.a (.i (.a .V2 .n2) .V1) .n2))) (.o 0 (.o 0 (.k false (.i (.a .V2 .V0) (.a (.i (.a .V2 .n2) .V1) .n2)) (.o 0 (.f [0,1,0,1,0,0,0,1]) (.f [0,1,1,1,0,0,0,1]))) (.f [1,1])) (.k false (.i (.a .V2 .V0) (.a (.i (.a .V2 .n2) .V1) .n2)) (.o 0 (.f [1,0,0,1,1]) (.k false (.i (.a .V2 .n2) .V1) (.o 0 (.f [1,0,0,1,0,0,1]) (.f [1,0,0,1,0,0,1,0,1])))))) rfl this ‹_› ‹_›)
theorem S6 (A B R z:Int):(if A+z<(if B<R then B else R)+2 then A+z else(if B<R then B else R)+2)=min (A+z) (min R B+2):=by
 split<;>split<;>(first|exact la [] [_,_,_,_] [.T .V0 .V1,.T (.a .V2 .V3) (.a .V0 .n2)] (.E (.a .V2 .V3) (.i (.a .V2 .V3) (.a (.i .V1 .V0) .n2))) (.k false (.i (.a .V2 .V3) (.a (.i .V1 .V0) .n2)) (.o 0 (.o 1 (.f [1,0,1]) (.f [1,1])) (.k false (.i .V1 .V0) (.o 0 (.f [1,0,0,0,0,1,1,1]) (.f [1,0,0,0,0,1,1]))))) rfl ‹_› ‹_› |exact la [] [_,_,_,_] [.T .V0 .V1,.n (.T (.a .V2 .V3) (.a .V0 .n2))] (.E (.a .V0 .n2) (.i (.a .V2 .V3) (.a (.i .V1 .V0) .n2))) (.o 0 (.k false (.i (.a .V2 .V3) (.a (.i .V1 .V0) .n2)) (.o 0 (.k false (.i .V1 .V0) (.o 0 (.f [0,0,1,0,0,0,0,0,1]) (.f [0,1,0,0,1,1,1]))) (.k false (.i .V1 .V0) (.o 0 (.f [0,0,1,0,0,0,0,0,1]) (.f [0,1,0,0,1,0,1]))))) (.k false (.i (.a .V2 .V3) (.a (.i .V1 .V0) .n2)) (.o 0 (.f [1,0,0,1,1]) (.k false (.i .V1 .V0) (.o 0 (.f [1,0,0,1,0,0,1,0,1]) (.f [1,0,0,1,0,0,1])))))) rfl ‹_› ‹_› |exact la [] [_,_,_,_] [.n (.T .V0 .V1),.T (.a .V2 .V3) (.a .V1 .n2)] (.E (.a .V2 .V3) (.i (.a .V2 .V3) (.a (.i .V1 .V0) .n2))) (.k false (.i (.a .V2 .V3) (.a (.i .V1 .V0) .n2)) (.o 0 (.o 1 (.f [1,0,1]) (.f [1,1])) (.k false (.i .V1 .V0) (.o 0 (.f [1,0,0,0,0,1,1]) (.f [1,0,0,0,0,1,1,1]))))) rfl ‹_› ‹_› |exact la [] [_,_,_,_] [.n (.T .V0 .V1),.n (.T (.a .V2 .V3) (.a .V1 .n2))] (.E (.a .V1 .n2) (.i (.a .V2 .V3) (.a (.i .V1 .V0) .n2))) (.o 0 (.k false (.i (.a .V2 .V3) (.a (.i .V1 .V0) .n2)) (.o 0 (.k false (.i .V1 .V0) (.o 0 (.f [0,1,0,0,1,1,1]) (.f [0,1,1,0,1,1,1]))) (.k false (.i .V1 .V0) (.o 0 (.f [0,1,0,0,1,0,1]) (.f [0,1,1,0,1,0,1]))))) (.k false (.i (.a .V2 .V3) (.a (.i .V1 .V0) .n2)) (.o 0 (.f [1,0,0,1,1]) (.k false (.i .V1 .V0) (.o 0 (.f [1,0,0,1,0,0,1]) (.f [1,0,0,1,0,0,1,0,1])))))) rfl ‹_› ‹_›)
theorem wk {c:Nat} {u:List Nat}:∀ {bK d:List Nat} {di mn:Int},((d=[]/\di=ed [] u)\/di=ed d (c::u))->
  (fu c bK (jA u d bK) (ed d u) di mn).1=jA (c::u) d bK/\(bK≠[]->(fu c bK (jA u d bK) (ed d u) di mn).2.1=ed (bK.reverse++d) (c::u))/\
  ((fu c bK (jA u d bK) (ed d u) di mn).2.2<=mn/\∀ p,p≠[]->p<+:bK->(fu c bK (jA u d bK) (ed d u) di mn).2.2<=ed (p.reverse++d) (c::u))/\
  ((fu c bK (jA u d bK) (ed d u) di mn).2.2=mn\/∃ p,p≠[]/\p<+:bK/\(fu c bK (jA u d bK) (ed d u) di mn).2.2=ed (p.reverse++d) (c::u))
 | [],d,di,mn,h=>by
  refine⟨rfl,λq=>absurd rfl q,⟨Int.le_refl _,λp hp hq=>absurd (List.prefix_nil.mp hq) hp⟩,.inl rfl⟩
 |x::bK,d,di,mn,h=>by
  have vn:(if ed d u+jE c x<(if ed (x::d) u<di then ed (x::d) u else di)+2 then ed d u+jE c x else(if ed (x::d) u<di then ed (x::d) u else di)+2)=ed (x::d) (c::u):=by
   rw[bR,sw x c]
   rcases h with⟨rfl,rfl⟩|rfl
   .rw[show ed [] (c::u)=ed [] u+2 from by rw[bM,bM];simp;exact la [_] [] [] (.E (.m 2 (.a (.c .v0) .n1)) (.a (.m 2 (.c .v0)) .n2)) (.o 0 (.f [1]) (.f [1])) rfl]
    exact S5 _ _ _ (Ab c x)
   .exact S6 _ _ _ _
  simp only[fu,jA]
  rw[vn]
  obtain⟨Ij,hm,m1,m2,m3⟩:∃ Ij,(if ed (x::d) (c::u)<mn then ed (x::d) (c::u) else mn)=Ij/\Ij<=mn/\Ij<=ed (x::d) (c::u)/\(Ij=mn\/Ij=ed (x::d) (c::u)):=⟨_,rfl,by split<;>(first|exact la [] [_,_] [.T .V0 .V1] (.L .V0 .V1) (.f [1,1]) rfl ‹_› |exact la [] [_] [] (.L .V0 .V0) (.f [1]) rfl),by split<;>(first|exact la [] [_] [] (.L .V0 .V0) (.f [1]) rfl|exact la [] [_,_] [.n (.T .V0 .V1)] (.L .V1 .V0) (.f [1,1]) rfl ‹_›),by split<;>simp⟩
  rw[hm]
  obtain⟨h1,h2,⟨h3,h4⟩,h5⟩:=wk (c:=c) (u:=u) (bK:=bK) (d:=x::d) (di:=ed (x::d) (c::u)) (mn:=Ij) (.inr rfl)
  refine⟨by rw[h1],λø=>?_,⟨?_,λp hp hq=>?_⟩,?_⟩
  .cases bK with
   |nil=>rfl
   |cons z r=>
    rw[h2 (by simp)]
    simp
  .exact la [] [_,_,_] [.L .V0 .V1,.L .V2 .V0] (.L .V2 .V1) (.f [1,1,1]) rfl m1 h3
  .cases p with
   |nil=>exact absurd rfl hp
   |cons y p=>
    obtain⟨rfl,W6⟩:=List.cons_prefix_cons.mp hq
    by_cases Vw:p=[]
    .subst Vw
     show _<=ed (y::d) (c::u)
     exact la [] [_,_,_] [.L .V0 .V1,.L .V2 .V0] (.L .V2 .V1) (.f [1,1,1]) rfl m2 h3
    .have:=h4 p Vw W6
     simpa using this
  .rcases h5 with h5|⟨p,q1,q2,q3⟩
   .rw[h5]
    rcases m3 with m3|m3
    .exact .inl m3
    .exact .inr ⟨[x],by simp,List.cons_prefix_cons.mpr ⟨rfl,List.nil_prefix⟩,m3⟩
   .exact .inr ⟨x::p,by simp,List.cons_prefix_cons.mpr ⟨rfl,q2⟩,by rw[q3];simp⟩
theorem Ik:∀ (V w U:List Nat),∃ q,q<:+w/\ed q U<=ed w (V++U):=by
 intro V
 induction V with
 |nil=>exact λw U=>⟨w,List.suffix_refl _,Int.le_refl _⟩
 |cons v V ih=>
  intro w U
  induction w with
  |nil=>
   refine⟨[],List.suffix_refl _,?_⟩
   rw[bM,bM];simp;exact la [_,_] [] [] (.L (.c .v0) (.a (.a (.c .v1) (.c .v0)) .n1)) (.f [1]) rfl
  |cons x w W7=>
   obtain⟨q1,s1,l1⟩:=ih w U
   obtain⟨q2,s2,l2⟩:=W7
   obtain⟨q3,s3,l3⟩:=ih (x::w) U
   simp only[aap] at l2 ⊢
   rw[bR]
   have:=cL x v
   have t1:q1<:+x::w:=s1.trans (List.suffix_cons _ _)
   have t2:q2<:+x::w:=s2.trans (List.suffix_cons _ _)
   rcases Int.lt_or_le (ed w (V++U)+jE x v) (min (ed w (v::(V++U))) (ed (x::w) (V++U))+2) with h|h
   .exact⟨q1,t1,by exact la [] [_,_,_,_,_] [.L .V0 .V1,.L .n0 .V2,.T (.a .V1 .V2) (.a (.i .V3 .V4) .n2)] (.L .V0 (.i (.a .V1 .V2) (.a (.i .V3 .V4) .n2))) (.k false (.i (.a .V1 .V2) (.a (.i .V3 .V4) .n2)) (.o 0 (.f [1,0,0,0,1,1,1]) (.f [0,0,1,1]))) rfl l1 this h⟩
   .rcases Int.lt_or_le (ed w (v::(V++U))) (ed (x::w) (V++U)) with h2|h2
    .exact⟨q2,t2,by exact la [] [_,_,_,_,_] [.L .V0 .V1,.L (.a (.i .V1 .V2) .n2) (.a .V3 .V4),.T .V1 .V2] (.L .V0 (.i (.a .V3 .V4) (.a (.i .V1 .V2) .n2))) (.k false (.i .V1 .V2) (.o 0 (.k false (.i (.a .V3 .V4) (.a (.i .V1 .V2) .n2)) (.o 0 (.f [1,0,0,1,0,0,0,1,1,1]) (.f [1,0,0,1,0,0,0,0,1,1]))) (.f [0,0,1,1]))) rfl l2 h h2⟩
    .exact⟨q3,s3,by exact la [] [_,_,_,_,_] [.L .V0 .V1,.L (.a (.i .V2 .V1) .n2) (.a .V3 .V4),.L .V1 .V2] (.L .V0 (.i (.a .V3 .V4) (.a (.i .V2 .V1) .n2))) (.k false (.i .V2 .V1) (.o 0 (.k false (.i (.a .V3 .V4) (.a (.i .V2 .V1) .n2)) (.o 0 (.f [1,0,0,1,0,0,1,1,1,1]) (.f [1,0,0,1,0,0,1,0,1,1]))) (.k false (.i (.a .V3 .V4) (.a (.i .V2 .V1) .n2)) (.o 0 (.f [1,0,0,1,0,0,0,1,1,1]) (.f [1,0,0,1,0,0,0,0,1,1]))))) rfl l3 h h2⟩
theorem Df {V w U:List Nat} (hU:U≠[]) (hw:w≠[]):∃ q,q≠[]/\q<:+w/\ed q U<=ed w (V++U):=by
 obtain⟨q,h1,h2⟩:=Ik V w U
 by_cases hq:q=[]
 .subst hq
  obtain⟨c,u,rfl⟩:=List.exists_cons_of_ne_nil hU
  obtain⟨r,x,hr⟩:∃ r x,w=r++[x]:=⟨w.dropLast,w.getLast hw,(List.dropLast_concat_getLast hw).symm⟩
  refine⟨[x],by simp,⟨r,hr.symm⟩,Int.le_trans ?_ h2⟩
  rw[bR,bM,bM]
  have:=Ab x c
  simp only[ZL]
  exact la [_] [_,_] [.L .V0 .n2] (.L (.i (.a (.m 2 (.c .v0)) .V0) (.a (.i (.m 2 (.c (.a .v0 .n1))) .V1) .n2)) (.m 2 (.c (.a .v0 .n1)))) (.k false (.i (.a (.m 2 (.c .v0)) .V0) (.a (.i (.m 2 (.c (.a .v0 .n1))) .V1) .n2)) (.o 0 (.f [0,1,0,1,1]) (.f [0,1,1,1,1]))) rfl this
 .exact⟨q,hq,h1,h2⟩
theorem Ad {a:List Nat} (ha:a≠[]) {m:Int} (hm:m<9223372036854775807):∀ (b u:List Nat) (di:Int),(b=[]->di=ed a.reverse u)->
  (ed a.reverse (b.reverse++u)<=m->Aa a m b u.length (jA u [] a) di=ed a.reverse (b.reverse++u))/\
  (Aa a m b u.length (jA u [] a) di=m+1\/Aa a m b u.length (jA u [] a) di=ed a.reverse (b.reverse++u))
 | [],u,di,h=>by
  rw[Aa,h rfl]
  exact⟨λø=>rfl,.inr rfl⟩
 |c::b,u,di,h=>by
  have e0:(2*((u.length:Nat):Int))=ed [] u:=by rw[bM]
  obtain⟨h1,h2,⟨h3,h4⟩,h5⟩:=wk (c:=c) (u:=u) (bK:=a) (d:=[]) (di:=ed [] u) (mn:=9223372036854775807) (.inl ⟨rfl,rfl⟩)
  obtain⟨i1,i2⟩:=Ad ha hm b (c::u) (ed a.reverse (c::u)) λø=>rfl
  have e2:(c::b).reverse++u=b.reverse++(c::u):=by simp
  rw[e2,Aa,e0]
  rw[h1,h2 ha,ZV]
  simp only[ZL] at i1 i2
  by_cases z:(fu c a (jA u [] a) (ed [] u) (ed [] u) 9223372036854775807).2.2>m
  .rw[if_pos z]
   refine⟨λq=>?_,.inl rfl⟩
   obtain⟨r,r1,r2,r3⟩:=Df (V:=b.reverse) (w:=a.reverse) (U:=c::u) (by simp) (by simpa using ha)
   have:=h4 r.reverse (by simpa using r1) (List.reverse_suffix.mp (by simpa using r2))
   rw[aaY,ZV] at this
   exact la [] [_,_,_,_] [.T .V0 .V1,.L .V2 .V0,.L .V3 .V2,.L .V1 .V3] (.E (.a .V0 .n1) .V2) (.f [1,1,1,1]) rfl z q r3 this
  .rw[if_neg z]
   exact⟨i1,i2⟩
theorem wm:∀ (a d:List Nat),jA [] d a=(List.range a.length).map λk:Nat=>(2*(d.length:Int)+2+(k:Int)*2:Int)
 | [],d=>rfl
 |x::a,d=>by
  rw[jA,wm a (x::d),cy,ZL,ZL,List.range_succ_eq_map,List.map_cons,List.map_map]
  congr 1
  all_goals first
   |(simp;done)
   |(simp;omega)
   |(apply List.map_congr_left;intro k _;simp only[Function.comp,Nat.succ_eq_add_one];omega)
theorem wn {a b:List Nat} (ha:a≠[]) (hb:b≠[]) {m:Int} (hm:m<9223372036854775807):(ed a b<=m->oY a b m=ed a b)/\(oY a b m=m+1\/oY a b m=ed a b):=by
 obtain⟨h1,h2⟩:=Ad ha hm b [] 0 λq=>absurd q hb
 have e:jA [] [] a=su a.length:=by rw[wm];unfold su;simp
 rw[e,ZV,uB] at h1 h2
 unfold oY
 have:=(Ih a b).1
 by_cases z:((b.length:Int)-a.length)*2>m
 .rw[if_pos z]
  exact⟨λq=>by exact la [_,_] [_,_] [.L (.m 2 (.s (.c .v0) (.c .v1))) .V0,.T .V1 (.M (.s (.c .v0) (.c .v1)) 2),.L .V0 .V1] (.E (.a .V1 .n1) .V0) (.f [1,1,1]) rfl this z q,.inl rfl⟩
 .rw[if_neg z]
  exact⟨h1,h2⟩
theorem Il {a b:List Nat} (ha:a.length<=40) (hb:b.length<=40) {m:Int} (hm:m<9223372036854775807) (h:ed a b<=m+1):qV a b m=ed a b:=by
 unfold qV
 by_cases e:a=b
 .rw[if_pos e,e,mP]
 .rw[if_neg e]
  have t:=wj a b
  have l1:(cj a b).length<=40:=Zu (by unfold cj ec bH;simp;exact la [_,_,_] [] [] (.l .v0 (.a (.a .v0 .v1) .v2)) (.f [1]) rfl) ha
  have l2:(cj b a).length<=40:=Zu (by unfold cj ec bH;simp;exact la [_,_,_] [] [] (.l .v0 (.a (.a .v0 .v1) .v2)) (.f [1]) rfl) hb
  rw[<-t] at h ⊢
  generalize cj a b=x at*
  generalize cj b a=y at*
  unfold uz
  by_cases z:x=[]\/y=[]
  .rw[if_pos z]
   rcases z with rfl|rfl
   .rw[bM];simp
   .rw[cy];simp
  .rw[if_neg z,if_neg (by exact la [_,_] [] [.l .v0 (.n 40),.l .v1 (.n 40)] (.n (.r (.t (.n 40) .v0) (.t (.n 40) .v1))) (.o 0 (.f [1,0,1]) (.f [1,1])) rfl l1 l2)]
   have hx:x≠[]:=λq=>z (.inl q)
   have hy:y≠[]:=λq=>z (.inr q)
   by_cases w:y.length<x.length
   .rw[if_pos w,hV x y]
    rw[hV x y] at h
    obtain⟨i1,i2⟩:=wn hy hx hm
    rcases Int.lt_or_le m (ed y x) with q|q
    .rcases i2 with i|i<;>(first|exact la [] [_,_,_] [.L .V0 (.a .V1 .n1),.T .V1 .V0,.E .V2 (.a .V1 .n1)] (.E .V2 .V0) (.o 0 (.f [1,1,0,0,1]) (.f [1,0,1,1])) rfl h q i|exact la [] [_,_] [.E .V0 .V1] (.E .V0 .V1) (.o 0 (.f [1,1]) (.f [1,0,1])) rfl i)
    .exact i1 q
   .rw[if_neg w]
    obtain⟨i1,i2⟩:=wn hx hy hm
    rcases Int.lt_or_le m (ed x y) with q|q
    .rcases i2 with i|i<;>(first|exact la [] [_,_,_] [.L .V0 (.a .V1 .n1),.T .V1 .V0,.E .V2 (.a .V1 .n1)] (.E .V2 .V0) (.o 0 (.f [1,1,0,0,1]) (.f [1,0,1,1])) rfl h q i|exact la [] [_,_] [.E .V0 .V1] (.E .V0 .V1) (.o 0 (.f [1,1]) (.f [1,0,1])) rfl i)
    .exact i1 q
theorem Dg {x y:Nat} (h:x≠y):1<=jE x y:=by
 have h1:=cL x y
 have:jE x y≠0:=λq=>h (sy q)
 exact la [] [_] [.L .n0 .V0,.n (.E .V0 .n0)] (.L .n1 .V0) (.o 0 (.f [1,1]) (.f [1,0,1])) rfl h1 this
theorem wo {c:Nat}:∀ (a:List Nat) (row:List Int) (fw di mn:Int),(∀ v∈row,1<=v)->0<=di->(1<=fw\/(0<=fw/\∀ x,a[0]? =some x->c≠x))->1<=mn->1<=(fu c a row fw di mn).2.2
 | [],_,_,_,_,_,_,_,h=>by simpa [fu] using h
 |_::_,[],_,_,_,_,_,_,h=>by simpa [fu] using h
 |x::a,v::row,fw,di,mn,hr,h0,hd,hm=>by
  have hv:=hr v (.head _)
  have hs:=cL c x
  have S7:1<=fw+jE c x:=by
   rcases hd with q|⟨q,w⟩
   .exact la [] [_,_] [.L .n0 .V0,.L .n1 .V1] (.L .n1 (.a .V1 .V0)) (.f [1,1,1]) rfl hs q
   .have:=Dg (w x rfl);exact la [] [_,_] [.L .n0 .V0,.L .n1 .V1] (.L .n1 (.a .V0 .V1)) (.f [1,1,1]) rfl q this
  have W8:1<=(if v<di then v else di)+2:=by split<;>(first|exact la [] [_] [.L .n1 .V0] (.L .n1 (.a .V0 .n2)) (.f [1,1]) rfl hv|exact la [] [_] [.L .n0 .V0] (.L .n1 (.a .V0 .n2)) (.f [1,1]) rfl h0)
  rw[fu]
  refine wo a row v _ _ (λw hw=>hr w (.tail _ hw)) ?_ (.inl hv) ?_
  .split<;>omega
  .split<;>split<;>(try split)<;>(first|exact la [] [_,_] [.L .n1 (.a .V0 .V1)] (.L .n1 (.a .V0 .V1)) (.f [1,1]) rfl S7|exact la [] [_] [.L .n1 .V0] (.L .n1 .V0) (.f [1,1]) rfl hm|exact la [] [_] [.L .n1 .V0] (.L .n1 (.a .V0 .n2)) (.f [1,1]) rfl hv|exact la [] [_] [.L .n0 .V0] (.L .n1 (.a .V0 .n2)) (.f [1,1]) rfl h0)
theorem uC {a b a' b':List Nat} {x y:Nat} (h1:cj a b=x::a') (h2:cj b a=y::b'):x≠y:=by
 have hd:∀ {u v:List Nat} {z:Nat} {r:List Nat},ec (bH u v) (bH v u)=z::r->u[bp u v]? =some z:=by
  intro u v z r h
  obtain⟨s,e,_⟩:=sz (bH u v) (bH v u)
  rw[h] at e
  have:(bH u v)[0]? =some z:=by rw[e];rfl
  unfold bH at this
  rwa [List.getElem?_drop,Nat.add_zero] at this
 have e1:=hd h1
 have e2:=hd h2
 rw[cQ] at e2
 rcases qU (a:=a) (b:=b) with q|q|⟨c,d,q1,q2,q3⟩
 .rw[e1] at q;cases q
 .rw[e2] at q;cases q
 .rw[e1] at q1;rw[e2] at q2;cases q1;cases q2;exact q3
theorem sA {x y:Nat} {a b:List Nat} (h:x≠y):oY (x::a) (y::b) 0=1:=by
 unfold oY
 split
 .rfl
 .rw[Aa]
  have:=wo (c:=y) (x::a) (su (x::a).length) (2*((0:Nat):Int)) (2*((0:Nat):Int)) 9223372036854775807 (λv hv=>by
   unfold su at hv
   obtain⟨k,_,rfl⟩:=aal.mp hv
   exact la [_] [] [] (.L .n1 (.a .n2 (.M (.c .v0) 2))) (.f [1]) rfl) (by exact la [] [] [] (.L .n0 (.m 2 (.c .n0))) (.f [1]) rfl) (.inr ⟨by exact la [] [] [] (.L .n0 (.m 2 (.c .n0))) (.f [1]) rfl,λz hz=>by cases hz;exact λq=>h q.symm⟩) (by exact la [] [] [] (.L .n1 (.n 9223372036854775807)) (.f [1]) rfl)
  rw[if_pos (by exact la [] [_] [.L .n1 .V0] (.T .n0 .V0) (.f [1,1]) rfl this)];rfl
theorem sB (a b:List Nat):(cj a b).length<=a.length:=by
 unfold cj ec bH
 rw[Z6,aa5]
 exact la [_,_,_] [] [] (.l (.i (.s (.s .v0 .v1) .v2) (.s .v0 .v1)) .v0) (.k true (.i (.s (.s .v0 .v1) .v2) (.s .v0 .v1)) (.o 0 (.k true (.s .v0 .v1) (.o 0 (.f [0,1,0,0,1,1,1]) (.f [0,1,0,0,1,1,1]))) (.k true (.s .v0 .v1) (.o 0 (.f [0,1,0,0,1,0,1]) (.f [0,1,0,0,1,0,1]))))) rfl
theorem Dh {a b:List Nat} (ha:a.length<=40) (hb:b.length<=40) (iw:a≠b) (h1:cj a b≠[]) (h2:cj b a≠[]):qV a b 0=1:=by
 have l1:=sB a b
 have l2:=sB b a
 obtain⟨x,a',e1⟩:=List.exists_cons_of_ne_nil h1
 obtain⟨y,b',e2⟩:=List.exists_cons_of_ne_nil h2
 have PA:=uC e1 e2
 unfold qV
 rw[if_neg iw]
 unfold uz
 rw[if_neg (by rintro(q|q);exact h1 q;exact h2 q),if_neg (by exact la [_,_,_,_] [] [.l .v0 (.n 40),.l .v1 (.n 40),.l .v2 .v0,.l .v3 .v1] (.n (.r (.t (.n 40) .v2) (.t (.n 40) .v3))) (.o 0 (.f [1,0,1,0,1]) (.f [1,1,0,1])) rfl ha hb l1 l2),e1,e2]
 split
 .exact sA λq=>PA q.symm
 .exact sA PA
theorem Di {a b:List Nat} {m:Int} (iw:a≠b) (h:cj a b=[]\/cj b a=[]):qV a b m=ed a b:=by
 unfold qV
 rw[if_neg iw]
 unfold uz
 rw[if_pos h,<-wj a b]
 rcases h with h|h
 .rw[h,bM];simp
 .rw[h,cy];simp
theorem qd (u:List Nat):∀ (v x y:List Nat),u≠v->(∀ c∈u,c≠45)->(∀ c∈v,c≠45)->bp (u++45::x) (v++45::y)<=min u.length v.length:=by
 induction u with
 |nil=>intro v x y h hu hv;cases v with
  |nil=>exact absurd rfl h
  |cons c v=>
   show bp (45::_) (c::_)<=_
   rw[b9,if_neg λq=>hv c (.head _) q.symm];exact ZM _
 |cons c u ih=>intro v x y h hu hv;cases v with
  |nil=>
   show bp (c::_) (45::_)<=_
   rw[b9,if_neg λq=>hu c (.head _) q];exact ZM _
  |cons d v=>
   show bp (c::(u++45::x)) (d::(v++45::y))<=_
   rw[b9]
   by_cases q:c=d
   .subst q
    rw[if_pos rfl,ZL,ZL,Nat.add_min_add_right]
    exact aaP (ih v x y (λz=>h (by rw[z])) (λc hc=>hu c (.tail _ hc)) (λc hc=>hv c (.tail _ hc)))
   .rw[if_neg q];exact ZM _
theorem uD (a:List Nat):∀ (b:List Nat) (n m:Nat),bp (a.take n) (b.take m)<=bp a b:=by
 induction a with
 |nil=>intro b n m;rw[List.take_nil];exact ZM _
 |cons x a ih=>intro b n m;cases b with
  |nil=>rw[List.take_nil];cases n<;>exact ZM _
  |cons y b=>cases n with
   |zero=>exact ZM _
   |succ n=>cases m with
    |zero=>exact ZM _
    |succ m=>
     rw[List.take_succ_cons,List.take_succ_cons,b9,b9]
     by_cases e:x=y
     .rw[if_pos e,if_pos e];exact aaP (ih b n m)
     .rw[if_neg e];exact ZM _
theorem yb (a b:List Nat):a.length<=(cj a b).length+bp a b+bp a.reverse b.reverse:=by
 unfold cj ec
 rw[Z6]
 have h:bp (bH a b).reverse (bH b a).reverse<=bp a.reverse b.reverse:=by
  unfold bH
  rw[List.reverse_drop,List.reverse_drop]
  exact uD _ _ _ _
 have:(bH a b).length=a.length-bp a b:=by unfold bH;rw[aa5]
 exact la [_,_,_,_,_] [] [.l .v0 .v1,.e .v2 (.s .v3 .v4)] (.l .v3 (.a (.a (.i (.s .v2 .v0) .v2) .v4) .v1)) (.k true (.s .v3 .v4) (.o 0 (.f [0,0,1,0,0,0,1]) (.k true (.i (.s .v2 .v0) .v2) (.o 0 (.k true (.s .v2 .v0) (.o 0 (.f [0,0,1,0,0,0,1,0,0,1,0,1,1]) (.f [1,0,0,1,0,0,1,0,0,1,0,1,1]))) (.f [1,0,0,1,0,0,1,0,0,1]))))) rfl h this
noncomputable def cM (w:List Nat):List Nat:=w++List.replicate 41 45++w
theorem dK (w:List Nat):cM w=w++45::(List.replicate 40 45++w):=by
 unfold cM
 rw[ZH];rfl
theorem nU (w:List Nat):(cM w).reverse=cM w.reverse:=by
 unfold cM
 rw[aaz,aaz,List.reverse_replicate,ZH]
theorem jP (w:List Nat):(cM w).length=2*w.length+41:=by
 unfold cM
 simp;exact la [_] [] [] (.e (.a .v0 (.a (.a (.a (.a (.a (.a (.a (.a (.a (.a (.a (.a (.a (.a (.a (.a (.a (.a (.a (.a (.a (.a (.a (.a (.a (.a (.a (.a (.a (.a (.a (.a (.a (.a (.a (.a (.a (.a (.a (.a (.a .v0 .n1) .n1) .n1) .n1) .n1) .n1) .n1) .n1) .n1) .n1) .n1) .n1) .n1) .n1) .n1) .n1) .n1) .n1) .n1) .n1) .n1) .n1) .n1) .n1) .n1) .n1) .n1) .n1) .n1) .n1) .n1) .n1) .n1) .n1) .n1) .n1) .n1) .n1) .n1) .n1) .n1)) (.a (.m 2 .v0) (.n 41))) (.o 0 (.f [1]) (.f [1])) rfl
theorem uE {u v:List Nat} (h:cM u=cM v):u=v:=by
 have hl:=congrArg List.length h
 rw[jP,jP] at hl
 rw[dK,dK] at h
 exact(List.append_inj h (by exact la [_,_] [] [.e (.a (.m 2 .v0) (.n 41)) (.a (.m 2 .v1) (.n 41))] (.e .v0 .v1) (.o 0 (.f [2,1]) (.f [2,0,1])) rfl hl)).1
theorem lZ {u v:List Nat} (h:u≠v) (hu:∀ c∈u,c≠45) (hv:∀ c∈v,c≠45):41<=(cj (cM u) (cM v)).length:=by
 have h1:bp (cM u) (cM v)<=min u.length v.length:=by
  rw[dK,dK];exact qd _ _ _ _ h hu hv
 have h2:bp (cM u).reverse (cM v).reverse<=min u.length v.length:=by
  rw[nU,nU,dK,dK]
  have:=qd u.reverse v.reverse (List.replicate 40 45++u.reverse) (List.replicate 40 45++v.reverse) (λq=>h (List.reverse_inj.mp q)) (λc hc=>hu c (aa4.mp hc)) (λc hc=>hv c (aa4.mp hc))
  simpa using this
 have h3:=yb (cM u) (cM v)
 rw[jP] at h3
 exact la [_,_,_,_,_] [] [.l .v0 (.i .v1 .v2),.l .v3 (.i .v1 .v2),.l (.a (.m 2 .v1) (.n 41)) (.a (.a .v4 .v0) .v3)] (.l (.n 41) .v4) (.k true (.i .v1 .v2) (.o 0 (.f [0,2,0,1,1,1,1]) (.f [0,2,2,1,1,1,1]))) rfl h1 h2 h3
theorem Dj {u v:List Nat} {m:Int} (h:u≠v) (hu:∀ c∈u,c≠45) (hv:∀ c∈v,c≠45):qV (cM u) (cM v) m=m+1:=by
 have h1:=lZ h hu hv
 have h2:=lZ (λq=>h q.symm) hv hu
 unfold qV
 rw[if_neg λq=>h (uE q)]
 unfold uz
 rw[if_neg (by
  rintro(q|q)
  .rw[q] at h1;simp at h1
  .rw[q] at h2;simp at h2),if_pos (.inl (by exact la [_] [] [.l (.n 41) .v0] (.t (.n 40) .v0) (.f [1,1]) rfl h1))]
noncomputable def MN (c x:Nat):Nat:=2-(2*(1-((c-x)+(x-c)))+(1-((((c-x)+(x-c))-32)+(32-((c-x)+(x-c))))))
noncomputable def qX:List Nat:=[49,65,66,67,68,97,98,99,100,109,110,111,112,115,116,117,118,120,121]
noncomputable def gJ (l:List Nat):Prop:=∀ c∈l,c∈qX
theorem sC:∀ x∈qX,Txt.lower (S [x])=S [if 65<=x/\x<=68 then x+32 else x]:=by decide+kernel
theorem Im:∀ x∈qX,∀ y∈qX,(MN x y:Int)=if x=y then 0 else if(if 65<=x/\x<=68 then x+32 else x)=(if 65<=y/\y<=68 then y+32 else y) then 1 else 2:=by decide+kernel
theorem MO {x y:Nat} (hx:x∈qX) (hy:y∈qX):jE x y=(MN x y:Int):=by
 rw[Im x hx y hy]
 unfold jE oW
 rw[sC x hx,sC y hy]
 simp only[z7,List.cons.injEq,and_true]
noncomputable def Dk (x:Nat) (b:List Nat):List Nat->List Nat:=
 List.rec (motive:=λø=>List Nat->List Nat) (λps=>List.rec (motive:=λø=>List Nat) [] (λp ø ø=>[p+2]) ps)
  (λy ø ih ps=>List.rec (motive:=λø=>List Nat) [] (λp Vx ø=>List.rec (motive:=λø=>List Nat) [] (λt0 ts ø=>List.rec (motive:=λø=>List Nat) [] (λp0 ø ø=>
   (λm s=>(m-(m-s))::t0::ts) ((p-(p-t0))+2) (p0+MN x y)) Vx) (ih Vx)) ps) b
noncomputable def Ae (b:List Nat):List Nat:=List.rec (motive:=λø=>List Nat) [0] (λø ø ih=>List.rec (motive:=λø=>List Nat) [] (λp ps ø=>(p+2)::p::ps) ih) b
noncomputable def Af (b a:List Nat):List Nat:=List.rec (motive:=λø=>List Nat) (Ae b) (λx ø ih=>Dk x b ih) a
noncomputable def S8 (a b:List Nat):Nat:=List.rec (motive:=λø=>Nat) 0 (λp ø ø=>p) (Af b a)
noncomputable def jQ (a b:List Nat):Nat:=(ed a b).toNat
theorem hY (a b:List Nat):(jQ a b:Int)=ed a b:=aaL (dJ a b)
noncomputable def Cq (f:List Nat->Nat):List Nat->List Nat
 | []=>[f []]
 |y::b=>f (y::b)::Cq f b
theorem qY (f:List Nat->Nat):∀ b,∃ t,Cq f b=f b::t
 | []=>⟨_,rfl⟩
 |_::_=>⟨_,rfl⟩
theorem sD:∀ b,Ae b=Cq (jQ []) b
 | []=>by
  show[0]=[jQ [] []]
  unfold jQ;rw[bM];rfl
 |y::b=>by
  show(List.rec (motive:=λø=>List Nat) [] (λp ps ø=>(p+2)::p::ps) (Ae b):List Nat)=jQ [] (y::b)::Cq (jQ []) b
  rw[sD b]
  obtain⟨t,e⟩:=qY (jQ []) b
  rw[e]
  show(jQ [] b+2)::jQ [] b::t=_
  congr 1
  have h1:=hY [] b
  have h2:=hY [] (y::b)
  rw[bM] at h1 h2
  rw[ZL] at h2
  exact la [_,_,_] [] [.E (.c .v0) (.m 2 (.c .v1)),.E (.c .v2) (.m 2 (.c (.a .v1 .n1)))] (.e (.a .v0 .n2) .v2) (.o 0 (.f [1,0,1,1]) (.f [1,1,0,0,1])) rfl h1 h2
theorem wp {x:Nat} (hx:x∈qX) (a:List Nat):∀ b,gJ b->Dk x b (Cq (jQ a) b)=Cq (jQ (x::a)) b
 | [],_=>by
  show[jQ a []+2]=[jQ (x::a) []]
  congr 1
  have h1:=hY a []
  have h2:=hY (x::a) []
  rw[cy] at h1 h2
  rw[ZL] at h2
  exact la [_,_,_] [] [.E (.c .v0) (.m 2 (.c .v1)),.E (.c .v2) (.m 2 (.c (.a .v1 .n1)))] (.e (.a .v0 .n2) .v2) (.o 0 (.f [1,0,1,1]) (.f [1,1,0,0,1])) rfl h1 h2
 |y::b,hb=>by
  have ih:=wp hx a b λc hc=>hb c (.tail _ hc)
  show(List.rec (motive:=λø=>List Nat) [] (λt0 ts ø=>List.rec (motive:=λø=>List Nat) [] (λp0 ø ø=>(λm s=>(m-(m-s))::t0::ts) ((jQ a (y::b)-(jQ a (y::b)-t0))+2) (p0+MN x y)) (Cq (jQ a) b)) (Dk x b (Cq (jQ a) b)):List Nat)=jQ (x::a) (y::b)::Cq (jQ (x::a)) b
  rw[ih]
  obtain⟨t,e⟩:=qY (jQ (x::a)) b
  obtain⟨t',e'⟩:=qY (jQ a) b
  rw[e,e']
  show((jQ a (y::b)-(jQ a (y::b)-jQ (x::a) b)+2)-((jQ a (y::b)-(jQ a (y::b)-jQ (x::a) b)+2)-(jQ a b+MN x y)))::jQ (x::a) b::t=_
  congr 1
  have h0:=hY (x::a) (y::b)
  have h1:=hY a (y::b)
  have h2:=hY (x::a) b
  have h3:=hY a b
  rw[bR,MO hx (hb y (.head _)),<-h1,<-h2,<-h3] at h0
  omega
theorem sF {b:List Nat} (hb:gJ b):∀ a,gJ a->Af b a=Cq (jQ a) b
 | [],_=>sD b
 |x::a,ha=>by
  show Dk x b (Af b a)=_
  rw[sF hb a λc hc=>ha c (.tail _ hc)]
  exact wp (ha x (.head _)) a b hb
theorem Io {a b:List Nat} (ha:gJ a) (hb:gJ b):(S8 a b:Int)=ed a b:=by
 unfold S8
 rw[sF hb a ha]
 obtain⟨t,e⟩:=qY (jQ a) b
 rw[e]
 exact hY a b
noncomputable def Ag (a b:List Nat):List Nat:=List.rec (motive:=λø=>List Nat) b (λx ø ih=>x::ih) a
theorem kj (b:List Nat):∀ a,Ag a b=a++b
 | []=>rfl
 |x::a=>congrArg (x::.) (kj b a)
noncomputable def jB {α:Type} (l:List α) (f:α->Bool):Bool:=List.rec (motive:=λø=>Bool) true (λx ø ih=>bif f x then ih else false) l
theorem fJ {α:Type} {f:α->Bool}:∀ {l:List α},jB l f=true->∀ x∈l,f x=true
 |y::l,h,x,hx=>by
  have h:(bif f y then jB l f else false)=true:=h
  cases e:f y with
  |false=>rw[e] at h;cases h
  |true=>
   rw[e] at h
   rcases ZF.mp hx with rfl|hx
   .exact e
   .exact fJ h x hx
noncomputable abbrev Pc:=Nat×List Nat×List Nat
noncomputable def Ip:List (List Pc):=[
 [(1,[97],[65]),(2,[109],[115]),(3,[97,109],[65,115]),(2,[],[120]),(4,[],[120,121])],
 [(1,[98],[66]),(2,[110],[116]),(3,[98,110],[66,116]),(2,[],[120]),(4,[],[120,121])],
 [(1,[99],[67]),(2,[111],[117]),(3,[99,111],[67,117]),(2,[],[120]),(4,[],[121,120])],
 [(1,[100],[68]),(2,[112],[118]),(3,[100,112],[68,118]),(2,[],[120]),(4,[],[121,120])]]
structure jF where
 f:Nat
 l:Nat
 t:List Nat
 u:List Nat
noncomputable def iX:List jF:=[⟨1,4,[0,0,0,0],[1,0,0,1]⟩,⟨1,4,[0,0,0,0],[1,0,1,1]⟩,⟨1,4,[0,0,0,0],[1,1,0,1]⟩,⟨1,4,[0,0,0,0],[1,1,1,1]⟩,⟨1,4,[0,0,0,1],[1,0,0,0]⟩,⟨1,4,[0,0,0,1],[1,0,1,0]⟩,⟨1,4,[0,0,0,1],[1,1,0,0]⟩,⟨1,4,[0,0,0,1],[1,1,1,0]⟩,⟨1,4,[0,0,1,0],[1,0,0,1]⟩,⟨1,4,[0,0,1,0],[1,1,0,1]⟩,⟨1,4,[0,0,1,1],[1,0,0,0]⟩,⟨1,4,[0,0,1,1],[1,1,0,0]⟩,⟨1,4,[0,1,0,0],[1,0,0,1]⟩,⟨1,4,[0,1,0,0],[1,0,1,1]⟩,⟨1,4,[0,1,0,1],[1,0,0,0]⟩,⟨1,4,[0,1,0,1],[1,0,1,0]⟩,⟨1,4,[0,1,1,0],[1,0,0,1]⟩,⟨1,4,[0,1,1,1],[1,0,0,0]⟩]
noncomputable def Ah:List jF:=[⟨1,1,[0,0,0,0],[1,0,0,0]⟩,⟨1,2,[0,0,0,0],[1,1,0,0]⟩,⟨1,2,[0,1,0,0],[1,0,0,0]⟩,⟨1,3,[0,0,0,0],[1,0,1,0]⟩,⟨1,3,[0,0,0,0],[1,1,1,0]⟩,⟨1,3,[0,0,1,0],[1,0,0,0]⟩,⟨1,3,[0,0,1,0],[1,1,0,0]⟩,⟨1,3,[0,1,0,0],[1,0,1,0]⟩,⟨1,3,[0,1,1,0],[1,0,0,0]⟩,⟨2,2,[0,0,0,0],[0,1,0,0]⟩,⟨2,3,[0,0,0,0],[0,1,1,0]⟩,⟨2,3,[0,0,1,0],[0,1,0,0]⟩,⟨2,4,[0,0,0,0],[0,1,0,1]⟩,⟨2,4,[0,0,0,0],[0,1,1,1]⟩,⟨2,4,[0,0,0,1],[0,1,0,0]⟩,⟨2,4,[0,0,0,1],[0,1,1,0]⟩,⟨2,4,[0,0,1,0],[0,1,0,1]⟩,⟨2,4,[0,0,1,1],[0,1,0,0]⟩,⟨3,3,[0,0,0,0],[0,0,1,0]⟩,⟨3,4,[0,0,0,0],[0,0,1,1]⟩,⟨3,4,[0,0,0,1],[0,0,1,0]⟩,⟨4,4,[0,0,0,0],[0,0,0,1]⟩]
noncomputable def nV:List (List (Nat×Nat)):=[[(3,2),(0,3),(0,3),(0,4)],[(0,3),(3,2),(0,4),(0,3)],[(0,3),(0,4),(3,2),(0,3)],[(0,4),(0,3),(0,3),(3,2)]]
noncomputable def inR (e:jF) (k:Nat):Bool:=Nat.ble e.f k&&Nat.ble k e.l
noncomputable def yc (e:jF) (F:List (Nat×Nat)) (k:Nat):List Pc:=bif inR e k then((Ip.getD (k-1) []).drop (F.getD (k-1) (0,0)).1).take (F.getD (k-1) (0,0)).2 else[(0,[],[])]
noncomputable def sG (e:jF):List Nat:=bif Nat.ble e.f 2&&Nat.ble 3 e.l then[49] else[]
noncomputable def l9 (p:Pc) (t:Nat):List Nat:=Nat.rec (motive:=λø=>List Nat) p.2.1 (λø ø=>p.2.2) t
noncomputable def MP (l:List Nat):Nat:=List.rec (motive:=λø=>Nat) 0 (λx ø ø=>x) l
noncomputable def PB (l:List Nat):Nat:=List.rec (motive:=λø=>Nat) 0 (λx r ih=>List.rec (motive:=λø=>Nat) x (λø ø ø=>ih) r) l
noncomputable def PC (m:List Nat) (a b c d:Pc) (t:List Nat):List Nat:=Ag (l9 a (t.getD 0 0)) (Ag (l9 b (t.getD 1 0)) (Ag m (Ag (l9 c (t.getD 2 0)) (l9 d (t.getD 3 0)))))
noncomputable def Kr (p:Pc) (t u:Nat):Nat:=bif Nat.beq t u then 0 else p.1
noncomputable def MQ (pI:Bool) (n:Nat) (v w:List Nat):Bool:=
 Nat.beq (S8 v w) n&&(!Nat.beq (MP v) (MP w)&&(!Nat.beq (PB v) (PB w)&&(pI||(!Nat.beq (MP v) 0&& !Nat.beq (MP w) 0))))
noncomputable def Iq (e:jF) (a b c d:Pc):Bool:=MQ (Nat.beq e.f e.l) (Kr a (e.t.getD 0 0) (e.u.getD 0 0)+Kr b (e.t.getD 1 0) (e.u.getD 1 0)+Kr c (e.t.getD 2 0) (e.u.getD 2 0)+Kr d (e.t.getD 3 0) (e.u.getD 3 0)) (PC (sG e) a b c d e.t) (PC (sG e) a b c d e.u)
noncomputable def sH (e:jF) (F:List (Nat×Nat)):Bool:=jB (yc e F 1) λa=>jB (yc e F 2) λb=>jB (yc e F 3) λc=>jB (yc e F 4) λd=>Iq e a b c d
theorem MR:(jB Ah λe=>jB nV λF=>sH e F)=true:=by decide+kernel
theorem Ir:(jB (iX.take 6) λe=>jB nV λF=>sH e F)=true:=by decide+kernel
theorem It:(jB ((iX.drop 6).take 6) λe=>jB nV λF=>sH e F)=true:=by decide+kernel
theorem Iu:(jB (iX.drop 12) λe=>jB nV λF=>sH e F)=true:=by decide+kernel
structure Up where
 D:Addr->Option Spec
 DC:Nat->List Nat->Option Spec
 XE:Nat->Option Expr
 XW:Nat->(PV->St->Prop)->St->Prop
 SE:Nat->Stmt->List (Nat×NameKind)->Prop
 SW:Nat->(PF->St->Prop)->St->Prop
noncomputable def aA (cx:Cx) (u:Up):Cx:={cx with D:=u.D,DC:=u.DC,XE:=u.XE,XW:=u.XW,SE:=u.SE,SW:=u.SW}
set_option tactic.hygienic true in
theorem wq {cx:Cx} {u:Up} {ab:aT} {ob:Obj} {o:PO}:cN (aA cx u) ab ob o↔cN cx ab ob o:=by
 cases o<;>first|exact Iff.rfl|(rename_i v;cases v<;>exact Iff.rfl)|(rename_i p v;cases v<;>exact Iff.rfl)
theorem io {cx:Cx} {u:Up} {env:Env} {ab:aT} {σ:St} {h:Heap}:aH (aA cx u) env ab σ h↔aH cx env ab σ h:=
 ⟨λR=>⟨R.keep,R.off,R.offL,R.inj,R.notL,R.len,λi o e=>(R.obj i o e).imp λø=>.imp λø=>aaa (aaa wq.mp),R.loc,R.cel,R.ff,R.tb⟩,
  λR=>⟨R.keep,R.off,R.offL,R.inj,R.notL,R.len,λi o e=>(R.obj i o e).imp λø=>.imp λø=>aaa (aaa wq.mpr),R.loc,R.cel,R.ff,R.tb⟩⟩
theorem qZ {cx:Cx} {u:Up} {env:Env} {ab:aT} {s:Shared} {P:bu} {Q:Value->Shared->Prop}:bB (aA cx u) env ab s P Q↔bB cx env ab s P Q:=
 ⟨λk p br aj v h' tk a b c d=>k p br aj v h' tk a b (io.mpr c) d,λk p br aj v h' tk a b c d=>k p br aj v h' tk a b (io.mp c) d⟩
theorem Good.le {cx:Cx} {n m:Nat} (h:n<=m) {A:Around} (g:Good cx m A):Good cx n A:=⟨g.hd,g.fr,by have:=g.depth;exact la [_,_,_,_] [] [.l .v0 .v1,.t (.a .v2 .v1) .v3] (.t (.a .v2 .v0) .v3) (.f [1,1,1]) rfl h this,by have:=g.units;exact la [_,_,_,_] [] [.l .v0 .v1,.t (.a (.a .v2 (.m 16 .v1)) (.n 100)) .v3] (.t (.a (.a .v2 (.m 16 .v0)) (.n 100)) .v3) (.f [1,16,1]) rfl h this⟩
theorem an.le {cx:Cx} {n m:Nat} (h:n<=m) {fv:Value} {S:Spec} (c:an cx n fv S):an cx m fv S:=λfr {_ _ _ _ _ _ _ _ _ _} g R d hw k=>c fr (g.le h) R d hw k
theorem cz {cx:Cx} {u:Up} {n:Nat} {fv:Value} {S:Spec}:an (aA cx u) n fv S↔an cx n fv S:=
 ⟨λc fr {env ab σ s A ps vs P Q E} g R d hw k=>c fr (E:=E) ⟨g.hd,g.fr,g.depth,g.units⟩ ((io (cx:=cx.at fr) (u:=u)).mpr R) d hw ((qZ (cx:=cx.at fr) (u:=u)).mpr k),
  λc fr {env ab σ s A ps vs P Q E} g R d hw k=>c fr (E:=E) ⟨g.hd,g.fr,g.depth,g.units⟩ ((io (cx:=cx.at fr) (u:=u)).mp R) d hw ((qZ (cx:=cx.at fr) (u:=u)).mp k)⟩
theorem hZ {cx:Cx} {l:List Env} {n:Nat} {fv:Value} {S:Spec}:an (cx.at l) n fv S↔an cx n fv S:=Iff.rfl
theorem wu {cx:Cx} {u:Up} {env:Env} {ab:aT} {s:Shared} {P:ba} {Q:Flow->Shared->Prop}:cV (aA cx u) env ab s P Q↔cV cx env ab s P Q:=
 ⟨λk f br aj fl h' tk a b c d=>k f br aj fl h' tk a b (io.mpr c) d,λk f br aj fl h' tk a b c d=>k f br aj fl h' tk a b (io.mp c) d⟩
noncomputable def sI (A:Nat->Addr):List (Nat×Spec)->Addr->Option Spec
 | [],_=>none
 |y::r,a=>if a=A y.1 then some y.2 else sI A r a
theorem wx {A:Nat->Addr} (inj:∀ i j,101<=i->i<=120->101<=j->j<=120->A i=A j->i=j) {tab:List (Nat×Spec)} {k:Nat} (h1:101<=k) (h2:k<=120) (hb:∀ y∈tab,101<=y.1/\y.1<=120) {S}:(tab.find? λy=>y.1==k)=some S->sI A tab (A k)=some S.2:=by
 induction tab with
 |nil=>exact nofun
 |cons y r ih=>
  intro hf
  by_cases e:y.1=k
  .rw[List.find?_cons_of_pos (p:=λy:Nat×Spec=>y.1==k) (beq_iff_eq.mpr e)] at hf
   cases hf
   exact if_pos (by rw[e])
  .rw[List.find?_cons_of_neg (p:=λy:Nat×Spec=>y.1==k) (λq=>e (eq_of_beq q))] at hf
   have hy:=hb y (.head _)
   exact(if_neg λq=>e (inj _ _ h1 h2 hy.1 hy.2 q).symm).trans (ih (λz hz=>hb z (.tail _ hz)) hf)
structure cF (cx:Cx) (A:Nat->Addr):Prop extends CxOk cx where
 g:∃ m mb,cx.h₀.Ns mainGlobals m/\cx.h₀.Ns builtinsNs mb/\∀ x v,cx.G x=some v->∃ u,(∀ ab,cY ab v u)/\(m (nm x)=some u\/(m (nm x)=none/\mb (nm x)=some u))
 en:∃ m mb,cx.h₀.Ns mainGlobals m/\cx.h₀.Ns builtinsNs mb/\(∀ x,cx.EN x->m (nm x)=none/\mb (nm x)=some (.type "enumerate"))/\∀ x,cx.RV x->m (nm x)=none/\mb (nm x)=some (.type "reversed")
 fn:∀ k,102<=k->k<=120->∃ o fd,cx.h₀.get? (A k)=some o/\o.data=.func fd
 inj:∀ i j,101<=i->i<=120->101<=j->j<=120->A i=A j->i=j
 lim:cx.h₀.NoLimit
theorem PD {cx:Cx} {A:Nat->Addr} (B:cF cx A) {n:Nat} {u:Up} {tab:List (Nat×Spec)} (hD:u.D=sI A tab) (hs:∀ y∈tab,102<=y.1/\y.1<=120/\an cx n (.ref (A y.1)) y.2)
  (MS:∀ k dk,u.DC k dk=none) (hx:∀ k,u.XE k=none) (S9:∀ k t xs,¬ u.SE k t xs) (fr:List Env):bF ((aA cx u).at fr) n where
 toCxOk:=⟨B.tab⟩
 g:=B.g
 en:=B.en
 d:=λa S h=>by
  have h:u.D a=some S:=h
  rw[hD] at h
  have:∀ {tab:List (Nat×Spec)},(∀ y∈tab,102<=y.1/\y.1<=120/\an cx n (.ref (A y.1)) y.2)->sI A tab a=some S->(∃ o fd,cx.h₀.get? a=some o/\o.data=.func fd)/\an cx n (.ref a) S:=by
   intro tab
   induction tab with
   |nil=>intro _ h;cases h
   |cons y r ih=>
    intro hs h
    rw[sI] at h
    by_cases e:a=A y.1
    .rw[if_pos e] at h;cases h
     have q:=hs y (.head _)
     rw[e]
     exact⟨B.fn _ q.1 q.2.1,q.2.2⟩
    .rw[if_neg e] at h
     exact ih (λz hz=>hs z (.tail _ hz)) h
  obtain⟨h1,h2⟩:=this hs h
  exact⟨h1,hZ.mpr ((cz (cx:=cx) (u:=u)).mpr h2)⟩
 dc:=λk dk S h=>by
  have h:u.DC k dk=some S:=h
  rw[MS] at h;cases h
 x:=λk e h=>by
  have h:u.XE k=some e:=h
  rw[hx] at h;cases h
 sx:=λk t xs h=>absurd (show u.SE k t xs from h) (S9 k t xs)
structure fh (cx:Cx) (a:Addr) (sc:Scope) (params:List Nat) (b:ao):Prop where
 h:∃ o fd,cx.h₀.get? a=some o/\o.data=.func fd/\zN fd sc params b/\cx.h₀.CodeRec fd.code fd.qualname/\fd.closure=[]
theorem gK {cx:Cx} {l:List Env} {sc:Scope} {params cl:List Nat} {ce:List (Nat×Nat)} {b:ao} {ps:List PV} {hp:List PO} {K:PV->List PO->Prop} (h:bc cx sc params cl ce b ps hp K):bc (cx.at l) sc params cl ce b ps hp K:=by
 obtain⟨h1,h2⟩:=h
 exact⟨h1,by rw[kb];exact h2⟩
theorem fh.plain {cx:Cx} {n:Nat} {a:Addr} {sc:Scope} {params:List Nat} {b:ao} (F:fh cx a sc params b) (C:∀ fr,bF (cx.at fr) n) (iQ:cx.h₀.NoLimit) (nJ:∀ x∈sc.names,x.2≠ .cell) (nF:∀ x∈params,sc.names.lookup (nm x)=some .local)
  {S:Spec} (hS:∀ ps hp K,S ps hp K->bc cx sc params [] [] b ps hp K):an cx (n+1) (.ref a) S:=λfr {env ab σ s A ps vs P Q E} hA R d hw k=>by
 obtain⟨o,fd,h1,h2,h3,h4,h5⟩:=F.h
 exact iP (cx:=cx.at fr) (λL=>C _) hA h3 (R.keep _ _ h1) h2 iQ (h4.keeps R.keep) nJ nF (λx i e=>by cases e) R d (gK (hS _ _ _ hw)) k
theorem fh.cells {cx:Cx} {n:Nat} {a:Addr} {sc:Scope} {params cl:List Nat} {b:ao} (F:fh cx a sc params b) (C:∀ fr,bF (cx.at fr) n) (iQ:cx.h₀.NoLimit) (jY:∀ x∈cl,sc.names.lookup (nm x)=some .cell) (nd:cl.Nodup) (uw:∀ x∈params,sc.names.lookup (nm x)=some .local\/x∈cl)
  {S:Spec} (hS:∀ ps hp K,S ps hp K->bc cx sc params cl [] b ps hp K):an cx (n+1) (.ref a) S:=λfr {env ab σ s A ps vs P Q E} hA R d hw k=>by
 obtain⟨o,fd,h1,h2,h3,h4,h5⟩:=F.h
 exact lX (cx:=cx.at fr) (λL=>C _) hA h3 (R.keep _ _ h1) h2 iQ (h4.keeps R.keep) h5 jY nd uw R d (gK (hS _ _ _ hw)) k
local macro_rules | `(tactic|walk_at "o")=>`(tactic|refine ax (by first|assumption|exact GG.g (by assumption) _ _ rfl) ?_)
theorem q9 (i:Nat):(0:Int)+(i:Int)*1=(i:Int):=by rw[Int.mul_one,Int.zero_add]
theorem dY {a c:Int} {n i:Nat} {hp:List PO} (h:i<n):bw (.rng a c n i) hp=some (some (.int (a+(i:Nat)*c),.rng a c n (i+1),hp)):=by rw[bw,if_pos h]
theorem nW {n i:Nat} {hp:List PO} (h:i<n):bw (.rng 0 1 n i) hp=some (some (.int (i:Nat),.rng 0 1 n (i+1),hp)):=by rw[dY h,q9]
theorem dj {a c:Int} {n:Nat} {hp:List PO}:bw (.rng a c n n) hp=some none:=by rw[bw,if_neg (aaw _)]
theorem MT (l:List Nat) (i:Nat):(S l).cps[i]? =l[i]? :=by show l.toArray[i]? =_;simp
theorem wy {l:List Nat} {i c:Nat} (h:l[i]? =some c):(S l).cps[i]? =some c:=(MT l i).trans h
theorem ar (ns:List Int):(aa ns).length=ns.length:=ZI ..
theorem gL (ns:List Int) (i:Nat):(aa ns)[i]? =(ns[i]?).map .int:=Z9 ..
theorem h8 (ns:List Int) (i:Nat) (v:Int):(aa ns).set i (.int v)=aa (ns.set i v):=List.map_set.symm
theorem jR (l:List Nat) (h:l.length<=1000):aV (S l).length:=by rw[dX];exact Zu h (by decide)
theorem Ai {n:Nat} (h:n<=1000):aV n:=Zu h (by decide)
theorem af (H:List PO) (o:PO):(H++[o])[H.length]? =some o:=ZR
theorem mQ {l:List Nat} {i c:Nat} (h:l[i]? =some c):l.drop i=c::l.drop (i+1):=by
 obtain⟨hi,e⟩:=Zv.mp h
 rw[List.drop_eq_getElem_cons hi,e]
theorem Aj {H:List PO} {i:Nat} {o:PO} (h:H[i]? =some o) (x:PO):(H++[x])[i]? =some o:=by
 rw[ZQ (Zv.mp h).1];exact h
noncomputable def W9 (a:List Nat) (c fx:Nat) (hp:List PO) (B M:PV) (T:List Int×Int×Int) (i:Nat) (σ:St):Prop:=∀ P:Prop,(∀ l' H' done bK fw di mn,σ={loc:=l',ce:=[],hp:=H'}->l'.get 2=some (.str (S a))->l'.get 3=some B->l'.get 4=some M->l'.get 7=some (.ref fx)->l'.get 10=some (.str (S [c]))->
   l'.get 11=some (.int fw)->l'.get 8=some (.int di)->l'.get 12=some (.int mn)->H'[fx]? =some (.list (aa (done++bK)))->done.length=i->bK.length+i=a.length->aq hp H'->(done++(fu c (a.drop i) bK fw di mn).1,(fu c (a.drop i) bK fw di mn).2)=T->P)->P
theorem MU {row:List Int} {v r:Int} {done bK:List Int} {H:List PO} {fx i:Nat} (hr:H[fx]? =some (.list (aa (done++v::bK)))) (hd:done.length=i):(H.set fx (.list ((aa (done++v::bK)).set i (.int r))))[fx]? =some (.list (aa ((done++[r])++bK))):=by
 rw[List.getElem?_set_self (Zv.mp hr).1,h8,<-hd,List.set_append_right _ _ (ZA _),Nat.sub_self,ZH];rfl
theorem Iv {cx:Cx} {A:Nat->Addr} (G:GG cx A) (hD:cx.D (A 102)=some oX) {a:List Nat} {c fx:Nat} {hp:List PO} {T:List Int×Int×Int} (ha:a.length<=1000) (hc:(Txt.lower (S [c])).length<=3) (hx:∀ x∈a,(Txt.lower (S [x])).length<=3) (Dl:hp.length<=fx) (h2:2<=hp.length)
  {B M:PV} {Q:ba} {l:Loc} {H:List PO} {row:List Int} {fw di mn:Int} (l2:l.get 2=some (.str (S a))) (l3:l.get 3=some B) (l4:l.get 4=some M) (l7:l.get 7=some (.ref fx)) (MV:l.get 10=some (.str (S [c])))
  (Ta:l.get 11=some (.int fw)) (l8:l.get 8=some (.int di)) (MW:l.get 12=some (.int mn)) (hr:H[fx]? =some (.list (aa row))) (cb:row.length=a.length) (gr:aq hp H) (hT:fu c a row fw di mn=T)
  (k:∀ l' H',l'.get 2=some (.str (S a))->l'.get 3=some B->l'.get 4=some M->l'.get 7=some (.ref fx)->l'.get 8=some (.int T.2.1)->l'.get 12=some (.int T.2.2)->H'[fx]? =some (.list (aa T.1))->aq hp H'->aF cx .nil Q {loc:=l',ce:=[],hp:=H'}):
  ∃ n,kW (aN (.name 13 p0)) (aF cx LR) (aF cx .nil) Q n (.rng 0 1 a.length 0) {loc:=l,ce:=[],hp:=H}:=by
 refine fI a.length (λi=>.rng 0 1 a.length i) (W9 a c fx hp B M T) ?_ ?_ λP k=>k l H [] row fw di mn rfl l2 l3 l4 l7 MV Ta l8 MW hr rfl cb gr hT
 .intro i σ hi I
  refine I _ λl' H' done bK fw di mn e l2 l3 l4 l7 MV Ta l8 MW hr hd MX gr t=>?_
  subst e
  refine⟨_,_,nW hi,λagain dZ=>?_⟩
  obtain⟨x,Tb⟩:∃ x,a[i]? =some x:=⟨a[i],ZB hi⟩
  cases bK with
  |nil=>exact absurd ((aau i).symm.trans MX) (Z7 hi)
  |cons v bK=>
  rw[mQ Tb] at t
  have hv:(aa (done++v::bK))[i]? =some (.int v):=by rw[gL,<-hd,aah (ZA _),Nat.sub_self];rfl
  have hl:(aa (done++v::bK)).length=a.length:=by rw[ar,Zw,hd,aao];exact MX
  have i6:=Zu (Zx hi) (Zu ha (by decide:1000<=1000000))
  repeat walk_at "o"
  refine j7 (wy Tb) i6 ?_
  refine bP hD (Ic (Zu hc (by decide)) (Zu (hx x (ZE Tb)) (by decide)) ?_)
  walk_at "o"
  refine ay hr hv i6 ?_
  repeat walk_at "o"
  refine jJ hr (hl▸hi) i6 ?_
  repeat walk_at "o"
  have MY:=MU (row:=row) (r:=if fw+jE c x<(if v<di then v else di)+2 then fw+jE c x else(if v<di then v else di)+2) hr hd
  have Vy:=gr.set (o:=.list ((aa (done++v::bK)).set i (.int (if fw+jE c x<(if v<di then v else di)+2 then fw+jE c x else(if v<di then v else di)+2)))) Dl (Zu h2 Dl) (λq e=>by rw[hr] at e;cases e)
  have Dm:(done++[if fw+jE c x<(if v<di then v else di)+2 then fw+jE c x else(if v<di then v else di)+2]).length=i+1:=by rw[Zw,hd];rfl
  have MZ:bK.length+(i+1)=a.length:=by rw[<-MX,ZL];exact la [_,_] [] [] (.e (.a .v0 (.a .v1 .n1)) (.a (.a .v0 .n1) .v1)) (.o 0 (.f [1]) (.f [1])) rfl
  rw[pX rfl] at t
  dsimp only at t
  rw[<-List.singleton_append,<-ZH] at t
  refine Zt (λq=>?_) (λq=>?_)
  .rw[if_pos (of_decide_eq_true q)] at t
   repeat walk_at "o"
   exact dZ _ λP k=>k _ _ _ bK _ _ _ rfl l2 l3 l4 l7 MV rfl rfl rfl MY Dm MZ Vy t
  .rw[if_neg (of_decide_eq_false q)] at t
   exact dZ _ λP k=>k _ _ _ bK _ _ _ rfl l2 l3 l4 l7 MV rfl rfl MW MY Dm MZ Vy t
 .intro σ I
  refine I _ λl' H' done bK fw di mn e l2 l3 l4 l7 MV Ta l8 MW hr hd MX gr t=>?_
  subst e
  obtain rfl:bK=[]:=aaH (by exact la [_,_] [] [.e (.a .v0 .v1) .v1] (.e .v0 .n0) (.o 0 (.f [1]) (.f [1,0,1])) rfl MX)
  rw[List.drop_length] at t
  subst t
  exact⟨dj,k l' H' l2 l3 l4 l7 l8 MW hr gr⟩
set_option tactic.hygienic true in
theorem Ks {a:Nat} (h:a<5):a=0\/a=1\/a=2\/a=3\/a=4:=la [_] [] [.t .v0 (.n 5)] (.r (.e .v0 .n0) (.r (.e .v0 .n1) (.r (.e .v0 .n2) (.r (.e .v0 (.n 3)) (.e .v0 (.n 4)))))) (.o 1 (.o 3 (.o 4 (.f [1]) (.f [1,1])) (.o 2 (.f [1,1]) (.f [1,0,1]))) (.o 0 (.f [1,1]) (.f [1,0,1]))) rfl h
theorem dL {x:Int} {n:Nat} (h:x.natAbs<2^n):bl x<=n:=by
 show Builtin.Int.intBits x<=n
 unfold Builtin.Int.intBits
 split
 .exact ZM _
 .rename_i q
  exact(Nat.log2_lt λe=>q (by rw[Int.natAbs_eq_zero.mp e];rfl)).mpr h
theorem Dn {x:Int} (h:x.natAbs<=10000):bl x<=14:=dL (ZW h (by decide))
theorem Kt:bl 2<=2:=dL (by decide)
theorem eB {a b:Int} {m n:Nat} (x:bl a<=m) (y:bl b<=n) (h:m+n<=134217728):bl a+bl b<=134217728:=Zu (aac x y) h
theorem Ak {c:Nat} {a:List Nat}:∀ {row:List Int} {d r m:Int},row.length=a.length->(fu c a row d r m).1.length=a.length:=by
 induction a with
 |nil=>exact λ{row} d r m h=>by cases row<;>rfl
 |cons x a ih=>intro row d r m h;cases row with
  |nil=>cases h
  |cons v row=>rw[pX rfl];exact congrArg (. +1) (ih (Nat.succ.inj h))
noncomputable def Xa (a b:List Nat) (fx:Nat) (hp:List PO) (m:Int) (K:PV->List PO->Prop) (i:Nat) (σ:St):Prop:=∀ P:Prop,(∀ l' H' row di,σ={loc:=l',ce:=[],hp:=H'}->l'.get 2=some (.str (S a))->l'.get 3=some (.str (S b))->l'.get 4=some (.int m)->l'.get 7=some (.ref fx)->
   l'.get 8=some (.int di)->H'[fx]? =some (.list (aa row))->row.length=a.length->aq hp H'->(∀ aE,aq hp aE->K (.int (Aa a m (b.drop i) i row di)) aE)->P)->P
theorem M0 {cx:Cx} {A:Nat->Addr} (G:GG cx A) (hD:cx.D (A 102)=some oX) {a b:List Nat} {m:Int} {fx:Nat} {hp:List PO} (ha:a.length<=1000) (hb:b.length<=1000) (hx:∀ x∈a++b,(Txt.lower (S [x])).length<=3) (Dl:hp.length<=fx) (h2:2<=hp.length)
  {K:PV->List PO->Prop} {l:Loc} {H:List PO} {row:List Int} {di:Int} (l2:l.get 2=some (.str (S a))) (l3:l.get 3=some (.str (S b))) (l4:l.get 4=some (.int m)) (l7:l.get 7=some (.ref fx)) (l8:l.get 8=some (.int di))
  (hr:H[fx]? =some (.list (aa row))) (cb:row.length=a.length) (gr:aq hp H) (k:∀ aE,aq hp aE->K (.int (Aa a m b 0 row di)) aE):aF cx Fl (cW K) {loc:=l,ce:=[],hp:=H}:=by
 repeat walk_at "o"
 refine Zt (jR b hb) (Zt (Zu hb (by decide)) ?_)
 refine eR (af _ _) ?_
 refine fI b.length (λi=>.rng 0 1 b.length i) (Xa a b fx hp m K) ?_ ?_ λP k'=>k' l _ row di rfl l2 l3 l4 l7 l8 (Aj hr _) cb (gr.trans (.push _ _)) k
 .intro i σ hi I
  refine I _ λl' H' row di e l2 l3 l4 l7 l8 hr cb gr k=>?_
  subst e
  refine⟨_,_,nW hi,λagain dZ=>?_⟩
  obtain⟨c,Tc⟩:∃ c,b[i]? =some c:=⟨b[i],ZB hi⟩
  rw[mQ Tc] at k
  have i6:i<=1000:=Zu (Zx hi) hb
  repeat walk_at "o"
  refine j7 (wy Tc) (Zu i6 (by decide)) ?_
  repeat walk_at "o"
  refine Zt (eB (Dn (Zu i6 (by decide))) Kt (by decide)) ?_
  repeat walk_at "o"
  refine Zt (jR a ha) (Zt (Zu ha (by decide)) ?_)
  refine eR (af _ _) ?_
  refine Iv (a:=a) (c:=c) (row:=row) (fw:=(i:Int)*2) (di:=(i:Int)*2) (mn:=9223372036854775807) (B:=.str (S b)) (M:=.int m) G hD ha (hx c (List.mem_append_right _ (ZE Tc))) (λx q=>hx x (aaX _ q)) Dl h2 l2 l3 l4 l7 rfl rfl rfl rfl (Aj hr _) cb (gr.trans (.push _ _)) rfl λTd Te q2 q3 q4 q7 q8 Xb M1 Do=>?_
  rw[Int.mul_comm] at q8 Xb M1
  have k:∀ aE,aq hp aE->K (.int (if(fu c a row (2*(i:Int)) (2*(i:Int)) 9223372036854775807).2.2>m then m+1 else Aa a m (b.drop (i+1)) (i+1) (fu c a row (2*(i:Int)) (2*(i:Int)) 9223372036854775807).1 (fu c a row (2*(i:Int)) (2*(i:Int)) 9223372036854775807).2.1)) aE:=k
  repeat walk_at "o"
  refine Zt (λq=>?_) (λq=>?_)
  .rw[if_pos (of_decide_eq_true q)] at k
   repeat walk_at "o"
   exact k _ Do
  .rw[if_neg (of_decide_eq_false q)] at k
   exact dZ _ λP k'=>k' _ _ _ _ rfl q2 q3 q4 q7 q8 M1 (Ak cb) Do k
 .intro σ I
  refine I _ λl' H' row di e l2 l3 l4 l7 l8 hr cb gr k=>?_
  subst e
  rw[List.drop_length] at k
  refine⟨dj,?_⟩
  repeat walk_at "o"
  exact k _ gr
theorem sJ (n:Nat):Builtin.Range.rangeSize 2 (2*((n:Int)+1)) 2=(n:Int):=by
 unfold Builtin.Range.rangeSize
 rw[if_pos (by decide)]
 split<;>(first|exact la [_] [] [] (.E (.a (.d (.s (.s (.m 2 (.a (.c .v0) .n1)) .n2) .n1) 2) .n1) (.c .v0)) (.k false (.d (.s (.s (.m 2 (.a (.c .v0) .n1)) .n2) .n1) 2) (.o 0 (.f [2,1]) (.f [2,0,1]))) rfl|exact la [_] [] [.n (.T .n2 (.m 2 (.a (.c .v0) .n1)))] (.E .n0 (.c .v0)) (.o 0 (.f [2,1]) (.f [1])) rfl ‹_›)
theorem yd (n:Nat) (h:n<=1000):Builtin.Range.small 2 (2*((n:Int)+1)) 2=true:=by
 unfold Builtin.Range.small
 rw[sJ]
 have f:∀ x:Int,-4000<=x->x<=4000->Builtin.Range.rangeFitsLong x=true:=λx h1 h2=>by
  unfold Builtin.Range.rangeFitsLong
  rw[ZK,decide_eq_true_iff,decide_eq_true_iff]
  exact la [] [_] [.L (.g (.n 4000)) .V0,.L .V0 (.n 4000)] (.a (.L (.g (.n 9223372036854775808)) .V0) (.T .V0 (.n 9223372036854775808))) (.o 0 (.f [1,0,1]) (.f [1,1])) rfl h1 h2
 rw[f _ (by exact la [] [] [] (.L (.g (.n 4000)) .n2) (.f [1]) rfl) (by exact la [] [] [] (.L .n2 (.n 4000)) (.f [1]) rfl),f _ (by exact la [_] [] [] (.L (.g (.n 4000)) (.m 2 (.a (.c .v0) .n1))) (.f [1]) rfl) (by exact la [_] [] [.l .v0 (.n 1000)] (.L (.m 2 (.a (.c .v0) .n1)) (.n 4000)) (.f [2,1]) rfl h),f _ (by exact la [_] [] [] (.L (.g (.n 4000)) (.c .v0)) (.f [1]) rfl) (by exact la [_] [] [.l .v0 (.n 1000)] (.L (.c .v0) (.n 4000)) (.f [1,1]) rfl h),if_pos (by decide),f _ (by exact la [_] [] [] (.L (.g (.n 4000)) (.a (.m 2 (.a (.c .v0) .n1)) (.s .n2 .n1))) (.f [1]) rfl) (by exact la [_] [] [.l .v0 (.n 1000)] (.L (.a (.m 2 (.a (.c .v0) .n1)) (.s .n2 .n1)) (.n 4000)) (.f [2,1]) rfl h),Bool.or_true]
 rfl
theorem ye (n:Nat):(List.range n).map (λk:Nat=>PV.int (2+(k:Int)*2))=aa (su n):=by unfold aa su;rw[List.map_map];rfl
theorem wz {cx:Cx} {A:Nat->Addr} (G:GG cx A) (hD:cx.D (A 102)=some oX) {a b:List Nat} {m:Int} {hp:List PO} (ha:a.length<=1000) (hb:b.length<=1000) (hx:∀ x∈a++b,(Txt.lower (S [x])).length<=3) (h2:2<=hp.length)
  {K:PV->List PO->Prop} {l:Loc} (l2:l.get 2=some (.str (S a))) (l3:l.get 3=some (.str (S b))) (l4:l.get 4=some (.int m))
  (k:∀ aE,aq hp aE->K (.int (oY a b m)) aE):aF cx Fm (cW K) {loc:=l,ce:=[],hp:=hp}:=by
 have h4:bl ((a.length:Int)+1)<=14:=Dn (by exact la [_] [] [.l .v0 (.n 1000)] (.l (.b (.a (.c .v0) .n1)) (.n 10000)) (.k true (.b (.a (.c .v0) .n1)) (.o 0 (.f [0,1,0,1,1]) (.f [0,1,0,0,1]))) rfl ha)
 have h3:bl ((b.length:Int)-(a.length:Int))<=14:=Dn (by exact la [_,_] [] [.l .v0 (.n 1000),.l .v1 (.n 1000)] (.l (.b (.s (.c .v1) (.c .v0))) (.n 10000)) (.k true (.b (.s (.c .v1) (.c .v0))) (.o 0 (.f [0,1,0,1,0,1]) (.f [0,1,0,0,1,1]))) rfl ha hb)
 unfold oY at k
 repeat walk_at "o"
 refine Zt (jR b hb) ?_
 repeat walk_at "o"
 refine Zt (jR a ha) ?_
 repeat walk_at "o"
 refine Zt (eB h3 Kt (by decide)) ?_
 repeat walk_at "o"
 refine Zt (λq=>?_) (λq=>?_)
 .rw[if_pos (show((b.length:Int)-a.length)*2>m from of_decide_eq_true q)] at k
  repeat walk_at "o"
  exact k _ (.refl _)
 .rw[if_neg (show ¬ ((b.length:Int)-a.length)*2>m from of_decide_eq_false q)] at k
  repeat walk_at "o"
  refine Zt (jR a ha) ?_
  refine Zt (eB Kt h4 (by decide)) ?_
  repeat walk_at "o"
  refine Exists.intro a.length (Zt (by decide) (Zt (by decide) (Zt (yd _ ha) (Zt (sJ _) ?_))))
  refine Ld (af _ _) ?_
  refine Zt (Ai ha) ?_
  refine M0 (a:=a) (b:=b) (m:=m) (fx:=(hp++[PO.rng 2 2 a.length]).length) (row:=su a.length) (di:=0) G hD ha hb hx (by rw[Zw];exact aaq _ _) h2 l2 l3 l4 rfl rfl ((af _ _).trans (by rw[ye])) ((ZI ..).trans aaK) ((aq.push _ _).trans (.push _ _)) k
theorem nz (l:List Nat):(((S l).length:Int)!=0)= !l.isEmpty:=by rw[dX];cases l<;>simp;exact la [_] [] [] (.n (.E (.a (.c .v0) .n1) .n0)) (.f [0,1]) rfl
theorem M3 {l:List Nat} (h:l≠[]):(((S l).length:Int)!=0)=true:=by
 rw[nz]
 cases l with
 |nil=>exact absurd rfl h
 |cons=>rfl
theorem Iw {l:List Nat} (h:l=[]):(((S l).length:Int)!=0)=false:=by rw[nz,h];rfl
theorem Ix {cx:Cx} {A:Nat->Addr} (G:GG cx A) (hD:cx.D (A 102)=some oX) {a b:List Nat} {m:Int} {hp:List PO} (ha:a.length<=1000) (hb:b.length<=1000) (hx:∀ x∈a++b,(Txt.lower (S [x])).length<=3) (h2:2<=hp.length)
  {K:PV->List PO->Prop} {l:Loc} (l2:l.get 2=some (.str (S a))) (l3:l.get 3=some (.str (S b))) (l4:l.get 4=some (.int m))
  (k:∀ aE,aq hp aE->K (.int (uz a b m)) aE):aF cx Fp (cW K) {loc:=l,ce:=[],hp:=hp}:=by
 have sa:=jR a ha
 have sb:=jR b hb
 unfold uz at k
 have FL:a=[]\/b=[]->aF cx Fo (cW K) {loc:=l,ce:=[],hp:=hp}:=λq=>by
  rw[if_pos q] at k
  repeat walk_at "o"
  refine Zt sa ?_
  repeat walk_at "o"
  refine Zt sb ?_
  refine Zt (eB Kt (Dn (show((a.length:Int)+(b.length:Int)).natAbs<=10000 by exact la [_,_] [] [.l .v0 (.n 1000),.l .v1 (.n 1000)] (.l (.b (.a (.c .v0) (.c .v1))) (.n 10000)) (.k true (.b (.a (.c .v0) (.c .v1))) (.o 0 (.f [0,1,0,1,1,1]) (.f [0,1,0,0,0,1]))) rfl ha hb)) (by decide)) ?_
  exact k _ (.refl _)
 have far: ¬(a=[]\/b=[])->40<a.length\/40<b.length->aF cx Fn (cW K) {loc:=l,ce:=[],hp:=hp}:=λq1 q2=>by
  rw[if_neg q1,if_pos q2] at k
  repeat walk_at "o"
  exact k _ (.refl _)
 repeat walk_at "o"
 refine Zt sa ?_
 by_cases M4:a=[]
 .exact gY (by rw[Iw M4];rfl) (gY (by rw[Iw M4];rfl) (FL (.inl M4)))
 refine gZ (by rw[M3 M4];rfl) ?_
 repeat walk_at "o"
 refine Zt sb ?_
 by_cases FM:b=[]
 .exact gY (by rw[Iw FM];rfl) (gY (by rw[Iw FM];rfl) (FL (.inr FM)))
 refine gZ (by rw[M3 FM];rfl) (gZ rfl ?_)
 have n0: ¬(a=[]\/b=[]):=λq=>q.elim M4 FM
 repeat walk_at "o"
 refine Zt sa ?_
 repeat walk_at "o"
 refine Zt (λq=>gY q (far n0 (.inl (aak.mp (of_decide_eq_true q))))) (λq=>?_)
 have h4: ¬ 40<a.length:=λz=>of_decide_eq_false q (aak.mpr z)
 repeat walk_at "o"
 refine Zt sb ?_
 repeat walk_at "o"
 refine Zt (λq=>gY q (far n0 (.inr (aak.mp (of_decide_eq_true q))))) (λq=>gZ rfl ?_)
 rw[if_neg n0,if_neg (λz=>z.elim h4 λz=>of_decide_eq_false q (aak.mpr z))] at k
 repeat walk_at "o"
 refine Zt sb ?_
 repeat walk_at "o"
 refine Zt sa ?_
 refine Zt (λq=>?_) (λq=>?_)
 .rw[if_pos (show b.length<a.length from aak.mp (of_decide_eq_true q))] at k
  repeat walk_at "o"
  refine Zt (by decide:(2:Nat)<=1000000) ?_
  refine Zt (by decide) ?_
  refine j6 (af _ _) (Zt rfl ?_)
  exact wz (a:=b) (b:=a) (m:=m) G hD hb ha (λx q=>hx x ((Z1.mp q).elim (λz=>List.mem_append_right _ z) λz=>aaX _ z)) (by rw[Zw];exact ZY h2) rfl rfl l4 λaE g=>k aE ((aq.push _ _).trans g)
 .rw[if_neg (show ¬ b.length<a.length from λz=>of_decide_eq_false q (aak.mpr z))] at k
  exact wz (a:=a) (b:=b) (m:=m) G hD ha hb hx h2 l2 l3 l4 k
theorem FO {s:Str} {b:List Nat} (e:s=S b) (h:b.length<=1000):aV s.length:=by rw[e];exact jR b h
theorem M6 {s:Str} {b:List Nat} (e:s=S b) (h:b≠[]):((s.length:Int)!=0)=true:=by rw[e];exact M3 h
theorem M7 {s:Str} {b:List Nat} (e:s=S b) (h:b=[]):((s.length:Int)!=0)=false:=by rw[e];exact Iw h
theorem wA {l:List Nat} {i c:Nat} (h:l[i]? =some c):l.drop i≠[]:=by rw[mQ h];exact λq=>nomatch q
theorem wB {l:List Nat} (i:Nat) (h:l.length<=1000):(l.drop i).length<=1000:=by rw[aa5];exact la [_,_] [] [.l .v0 (.n 1000)] (.l (.s .v0 .v1) (.n 1000)) (.k true (.s .v0 .v1) (.o 0 (.f [0,1,0,0,1]) (.f [0,1,0,1,1]))) rfl h
theorem Dp {l:List Nat} (i:Nat) (h:l.length<=1000):(l.take i).length<=1000:=by rw[Z6];exact la [_,_] [] [.l .v0 (.n 1000)] (.l (.i .v1 .v0) (.n 1000)) (.k true (.i .v1 .v0) (.o 0 (.f [0,1,1,1,1]) (.f [0,1,0,1,1]))) rfl h
theorem wC {c d:Nat} (h:c≠d):(({cps:=#[c]}:Str)=={cps:=#[d]})=false:=by
 rw[show(({cps:=#[c]}:Str)=={cps:=#[d]})=(S [c]==S [d]) from rfl,z8]
 exact decide_eq_false λq=>h (List.cons.inj q).1
theorem FP {c:Nat}:(({cps:=#[c]}:Str)=={cps:=#[c]})=true:=beq_self_eq_true _
noncomputable def Tf (a b:List Nat) (m:PV) (hp:List PO) (j:Nat) (σ:St):Prop:=∀ P:Prop,(∀ (l':Loc) (i:Nat),σ={loc:=l',ce:=[],hp:=hp}->l'.get 2=some (.str (S a))->l'.get 3=some (.str (S b))->l'.get 4=some m->l'.get 5=some (.int (i:Nat))->i+j=bp a b->P)->P
theorem Iy {cx:Cx} {A:Nat->Addr} (G:GG cx A) {a b:List Nat} {m:PV} {hp:List PO} (ha:a.length<=1000) (hb:b.length<=1000)
  {Q:ba} {l:Loc} (l2:l.get 2=some (.str (S a))) (l3:l.get 3=some (.str (S b))) (l4:l.get 4=some m) (l5:l.get 5=some (.int 0))
  (k:∀ l',l'.get 2=some (.str (S a))->l'.get 3=some (.str (S b))->l'.get 4=some m->l'.get 5=some (.int (bp a b:Nat))->aF cx z0 Q {loc:=l',ce:=[],hp:=hp}):
  aF cx Fs Q {loc:=l,ce:=[],hp:=hp}:=by
 refine iW (Tf a b m hp) ?_ (bp a b) λP k=>k l 0 rfl l2 l3 l4 l5 (aau _)
 intro j σ I again dZ
 refine I _ λl' i e l2 l3 l4 l5 kP=>?_
 subst e
 have s1:fD (S a) (some (i:Int)) none=S (a.drop i):=hJ a i (Zu (Zy (Z8 kP)) (bX (a:=a) (b:=b)))
 have s2:fD (S b) (some (i:Int)) none=S (b.drop i):=hJ b i (Zu (Zy (Z8 kP)) (cQ (a:=a) (b:=b)▸bX (a:=b) (b:=a)))
 have hk:i=bp a b->aF cx z0 Q {loc:=l',ce:=[],hp:=hp}:=λe=>k l' l2 l3 l4 (e▸l5)
 repeat walk_at "o"
 refine Zt rfl (Zt (jR a ha) (Zt (FO s1 (wB i ha)) ?_))
 cases qa:a[i]? with
 |none=>
  have e:i=bp a b:=by
   rcases aav (Zy (Z8 kP)) with q|q
   .obtain⟨c,q1,_⟩:=jo q;rw[qa] at q1;cases q1
   .exact q
  have z:=M7 s1 (List.drop_eq_nil_of_le (ZS.mp qa))
  exact gY (by rw[z];rfl) (gZ z (hk e))
 |some c=>
  have i6:i<=1000000:=Zu (Zx (Zv.mp qa).1) (Zu ha (by decide))
  refine gZ (by rw[M6 s1 (wA qa)];rfl) ?_
  repeat walk_at "o"
  refine Zt rfl (Zt (jR b hb) (Zt (FO s2 (wB i hb)) ?_))
  cases qb:b[i]? with
  |none=>
   have e:i=bp a b:=by
    rcases aav (Zy (Z8 kP)) with q|q
    .obtain⟨c,_,q1⟩:=jo q;rw[qb] at q1;cases q1
    .exact q
   have z:=M7 s2 (List.drop_eq_nil_of_le (ZS.mp qb))
   exact gY (by rw[z];rfl) (gZ z (hk e))
  |some d=>
   refine gZ (by rw[M6 s2 (wA qb)];rfl) ?_
   repeat walk_at "o"
   refine j7 (wy qa) i6 ?_
   repeat walk_at "o"
   refine j7 (wy qb) i6 ?_
   by_cases cd:c=d
   .subst cd
    have lt:i<bp a b:=by
     rcases aav (Zy (Z8 kP)) with q|q
     .exact q
     .rcases qU (a:=a) (b:=b) with z|z|⟨c',d',z1,z2,z3⟩
      .rw[<-q,qa] at z;cases z
      .rw[<-q,qb] at z;cases z
      .rw[<-q,qa] at z1;rw[<-q,qb] at z2;cases z1;cases z2;exact absurd rfl z3
    refine gZ (by rw[FP];rfl) (gY rfl ?_)
    refine pB l5 ?_
    exact dZ (j-1) _ (by exact la [_,_,_] [] [.e (.a .v0 .v1) .v2,.t .v0 .v2] (.e .v1 (.a (.s .v1 .n1) .n1)) (.o 0 (.k true (.s .v1 .n1) (.o 0 (.f [0,1,0,1,1,1]) (.f [0,1,0,1]))) (.k true (.s .v1 .n1) (.o 0 (.f [0,0,1,1]) (.f [1,0,0,1])))) rfl kP lt) λP k=>k _ (i+1) rfl l2 l3 l4 rfl (by exact la [_,_,_] [] [.e (.a .v0 .v1) .v2,.t .v0 .v2] (.e (.a (.a .v0 .n1) (.s .v1 .n1)) .v2) (.o 0 (.k true (.s .v1 .n1) (.o 0 (.f [0,0,1,1,0,1]) (.f [1,0,0,1,0,1]))) (.k true (.s .v1 .n1) (.o 0 (.f [0,1,0,1,1]) (.f [0,1,0,1,0,0,1])))) rfl kP lt)
   .have e:i=bp a b:=by
     rcases aav (Zy (Z8 kP)) with q|q
     .obtain⟨x,q1,q2⟩:=jo q;rw[qa] at q1;rw[qb] at q2;cases q1;cases q2;exact absurd rfl cd
     .exact q
    exact gY (by rw[wC cd];rfl) (gZ (wC cd) (hk e))
theorem ra {cx:Cx} {x i:Nat} {a:List Nat} {Q:bu} {σ:St} (lx:σ.loc.get x=some (.str (S a))) (l6:σ.loc.get 6=some (.int (-(i:Nat)))) (hi:i<=a.length) (ha:a.length<=1000) (k:Q (.str (S (a.take (a.length-i)))) σ):
  aZ cx (.slice (.loc x p0) .absent (.bop .Or (.cons (.loc 6 p0) (.cons (.none p0) .nil)) p0) .absent p0 p0) Q σ:=by
 refine ax lx ?_
 refine ax l6 ?_
 by_cases z:i=0
 .subst z
  refine gZ rfl (Zt rfl (Zt (jR a ha) ?_))
  rw[ya]
  rw[Nat.sub_zero,aay] at k
  exact k
 .refine gY (show((-(i:Int))!=0)=true from ?_) (Zt rfl (Zt (jR a ha) ?_))
  .rw[bne_iff_ne];exact la [_] [] [.n (.e .v0 .n0)] (.n (.E (.g (.c .v0)) .n0)) (.o 0 (.f [1]) (.f [1,1])) rfl z
  .rw[z9 a i hi (Nat.pos_of_ne_zero z)];exact k
theorem sK {cx:Cx} {x i:Nat} {a:List Nat} {Q:Bool->St->Prop} {σ:St} (lx:σ.loc.get x=some (.str (S a))) (l6:σ.loc.get 6=some (.int (-(i:Nat)))) (hi:i<=a.length) (ha:a.length<=1000) (k:Q (((S (a.take (a.length-i))).length:Int)!=0) σ):
  iB cx (.slice (.loc x p0) .absent (.bop .Or (.cons (.loc 6 p0) (.cons (.none p0) .nil)) p0) .absent p0 p0) Q σ:=
 ra (Q:=λv=>oJ v Q) lx l6 hi ha ⟨jR _ (Dp _ ha),k⟩
theorem Al {l:List Nat} {i c:Nat} (h:l.reverse[i]? =some c):(S l).cps[pj (S l).length (-(i:Nat)-1)]? =some c:=by
 have q:=(Zv.mp h).1
 rw[aab] at q
 rw[dX,show pj l.length (-(i:Int)-1)=l.length-1-i from by unfold pj;rw[if_pos (by exact la [_] [] [] (.T (.s (.g (.c .v0)) .n1) .n0) (.f [1]) rfl)];exact la [_,_] [] [] (.e (.t (.a (.s (.g (.c .v0)) .n1) (.c .v1))) (.s (.s .v1 .n1) .v0)) (.o 0 (.k true (.s (.s .v1 .n1) .v0) (.o 0 (.f [0,1,0,1]) (.k true (.s .v1 .n1) (.o 0 (.f [0,1,0,0,1,0,1]) (.k true (.t (.a (.s (.g (.c .v0)) .n1) (.c .v1))) (.o 0 (.f [1,0,0,0,1,0,0,1,0,1]) (.f [0,0,1,0,1,0,0,1,0,1]))))))) (.k true (.t (.a (.s (.g (.c .v0)) .n1) (.c .v1))) (.o 0 (.k true (.s (.s .v1 .n1) .v0) (.o 0 (.k true (.s .v1 .n1) (.o 0 (.f [0,0,1,0,0,0,0,1,0,1]) (.f [1,0,0,0,0,1,0,1,0,1]))) (.k true (.s .v1 .n1) (.o 0 (.f [0,0,1,0,0,0,0,1,0,1]) (.f [1,0,0,1,0,0,0,1,0,1]))))) (.f [0,1,0,1])))) rfl,MT,<-List.getElem?_reverse q]
 exact h
theorem sL {l:List Nat} {i c:Nat} (h:l.reverse[i]? =some c):i<l.length:=by
 have q:=(Zv.mp h).1
 rwa [aab] at q
theorem wD {l:List Nat} {i c:Nat} (h:l.reverse[i]? =some c):l.take (l.length-i)≠[]:=λq=>by
 have:=sL h
 have:=congrArg List.length q
 rw[Z6,abi] at this
 exact la [_,_] [] [.t .v0 .v1,.e (.i (.s .v1 .v0) .v1) .n0] .f (.k true (.i (.s .v1 .v0) .v1) (.o 0 (.k true (.s .v1 .v0) (.o 0 (.f [0,0,1,0,0,0,0,0,1]) (.f [1,0,0,1,0,0,0,1,1]))) (.f [1,0,0,0,1,1]))) rfl ‹_› this
theorem sM {l:List Nat} {i:Nat} (h:l.reverse[i]? =none):l.take (l.length-i)=[]:=by
 have:=ZS.mp h
 rw[aab] at this
 rw[Nat.sub_eq_zero_of_le this];rfl
theorem FQ {n i:Nat} (h:i<n): -(n:Int)<= -(i:Nat)-1:=by exact la [_,_] [] [.t .v0 .v1] (.L (.g (.c .v1)) (.s (.g (.c .v0)) .n1)) (.f [1,1]) rfl h
theorem FR {n i:Nat} (h:i<n) (h2:n<=1000):(-(i:Nat)-1:Int).natAbs<=1000000:=by exact la [_,_] [] [.t .v0 .v1,.l .v1 (.n 1000)] (.l (.b (.s (.g (.c .v0)) .n1)) (.n 1000000)) (.k true (.b (.s (.g (.c .v0)) .n1)) (.o 0 (.f [0,1,0,0,0,1]) (.f [0,1,0,1,1,1]))) rfl h h2
noncomputable def M8 (a b:List Nat) (m:PV) (hp:List PO) (j:Nat) (σ:St):Prop:=∀ P:Prop,(∀ (l':Loc) (i:Nat),σ={loc:=l',ce:=[],hp:=hp}->l'.get 2=some (.str (S a))->l'.get 3=some (.str (S b))->l'.get 4=some m->l'.get 6=some (.int (-(i:Nat)))->i+j=bp a.reverse b.reverse->P)->P
theorem Dq {cx:Cx} {A:Nat->Addr} (G:GG cx A) {a b:List Nat} {m:PV} {hp:List PO} (ha:a.length<=1000) (hb:b.length<=1000)
  {Q:ba} {l:Loc} (l2:l.get 2=some (.str (S a))) (l3:l.get 3=some (.str (S b))) (l4:l.get 4=some m) (l6:l.get 6=some (.int 0))
  (k:∀ l',l'.get 2=some (.str (S a))->l'.get 3=some (.str (S b))->l'.get 4=some m->l'.get 6=some (.int (-(bp a.reverse b.reverse:Nat)))->aF cx zZ Q {loc:=l',ce:=[],hp:=hp}):
  aF cx Fq Q {loc:=l,ce:=[],hp:=hp}:=by
 refine iW (M8 a b m hp) ?_ (bp a.reverse b.reverse) λP k=>k l 0 rfl l2 l3 l4 l6 (aau _)
 intro j σ I again dZ
 refine I _ λl' i e l2 l3 l4 l6 kP=>?_
 subst e
 have h1:i<=a.length:=Zu (Zy (Z8 kP)) (aab (as:=a)▸bX (a:=a.reverse) (b:=b.reverse))
 have h2:i<=b.length:=Zu (Zy (Z8 kP)) (aab (as:=b)▸(cQ (a:=a.reverse) (b:=b.reverse)▸bX (a:=b.reverse) (b:=a.reverse)))
 have hk:i=bp a.reverse b.reverse->aF cx zZ Q {loc:=l',ce:=[],hp:=hp}:=λe=>k l' l2 l3 l4 (e▸l6)
 refine sK l2 l6 h1 ha ?_
 cases qa:a.reverse[i]? with
 |none=>
  have e:i=bp a.reverse b.reverse:=by
   rcases aav (Zy (Z8 kP)) with q|q
   .obtain⟨c,q1,_⟩:=jo q;rw[qa] at q1;cases q1
   .exact q
  have z:=Iw (sM qa)
  exact gY (by rw[z];rfl) (gZ z (hk e))
 |some c=>
  refine gZ (by rw[M3 (wD qa)];rfl) ?_
  refine sK l3 l6 h2 hb ?_
  cases qb:b.reverse[i]? with
  |none=>
   have e:i=bp a.reverse b.reverse:=by
    rcases aav (Zy (Z8 kP)) with q|q
    .obtain⟨c,_,q1⟩:=jo q;rw[qb] at q1;cases q1
    .exact q
   have z:=Iw (sM qb)
   exact gY (by rw[z];rfl) (gZ z (hk e))
  |some d=>
   refine gZ (by rw[M3 (wD qb)];rfl) ?_
   repeat walk_at "o"
   refine uc (Al qa) (FQ (by rw[dX];exact sL qa)) (FR (sL qa) ha) ?_
   repeat walk_at "o"
   refine uc (Al qb) (FQ (by rw[dX];exact sL qb)) (FR (sL qb) hb) ?_
   by_cases cd:c=d
   .subst cd
    have lt:i<bp a.reverse b.reverse:=by
     rcases aav (Zy (Z8 kP)) with q|q
     .exact q
     .rcases qU (a:=a.reverse) (b:=b.reverse) with z|z|⟨c',d',z1,z2,z3⟩
      .rw[<-q,qa] at z;cases z
      .rw[<-q,qb] at z;cases z
      .rw[<-q,qa] at z1;rw[<-q,qb] at z2;cases z1;cases z2;exact absurd rfl z3
    refine gZ (by rw[FP];rfl) (gY rfl ?_)
    refine pB l6 ?_
    exact dZ (j-1) _ (by exact la [_,_,_] [] [.e (.a .v0 .v1) .v2,.t .v0 .v2] (.e .v1 (.a (.s .v1 .n1) .n1)) (.o 0 (.k true (.s .v1 .n1) (.o 0 (.f [0,1,0,1,1,1]) (.f [0,1,0,1]))) (.k true (.s .v1 .n1) (.o 0 (.f [0,0,1,1]) (.f [1,0,0,1])))) rfl kP lt) λP k=>k _ (i+1) rfl l2 l3 l4 (congrArg (λz=>some (PV.int z)) (show-(i:Int)-1= -((i+1:Nat):Int) by exact la [_] [] [] (.E (.s (.g (.c .v0)) .n1) (.g (.c (.a .v0 .n1)))) (.o 0 (.f [1]) (.f [1])) rfl)) (by exact la [_,_,_] [] [.e (.a .v0 .v1) .v2,.t .v0 .v2] (.e (.a (.a .v0 .n1) (.s .v1 .n1)) .v2) (.o 0 (.k true (.s .v1 .n1) (.o 0 (.f [0,0,1,1,0,1]) (.f [1,0,0,1,0,1]))) (.k true (.s .v1 .n1) (.o 0 (.f [0,1,0,1,1]) (.f [0,1,0,1,0,0,1])))) rfl kP lt)
   .have e:i=bp a.reverse b.reverse:=by
     rcases aav (Zy (Z8 kP)) with q|q
     .obtain⟨x,q1,q2⟩:=jo q;rw[qa] at q1;rw[qb] at q2;cases q1;cases q2;exact absurd rfl cd
     .exact q
    exact gY (by rw[wC cd];rfl) (gZ (wC cd) (hk e))
theorem qe (a b:List Nat):(bH a b).length<=a.length:=by unfold bH;rw[aa5];exact aa6 ..
theorem qf (a b:List Nat):(ec a b).length<=a.length:=by unfold ec;rw[Z6];exact aaQ ..
theorem sN {a b:List Nat} {x:Nat} (h:x∈cj a b):x∈a:=List.drop_subset _ _ (List.take_subset _ _ h)
theorem yf (a b:List Nat):ec b a=b.take (b.length-bp a.reverse b.reverse):=by unfold ec;rw[cQ]
theorem Iz {cx:Cx} {A:Nat->Addr} (G:GG cx A) (hD:cx.D (A 102)=some oX) {ps:List PV} {hp:List PO} {K:PV->List PO->Prop} (h:nT ps hp K):
  bc cx (am "_levenshtein_distance") [2,3,4] [] [] (aQ "_levenshtein_distance") ps hp K:=by
 obtain⟨a,b,m,rfl,ha,hb,hx,h2,k⟩:=h
 refine gI rfl fU (l:=[(4,.int m),(3,.str (S b)),(2,.str (S a))]) rfl ?_
 unfold qV at k
 refine Zt (λq=>?_) (λq=>?_)
 .rw[z8] at q
  rw[if_pos (of_decide_eq_true q)] at k
  exact k _ (.refl _)
 .rw[z8] at q
  rw[if_neg (of_decide_eq_false q)] at k
  refine Iy (a:=a) (b:=b) (m:=.int m) G ha hb rfl rfl rfl rfl λl l2 l3 l4 l5=>?_
  have s1:fD (S a) (some (bp a b:Nat)) none=S (bH a b):=hJ a _ bX
  have s2:fD (S b) (some (bp a b:Nat)) none=S (bH b a):=by rw[cQ];exact hJ b _ bX
  have Tg:(bH a b).length<=1000:=Zu (qe a b) ha
  have M9:(bH b a).length<=1000:=Zu (qe b a) hb
  repeat walk_at "o"
  refine Zt rfl (Zt (jR a ha) ?_)
  repeat walk_at "o"
  refine Zt rfl (Zt (jR b hb) ?_)
  rw[s1,s2]
  have cl:∀ x y:List Nat,bp x.reverse y.reverse<=x.length:=λx y=>aab (as:=x)▸bX (a:=x.reverse) (b:=y.reverse)
  refine Dq (a:=bH a b) (b:=bH b a) (m:=.int m) G Tg M9 rfl rfl l4 rfl λl' q2 q3 q4 q6=>?_
  refine ra q2 q6 (cl _ _) Tg ?_
  refine ra q3 q6 (by rw[cQ];exact cl _ _) M9 ?_
  refine Ix (a:=ec (bH a b) (bH b a)) (b:=ec (bH b a) (bH a b)) (m:=m) G hD (Zu (qf _ _) Tg) (Zu (qf _ _) M9) (λx q=>hx x ?_) h2 rfl (by rw[yf (bH a b)];rfl) q4 k
  rcases Z1.mp q with q|q
  .exact aaX _ (sN (a:=a) (b:=b) q)
  .exact List.mem_append_right _ (sN (a:=b) (b:=a) q)
theorem bO (l:List Int):cS (aa l)=some l:=by
 induction l with
 |nil=>rfl
 |cons x r ih=>exact congrArg (Option.map _) ih
noncomputable def ah (l:List Nat):List Int:=l.map λn:Nat=>(n:Int)
theorem aG (l:List Nat):(ah l).length=l.length:=by simp [ah]
theorem wE (l:List Nat) (i:Nat):(aa (ah l))[i]? =(l[i]?).map λn:Nat=>.int (n:Int):=by
 simp [aa,ah]
 rfl
theorem ac {H:List PO} {i:Nat} {o:PO} (h:H[i]? =some o) (t:PO):(H++[t])[i]? =some o:=Aj h t
theorem d9 {H:List PO} {i:Nat} {o:PO} (h:H[i]? =some o) (o':PO):(H.set i o')[i]? =some o':=List.getElem?_set_self (Zv.mp h).1
theorem az {H:List PO} {i j:Nat} {o o':PO} (h:H[i]? =some o) (n:j≠i):(H.set j o')[i]? =some o:=by rw[List.getElem?_set_ne n];exact h
noncomputable def mE (P:List Nat):Nat->Nat->Nat->List Nat
 |0,_,_=>[]
 |k+1,f,s=>if f=s then[] else max f s::mE P k (min f s) (P.getD (max f s) 0)
noncomputable def yg (x:Nat):List Nat->List Nat
 | []=>[x]
 |y::r=>if x<=y then x::y::r else y::yg x r
noncomputable def Ku:List Nat->List Nat
 | []=>[]
 |x::r=>yg x (Ku r)
noncomputable def bs (P:List Nat) (f s:Nat):List Nat:=Ku (mE P (f+s) f s)
theorem k9 {P:List Nat} {k f s:Nat}:mE P (k+1) f s=if f=s then[] else max f s::mE P k (min f s) (P.getD (max f s) 0):=rfl
theorem sO (P:List Nat) (k:Nat):∀ f s,(mE P k f s).length<=k:=by
 induction k with
 |zero=>exact λø ø=>ZA 0
 |succ k ih=>
  intro f s
  rw[k9]
  by_cases e:f=s
  .rw[if_pos e];exact ZM _
  .rw[if_neg e];exact aaP (ih ..)
theorem Dr (P:List Nat):∀ k f,mE P k f f=[]
 |0,_=>rfl
 |k+1,f=>by rw[mE,if_pos rfl]
theorem qh {x y:Nat} {r:List Nat}:yg x (y::r)=if x<=y then x::y::r else y::yg x r:=rfl
theorem qi (x:Nat) (l:List Nat):(yg x l).Perm (x::l):=by
 induction l with
 |nil=>exact .refl _
 |cons y r ih=>
  rw[qh]
  by_cases h:x<=y
  .rw[if_pos h]
  .rw[if_neg h];exact(ih.cons y).trans (.swap x y r)
theorem nX (l:List Nat):(Ku l).Perm l:=by
 induction l with
 |nil=>exact .refl _
 |cons x r ih=>exact(qi x (Ku r)).trans (ih.cons x)
theorem sP (x:Nat) {l:List Nat}:l.Pairwise (. <= .)->(yg x l).Pairwise (. <= .):=by
 induction l with
 |nil=>exact λø=>.cons nofun .nil
 |cons y r ih=>
  intro h
  rw[qh]
  obtain⟨h1,h2⟩:=List.pairwise_cons.mp h
  by_cases c:x<=y
  .rw[if_pos c]
   refine List.pairwise_cons.mpr ⟨λz hz=>?_,h⟩
   rcases ZF.mp hz with rfl|hz
   .exact c
   .exact Zu c (h1 z hz)
  .rw[if_neg c]
   refine List.pairwise_cons.mpr ⟨λz hz=>?_,ih h2⟩
   rcases ZF.mp ((qi x r).mem_iff.mp hz) with rfl|hz
   .exact Nat.le_of_not_le c
   .exact h1 z hz
theorem uF (l:List Nat):(Ku l).Pairwise (. <= .):=by
 induction l with
 |nil=>exact .nil
 |cons x r ih=>exact sP x ih
theorem Am {l:List Nat} {ns:List Int} (hp:ns.Perm (ah l)) (hs:ns.Pairwise (. <= .)):ns=ah (Ku l):=by
 refine List.Perm.eq_of_pairwise (le:=(. <= .)) (λa b ø ø h1 h2=>by exact la [] [_,_] [.L .V0 .V1,.L .V1 .V0] (.E .V0 .V1) (.o 0 (.f [1,1]) (.f [1,0,1])) rfl h1 h2) hs ?_ (hp.trans ((nX l).map _).symm)
 unfold ah
 rw[List.pairwise_map]
 exact(uF l).imp λh=>by exact la [_,_] [] [.l .v0 .v1] (.L (.c .v0) (.c .v1)) (.f [1,1]) rfl h
structure Tree (P:List Nat):Prop where
 len:P.length=5
 lt:∀ k v,P[k]? =some v->v<=k/\(0<k->v<k)
noncomputable def lf:Spec:=λps hp K=>∃ f s aS P,ps=[.int (f:Nat),.int (s:Nat),.ref aS]/\hp[aS]? =some (.list (aa (ah P)))/\Tree P/\f<5/\s<5/\2<=hp.length/\
 ∀ aE i,aq hp aE->hp.length<=i->aE[i]? =some (.list (aa (ah (bs P f s))))->K (.ref i) aE
noncomputable def Th (P:List Nat) (f s aS:Nat) (hp:List PO) (j:Nat) (σ:St):Prop:=∀ C:Prop,(∀ (l:Loc) (H:List PO) (f' s':Nat) (aD:List Nat) (m:Nat),σ={loc:=l,ce:=[],hp:=H}->l.get 56=some (.int (f':Nat))->l.get 57=some (.int (s':Nat))->l.get 58=some (.ref aS)->l.get 59=some (.ref hp.length)->
   H[aS]? =some (.list (aa (ah P)))->H[hp.length]? =some (.list (aa (ah aD)))->aq hp H->f'<5->s'<5->f'+s'<=m->aD++mE P m f' s'=mE P (f+s) f s->j=(mE P m f' s').length->aD.length+j<=60->C)->C
theorem Xc (a b:Nat):(if(b:Int)<(a:Int) then(b:Int) else(a:Int))=((min a b:Nat):Int):=by split<;>(first|exact la [_,_] [] [.T (.c .v0) (.c .v1)] (.E (.c .v0) (.c (.i .v1 .v0))) (.o 0 (.k true (.i .v1 .v0) (.o 0 (.f [0,0,1,0,1]) (.f [0,1,0,1]))) (.k true (.i .v1 .v0) (.o 0 (.f [1,0,0,1,1]) (.f [1,0,0,1])))) rfl ‹_› |exact la [_,_] [] [.n (.T (.c .v0) (.c .v1))] (.E (.c .v1) (.c (.i .v1 .v0))) (.o 0 (.k true (.i .v1 .v0) (.o 0 (.f [0,1,0,1]) (.f [0,1,1,1]))) (.k true (.i .v1 .v0) (.o 0 (.f [1,0,0,1]) (.f [1,0,0,1,1])))) rfl ‹_›)
theorem Xd (a b:Nat):(if(b:Int)>(a:Int) then(b:Int) else(a:Int))=((max a b:Nat):Int):=by split<;>(first|exact la [_,_] [] [.T (.c .v0) (.c .v1)] (.E (.c .v1) (.c (.x .v0 .v1))) (.o 0 (.k true (.x .v0 .v1) (.o 0 (.f [0,1,0,1]) (.f [0,1,0,1,1]))) (.k true (.x .v0 .v1) (.o 0 (.f [1,0,0,1]) (.f [0,0,1,0,1])))) rfl ‹_› |exact la [_,_] [] [.n (.T (.c .v0) (.c .v1))] (.E (.c .v0) (.c (.x .v0 .v1))) (.o 0 (.k true (.x .v0 .v1) (.o 0 (.f [0,1,0,1,1]) (.f [0,1,0,1]))) (.k true (.x .v0 .v1) (.o 0 (.f [1,0,1,1]) (.f [1,0,0,1])))) rfl ‹_›)
theorem cR (aD:List Nat) (x:Nat):aa (ah aD)++[PV.int (x:Int)]=aa (ah (aD++[x])):=by unfold aa ah;rw[ZT,ZT];rfl
theorem bJ {P:List Nat} {i v:Nat} (h:P[i]? =some v):(aa (ah P))[i]? =some (.int (v:Nat)):=by rw[wE,h];rfl
theorem Ds {n:Nat} (h:n<=60):aV n:=Zu h (by decide)
theorem f6 {n k:Nat} (h:n<=k) (hk:Nat.ble k 1000000=true):n<=1000000:=Zu h (Zz hk)
theorem IA {cx:Cx} {A:Nat->Addr} (G:GG cx A) {ps:List PV} {hp:List PO} {K:PV->List PO->Prop} (h:lf ps hp K):
  bc cx (am "_law_way") [56,57,58] [] [] (aQ "_law_way") ps hp K:=by
 obtain⟨f,s,aS,P,rfl,hP,T,hf,hs,h2,k⟩:=h
 refine gI rfl qP (l:=[(58,.ref aS),(57,.int (s:Nat)),(56,.int (f:Nat))]) rfl ?_
 have Co:=(Zv.mp hP).1
 refine Zt (ZM _) ?_
 refine iW (Th P f s aS hp) ?_ (mE P (f+s) f s).length λC k=>k _ _ f s [] (f+s) rfl rfl rfl rfl rfl (ac hP _) (af _ _) (.push _ _) hf hs (ZA _) rfl rfl
  (by rw[abi,aau];exact Zu (sO P (f+s) f s) (Zu (aac (Zx hf) (Zx hs)) (by decide)))
 intro j σ I again dZ
 refine I _ λl H f' s' aD m e Zd Ze l58 l59 Vz hE gr Kp HJ hm oM hj PG=>?_
 subst e
 have Cr:aD.length<=60:=Zu (aaq _ _) PG
 have sE:aV (aa (ah aD)).length:=by rw[ar,aG];exact Ds Cr
 repeat walk_at "o"
 by_cases e:f'=s'
 .subst e
  rw[Dr,ZV] at oM
  refine Zt (λz=>absurd z (by rw[bne_self_eq_false];exact aaF)) (λø=>?_)
  repeat walk_at "o"
  refine cq hE (jI (bO _) (Zt (by rw[aG];exact ZW Cr (by decide)) λGW aE HJ=>?_))
  refine k _ _ (gr.trans (.push _ _)) gr.le ?_
  show(H++[PO.list (aa GW)])[H.length]? =_
  rw[af,Am aE HJ,oM]
  rfl
 .refine gY (bne_iff_ne.mpr λq=>e (aaI q)) ?_
  have VA:hp.length≠aS:=aam Co
  have pF:max f' s'<P.length:=by rw[T.len];exact Nat.max_lt.mpr ⟨Kp,HJ⟩
  obtain⟨v,hv⟩:∃ v,P[max f' s']? =some v:=⟨_,ZB pF⟩
  have VB:=(T.lt _ _ hv).2 (by exact la [_,_] [] [.n (.e .v0 .v1)] (.t .n0 (.x .v0 .v1)) (.o 0 (.k true (.x .v0 .v1) (.o 0 (.f [1,0,0,1,1]) (.f [0,0,1,1]))) (.k true (.x .v0 .v1) (.o 0 (.f [0,0,1,1]) (.f [1,0,0,1,1])))) rfl e)
  have Xe:P.getD (max f' s') 0=v:=by rw[ZC,hv];rfl
  have h6:max f' s'<=1000000:=Zu (Zx (Nat.max_lt.mpr ⟨Kp,HJ⟩)) (by decide)
  obtain⟨m,rfl⟩:∃ m',m=m'+1:=⟨m-1,by exact la [_,_,_] [] [.l (.a .v0 .v1) .v2,.n (.e .v0 .v1)] (.e .v2 (.a (.s .v2 .n1) .n1)) (.o 0 (.o 1 (.k true (.s .v2 .n1) (.o 0 (.f [0,1,0,1,1,1]) (.f [0,1,0,1]))) (.k true (.s .v2 .n1) (.o 0 (.f [0,0,1,1]) (.f [1,0,0,1])))) (.o 1 (.k true (.s .v2 .n1) (.o 0 (.f [0,1,0,1,1,1]) (.f [0,1,0,1]))) (.k true (.s .v2 .n1) (.o 0 (.f [0,0,1,1]) (.f [1,0,0,1]))))) rfl hm e⟩
  rw[k9,if_neg e,Xe] at oM hj
  rw[ZL] at hj
  repeat walk_at "o"
  refine Zt (by decide:(2:Nat)<=1000000) ?_
  refine Zt (by decide) ?_
  refine j6 (af _ _) (Zt rfl ?_)
  repeat walk_at "o"
  rw[Xc,Xd]
  refine Zt (e7 (ac hE _) trivial) ?_
  refine cq (ac hE _) (Zt sE ?_)
  repeat walk_at "o"
  refine ay (az (ac Vz _) VA) (bJ hv) h6 ?_
  refine Zt (by decide:(2:Nat)<=1000000) ?_
  refine Zt (by decide) ?_
  refine j6 (af _ _) (Zt rfl ?_)
  rw[cR]
  refine dZ (j-1) _ (by exact la [_,_] [] [.e .v0 (.a .v1 .n1)] (.e .v0 (.a (.s .v0 .n1) .n1)) (.o 0 (.k true (.s .v0 .n1) (.o 0 (.f [0,1,0,1,1]) (.f [0,1,0,1]))) (.k true (.s .v0 .n1) (.o 0 (.f [0,0,1,1]) (.f [1,0,0,1])))) rfl hj) λC k=>k _ _ (min f' s') v (aD++[max f' s']) m rfl rfl rfl l58 l59 (ac (az (ac Vz _) VA) _) (ac (d9 (ac hE _) _) _) (((gr.trans (.push _ _)).set (ZA _) h2 λq e=>by rw[ac hE] at e;cases e).trans (.push _ _)) (by exact la [_,_] [] [.t .v0 (.n 5)] (.t (.i .v0 .v1) (.n 5)) (.k true (.i .v0 .v1) (.o 0 (.f [0,1,0,1,1]) (.f [0,1,1,1,1]))) rfl Kp) (by exact la [_,_,_] [] [.t .v0 (.n 5),.t .v1 (.n 5),.t .v2 (.x .v0 .v1)] (.t .v2 (.n 5)) (.k true (.x .v0 .v1) (.o 0 (.f [0,1,0,1,1,0,1]) (.f [0,1,0,1,0,1,1]))) rfl Kp HJ VB) (by exact la [_,_,_,_] [] [.t .v0 (.x .v1 .v2),.l (.a .v1 .v2) (.a .v3 .n1)] (.l (.a (.i .v1 .v2) .v0) .v3) (.k true (.x .v1 .v2) (.o 0 (.k true (.i .v1 .v2) (.o 0 (.f [0,1,0,0,1,0,1,1,1]) (.f [0,1,1,0,1,0,1,1,1]))) (.k true (.i .v1 .v2) (.o 0 (.f [0,1,1,0,1,0,1,1,1]) (.f [0,1,0,0,1,0,1,1,1]))))) rfl VB hm) ?_ (by rw[hj];rfl) ?_
  .rw[<-oM,ZH];rfl
  .rw[Zw,List.length_singleton];exact la [_,_,_] [] [.l (.a .v0 .v1) (.n 60),.e .v1 (.a .v2 .n1)] (.l (.a (.a .v0 .n1) (.s .v1 .n1)) (.n 60)) (.k true (.s .v1 .n1) (.o 0 (.f [0,1,0,1,0,1,1]) (.f [0,1,0,0,0,1,1]))) rfl PG hj
noncomputable def An:List (PyData×PyData):=[(.int 1,.str "OPTIMIZED"),(.int 2,.str "NEWLOCALS"),(.int 4,.str "VARARGS"),(.int 8,.str "VARKEYWORDS"),(.int 16,.str "NESTED"),(.int 32,.str "GENERATOR"),(.int 64,.str "NOFREE"),(.int 128,.str "COROUTINE"),(.int 256,.str "ITERABLE_COROUTINE"),(.int 512,.str "ASYNC_GENERATOR")]
noncomputable def Dt (n:Int):Str:=baseText "0x" 16 n
noncomputable def sQ (n:Int):Option Str:=match PySem.Spec.lookup (.int n) An with
 |some (.str x)=>some x
 |none=>some (Dt n)
 |_=>none
noncomputable def Cs:Nat->Nat->Int->List Str->Option (List Str)
 |0,_,fl,aD=>if fl=0 then some (aD++[Dt 0]) else none
 |k+1,i,fl,aD=>
  if Builtin.bitAnd fl (1*2^i)=0 then Cs k (i+1) fl aD
  else match sQ (1*2^i) with
   |none=>none
   |some x=>if Builtin.bitXor fl (1*2^i)=0 then some (aD++[x]) else Cs k (i+1) (Builtin.bitXor fl (1*2^i)) (aD++[x])
noncomputable def d8 (l:List Str):List PV:=l.map .str
theorem ia (l:List Str):cC (d8 l)=some l:=by
 induction l with
 |nil=>rfl
 |cons x r ih=>exact congrArg (Option.map _) ih
noncomputable def FS:Spec:=λps hp K=>∃ n ys,ps=[.int n]/\Cs 32 0 n []=some ys/\aV ((ys.map (·.length)).sum+ys.length*2)/\2<=hp.length/\∀ aE,aq hp aE->K (.str (Txt.join ", " ys)) aE
theorem IB:∀ i<32,(baseText "0x" 16 (1*2^i)).length<=sizeLine:=by decide+kernel
theorem km (aD:List Str) (x:Str):d8 aD++[PV.str x]=d8 (aD++[x]):=by unfold d8;rw[ZT];rfl
theorem Ao {aD:List Str} {n:Nat} (h:aD.length<=n) (h2:Nat.ble n 1000000=true):aV (d8 aD).length:=by unfold d8;rw[ZI];exact f6 h h2
theorem IC {α:Type} {o:Option α} {v:α} (h:o=some v):o.isSome=true:=by rw[h];rfl
theorem Na {o:Option (List (PyData×PyData))} {v:List (PyData×PyData)} {A:List (PyData×PyData)->Prop}:o=some v->A v->(match o with|some v=>A v|none=>False):=λh k=>by subst h;exact k
theorem Nb {o:Option PyData} {F:Int} {x:Str} {A:Str->Prop}:(o=some (.str x)\/(o=none/\baseText "0x" 16 F=x))->A x->(match o with|some (.str x)=>A x|none=>A (baseText "0x" 16 F)|_=>False):=λhl k=>by
 rcases hl with e|⟨e,e2⟩
 .rw[e];exact k
 .rw[e,e2];exact k
noncomputable def Xf (ys:List Str) (hp:List PO) (i:Nat) (σ:St):Prop:=∀ C:Prop,(∀ (l:Loc) (H:List PO) (fl:Int) (aD:List Str),σ={loc:=l,ce:=[],hp:=H}->l.get 41=some (.int fl)->l.get 42=some (.ref hp.length)->H[hp.length]? =some (.list (d8 aD))->aD.length<=i->aq hp H->Cs (32-i) i fl aD=some ys->C)->C
set_option tactic.hygienic true in
theorem Nc {cx:Cx} {A:Nat->Addr} (G:GG cx A) (hT:cx.T (A 101)=some An) {ps:List PV} {hp:List PO} {K:PV->List PO->Prop} (h:FS ps hp K):
  bc cx (am "pretty_flags") [41] [] [] (aQ "pretty_flags") ps hp K:=by
 obtain⟨n,ys,rfl,hy,Kv,h2,k⟩:=h
 refine gI rfl k6 (l:=[(41,.int n)]) rfl ?_
 have ck:∀ l H PH,l.get 42=some (.ref hp.length)->H[hp.length]? =some (.list (d8 PH))->PH=ys->aq hp H->aF cx Mj (cW K) {loc:=l,ce:=[],hp:=H}:=λl H PH Kw hN e gr=>by
  subst e
  refine Zt trivial ?_
  repeat walk_at "o"
  exact cq hN (y6 (ia _) (Zt Kv (k _ gr)))
 refine Zt (ZM _) ?_
 repeat walk_at "o"
 refine Zt (by decide) ?_
 refine eR (af _ _) ?_
 refine fI 32 (λi=>.rng 0 1 32 i) (Xf ys hp) ?_ ?_ λC k=>k _ _ n [] rfl rfl rfl (ac (af _ _) _) (ZM _) ((aq.push _ _).trans (.push _ _)) hy
 .intro i σ hi I
  refine I _ λl H fl aD e Nd Kw hN Cr gr hy=>?_
  subst e
  refine⟨_,_,nW hi,λagain dZ=>?_⟩
  obtain⟨k',qD⟩:∃ k',32-i=k'+1:=⟨31-i,by exact la [_] [] [.t .v0 (.n 32)] (.e (.s (.n 32) .v0) (.a (.s (.n 31) .v0) .n1)) (.o 0 (.k true (.s (.n 31) .v0) (.o 0 (.k true (.s (.n 32) .v0) (.o 0 (.f [0,0,1,0,0,0,0,1]) (.f [1,0,0,0,1,0,1,1]))) (.k true (.s (.n 32) .v0) (.o 0 (.f [0,0,1,0,0,1]) (.f [1,0,0,0,1,0,1]))))) (.k true (.s (.n 32) .v0) (.o 0 (.f [0,1,0,1]) (.k true (.s (.n 31) .v0) (.o 0 (.f [0,0,1,0,1,0,1]) (.f [1,0,0,0,1,0,1])))))) rfl hi⟩
  have PI:32-(i+1)=k':=by exact la [_,_] [] [.e (.s (.n 32) .v0) (.a .v1 .n1)] (.e (.s (.n 32) (.a .v0 .n1)) .v1) (.o 0 (.k true (.s (.n 32) (.a .v0 .n1)) (.o 0 (.k true (.s (.n 32) .v0) (.o 0 (.f [0,1,0,0,0,0,1,1]) (.f [0,1,0,0,0,1,1,1]))) (.k true (.s (.n 32) .v0) (.o 0 (.f [0,1,0,0,0,0,1,1]) (.f [0,1,0,1,0,0,1,1]))))) (.k true (.s (.n 32) (.a .v0 .n1)) (.o 0 (.f [0,1,0,1]) (.k true (.s (.n 32) .v0) (.o 0 (.f [0,0,1,0,1,0,1]) (.f [1,0,0,0,1,0,1,0,1])))))) rfl qD
  rw[qD] at hy
  have hy:(if Builtin.bitAnd fl (1*2^i)=0 then Cs k' (i+1) fl aD
   else match sQ (1*2^i) with
    |none=>none
    |some x=>if Builtin.bitXor fl (1*2^i)=0 then some (aD++[x]) else Cs k' (i+1) (Builtin.bitXor fl (1*2^i)) (aD++[x]))=some ys:=hy
  refine Zt (ZP i) (Zt (Int.le_trans (Int.add_le_add (aaf.mpr (dL (x:=1) (n:=1) (by decide))) (aaf.mpr (Zx hi))) (by decide)) ?_)
  repeat walk_at "o"
  by_cases z:Builtin.bitAnd fl (1*2^i)=0
  .rw[if_pos z] at hy
   refine Zt (λq=>absurd z (bne_iff_ne.mp q)) λø=>?_
   exact dZ _ λC k=>k _ _ fl aD rfl Nd Kw hN (Nat.le_succ_of_le Cr) gr (by rw[PI];exact hy)
  .rw[if_neg z] at hy
   obtain⟨x,Kx⟩:∃ x,sQ (1*2^i)=some x:=by
    cases q:sQ (1*2^i) with
    |none=>rw[q] at hy;cases hy
    |some x=>exact⟨x,rfl⟩
   rw[Kx] at hy
   have hy:(if Builtin.bitXor fl (1*2^i)=0 then some (aD++[x]) else Cs k' (i+1) (Builtin.bitXor fl (1*2^i)) (aD++[x]))=some ys:=hy
   have hl:PySem.Spec.lookup (.int (1*2^i)) An=some (.str x)\/(PySem.Spec.lookup (.int (1*2^i)) An=none/\baseText "0x" 16 (1*2^i)=x):=by
    unfold sQ at Kx
    split at Kx
    .rename_i q;cases Kx;exact .inl q
    .rename_i q;exact .inr ⟨q,aan Kx⟩
    .cases Kx
   refine gY (bne_iff_ne.mpr z) ?_
   repeat walk_at "o"
   refine Zt (e7 hN trivial) ?_
   repeat walk_at "o"
   refine Zt (IC hT) ?_
   repeat walk_at "o"
   refine Zt (IB i hi) ?_
   refine Na hT (Nb hl ?_)
   refine cq hN (Zt (Ao (Zu Cr (Zx hi)) rfl) ?_)
   rw[km]
   have g':aq hp (H.set hp.length (.list (d8 (aD++[x])))):=gr.set (ZA _) h2 λq e=>by rw[hN] at e;cases e
   refine pB Nd ?_
   refine Zt (λq=>?_) (λq=>?_)
   .rw[if_pos (show Builtin.bitXor fl (1*2^i)=0 by simpa using q)] at hy
    exact ck _ _ _ Kw (d9 hN _) (aan hy) g'
   .rw[if_neg (show ¬ Builtin.bitXor fl (1*2^i)=0 by simpa using q)] at hy
    exact dZ _ λC k=>k _ _ _ (aD++[x]) rfl rfl Kw (d9 hN _) (by rw[Zw];exact aaP Cr) g' (by rw[PI];exact hy)
 .intro σ I
  refine I _ λl H fl aD e Nd Kw hN Cr gr hy=>?_
  subst e
  refine⟨dj,?_⟩
  have hy:(if fl=0 then some (aD++[Dt 0]) else none)=some ys:=hy
  by_cases z:fl=0
  .rw[if_pos z] at hy
   subst z
   repeat walk_at "o"
   refine Zt (e7 hN trivial) ?_
   repeat walk_at "o"
   refine Zt (by decide+kernel:(baseText "0x" 16 0).length<=sizeLine) ?_
   refine cq hN (Zt (Ao Cr rfl) ?_)
   rw[km]
   exact ck _ _ (aD++[Dt 0]) Kw (d9 hN _) (aan hy) (gr.set (ZA _) h2 λq e=>by rw[hN] at e;cases e)
  .rw[if_neg z] at hy;cases hy
noncomputable def iq:List Str:=["OPTIMIZED","NEWLOCALS","VARARGS","VARKEYWORDS","NESTED","GENERATOR","NOFREE","COROUTINE","ITERABLE_COROUTINE","ASYNC_GENERATOR","0x400","0x800"]
noncomputable def Nf:Spec:=λps hp K=>ps=[]/\2<=hp.length/\∀ aE i,aq hp aE->hp.length<=i->aE[i]? =some (.list (d8 iq))->K (.ref i) aE
theorem Ng {cx:Cx} {A:Nat->Addr} (G:GG cx A) {ps:List PV} {hp:List PO} {K:PV->List PO->Prop} (h:Nf ps hp K):
  bc cx (am "_law_names") [] [] [] (aQ "_law_names") ps hp K:=by
 obtain⟨rfl,h2,k⟩:=h
 refine gI rfl nM (l:=[]) rfl ?_
 refine Zt (by decide:(5:Nat)<=1000000) ?_
 refine Zt (by decide:(5:Nat)<=1000000) ?_
 refine lS (ac (af _ _) _) (af _ _) (Zt (by decide:(10:Nat)<=1000000) ?_)
 refine Zt (by decide:(2:Nat)<=1000000) ?_
 refine lS (ac (af _ _) _) (af _ _) (Zt (by decide:(12:Nat)<=1000000) ?_)
 exact k _ _ ((((aq.push _ _).trans (.push _ _)).trans (.push _ _)).trans ((aq.push _ _).trans (.push _ _))) (by simp only[Zw];exact la [_,_,_,_,_] [] [] (.l .v0 (.a (.a (.a (.a .v0 .v1) .v2) .v3) .v4)) (.f [1]) rfl) ((af _ _).trans rfl)
noncomputable def Ky:Spec:=λps hp K=>∃ a b n:Int,ps=[.int a,.int b,.int n]/\b≠0/\bl b<=9000/\(bl a:Int)-n<=4000/\2<=hp.length/\
 ∀ aE i,aq hp aE->hp.length<=i->aE[i]? =some (.tup [.int (a.fdiv b),.int (a.fmod b)])->K (.ref i) aE
theorem Nh {cx:Cx} {A:Nat->Addr} (G:GG cx A) {ps:List PV} {hp:List PO} {K:PV->List PO->Prop} (h:Ky ps hp K):
  bc cx (am "_div2n1n") [2,3,16] [] [] (aQ "_div2n1n") ps hp K:=by
 obtain⟨a,b,n,rfl,hb,Ap,hn,h2,k⟩:=h
 refine gI rfl qN (l:=[(16,.int n),(3,.int b),(2,.int a)]) rfl ?_
 refine Zt trivial ?_
 repeat walk_at "o"
 refine gY (decide_eq_true hn) ?_
 repeat walk_at "o"
 exact Zt hb (Zt Ap (k _ _ (.push _ _) (ZA _) (af _ _)))
noncomputable def fb (k kind t:Nat):List Nat:=
 let size:=[([65,97,66,98,67,99,68,100]:List Nat).getD (2*k-1-t) 0]
 let md:=[([109,110,111,112,115,116,117,118]:List Nat).getD (k-1+4*t) 0]
 let more:List Nat:=if k<3 then[120,121] else[121,120]
 match kind with
 |0=>size
 |1=>md
 |2=>size++md
 |3=>(List.replicate t 120)
 |_=>(List.replicate t more).flatten
noncomputable def ID:Spec:=λps hp K=>∃ k kind t:Nat,ps=[.int (k:Nat),.int (kind:Nat),.int (t:Nat)]/\1<=k/\k<=4/\kind<=4/\t<=1/\2<=hp.length/\∀ aE,aq hp aE->K (.str (S (fb k kind t))) aE
theorem Ni {cx:Cx} {A:Nat->Addr} (G:GG cx A) {ps:List PV} {hp:List PO} {K:PV->List PO->Prop} (h:ID ps hp K):
  bc cx (am "_law_piece") [50,60,61] [] [] (aQ "_law_piece") ps hp K:=by
 obtain⟨k,kind,t,rfl,VC,FT,Xg,ht,h2,c⟩:=h
 refine gI rfl nO (l:=[(61,.int (t:Nat)),(60,.int (kind:Nat)),(50,.int (k:Nat))]) rfl ?_
 have e1:(2*(k:Int)-1-(t:Int))=((2*k-1-t:Nat):Int):=by exact la [_,_] [] [.l .n1 .v0,.l .v1 .n1] (.E (.s (.s (.m 2 (.c .v0)) .n1) (.c .v1)) (.c (.s (.s (.m 2 .v0) .n1) .v1))) (.o 0 (.k true (.s (.s (.m 2 .v0) .n1) .v1) (.o 0 (.f [0,1,0,1,1,2]) (.k true (.s (.m 2 .v0) .n1) (.o 0 (.f [0,1,0,0,1,0,1,0,2]) (.f [0,1,0,0,1,0,1]))))) (.k true (.s (.s (.m 2 .v0) .n1) .v1) (.o 0 (.k true (.s (.m 2 .v0) .n1) (.o 0 (.f [0,0,1,0,0,0,1]) (.f [1,0,0,0,0,1,1]))) (.k true (.s (.m 2 .v0) .n1) (.o 0 (.f [0,0,1,0,0,0,1]) (.f [1,0,0,1,0,0,1])))))) rfl VC ht
 have e2:((k:Int)-1+4*(t:Int))=((k-1+4*t:Nat):Int):=by exact la [_,_] [] [.l .n1 .v0] (.E (.a (.s (.c .v0) .n1) (.m 4 (.c .v1))) (.c (.a (.s .v0 .n1) (.m 4 .v1)))) (.o 0 (.k true (.s .v0 .n1) (.o 0 (.f [0,1,0,1,1]) (.f [0,1,0,1]))) (.k true (.s .v0 .n1) (.o 0 (.f [0,0,1,1]) (.f [1,0,0,1])))) rfl VC
 have s1:∀ i<8,(Str.ofString "AaBbCcDd").cps[i]? =some (([65,97,66,98,67,99,68,100]:List Nat).getD i 0):=by decide+kernel
 have s2:∀ i<8,(Str.ofString "mnopstuv").cps[i]? =some (([109,110,111,112,115,116,117,118]:List Nat).getD i 0):=by decide+kernel
 have bk:bl (k:Int)<=3:=dL (ZW FT (by decide))
 have bt:bl (t:Int)<=1:=dL (ZW ht (by decide))
 have b4:bl 4<=3:=dL (by decide)
 obtain⟨h,hh,he⟩:∃ h:Nat,(k:Int).fdiv 3=(h:Int)/\h=if k<3 then 0 else 1:=by
  exact⟨_,(by decide:∀ k≤4,((k:Nat):Int).fdiv 3=((if k<3 then 0 else 1:Nat):Int)) k FT,rfl⟩
 obtain⟨M,hM⟩:∃ M:Str,M=if k<3 then Str.ofString "xy" else Str.ofString "yx":=⟨_,rfl⟩
 have s3:[PV.str (Str.ofString "xy"),PV.str (Str.ofString "yx")][h]? =some (.str M):=by
  rw[hM,he];split<;>rfl
 have h1:h<=1000000:=by rw[he];split<;>decide
 have m1:Txt.mul (Str.ofString "x") (t:Int)=S (List.replicate t 120):=by
  exact(by decide+kernel:∀ t≤1,Txt.mul (Str.ofString "x") (t:Nat)=S (List.replicate t 120)) t ht
 have m2:Txt.mul M (t:Int)=S ((List.replicate t (if k<3 then[120,121] else[121,120]:List Nat)).flatten):=by
  rw[hM]
  split
  .exact(by decide+kernel:∀ t≤1,Txt.mul (Str.ofString "xy") (t:Nat)=S ((List.replicate t [120,121]).flatten)) t ht
  .exact(by decide+kernel:∀ t≤1,Txt.mul (Str.ofString "yx") (t:Nat)=S ((List.replicate t [121,120]).flatten)) t ht
 have lM:M.length<=1000:=by rw[hM];split<;>decide
 have t0:(0:Int)<=(t:Int)/\(t:Int)<=1000:=⟨ZP t,aaf.mpr (Zu ht (by decide))⟩
 unfold fb at c
 repeat walk_at "o"
 refine Zt (eB Kt bk (by decide)) ?_
 repeat walk_at "o"
 refine vA e1 (s1 _ (by exact la [_,_] [] [.l .v0 (.n 4),.E (.s (.s (.m 2 (.c .v0)) .n1) (.c .v1)) (.c (.s (.s (.m 2 .v0) .n1) .v1))] (.t (.s (.s (.m 2 .v0) .n1) .v1) (.n 8)) (.f [1,0,2,1]) rfl FT e1)) (f6 (show _<=8 by exact la [_,_] [] [.l .v0 (.n 4),.E (.s (.s (.m 2 (.c .v0)) .n1) (.c .v1)) (.c (.s (.s (.m 2 .v0) .n1) .v1))] (.l (.s (.s (.m 2 .v0) .n1) .v1) (.n 8)) (.f [1,0,2,1]) rfl FT e1) rfl) ?_
 repeat walk_at "o"
 refine Zt (eB b4 bt (by decide)) ?_
 refine vA e2 (s2 _ (by exact la [_,_] [] [.l .v0 (.n 4),.l .v1 .n1,.E (.a (.s (.c .v0) .n1) (.m 4 (.c .v1))) (.c (.a (.s .v0 .n1) (.m 4 .v1)))] (.t (.a (.s .v0 .n1) (.m 4 .v1)) (.n 8)) (.f [1,0,4,1,1]) rfl FT ht e2)) (f6 (show _<=8 by exact la [_,_] [] [.l .v0 (.n 4),.l .v1 .n1,.E (.a (.s (.c .v0) .n1) (.m 4 (.c .v1))) (.c (.a (.s .v0 .n1) (.m 4 .v1)))] (.l (.a (.s .v0 .n1) (.m 4 .v1)) (.n 8)) (.f [1,0,4,1,1]) rfl FT ht e2) rfl) ?_
 refine Zt (by decide:(2:Nat)<=1000000) ?_
 repeat walk_at "o"
 refine Zt (by decide) (Zt (Zu (dL (x:=3) (n:=3) (by decide)) (by decide)) ?_)
 refine mN hh (af _ _) s3 h1 ?_
 repeat walk_at "o"
 refine Zt (by decide:(2:Nat)<=1000000) ?_
 repeat walk_at "o"
 refine Zt t0.1 (Zt t0.2 (Zt (by decide:(1:Nat)<=1000) ?_))
 repeat walk_at "o"
 refine Zt t0.1 (Zt t0.2 (Zt lM ?_))
 rw[m1,m2]
 refine Zt (by decide:(5:Nat)<=1000000) ?_
 repeat walk_at "o"
 have g:=(aq.push hp (.list [.str (Str.ofString "xy"),.str (Str.ofString "yx")])).trans (.push _ (.list [.str ⟨#[([65,97,66,98,67,99,68,100]:List Nat).getD (2*k-1-t) 0]⟩,.str ⟨#[([109,110,111,112,115,116,117,118]:List Nat).getD (k-1+4*t) 0]⟩,
  .str (⟨#[([65,97,66,98,67,99,68,100]:List Nat).getD (2*k-1-t) 0]⟩++⟨#[([109,110,111,112,115,116,117,118]:List Nat).getD (k-1+4*t) 0]⟩),.str (S (List.replicate t 120)),.str (S ((List.replicate t (if k<3 then[120,121] else[121,120]:List Nat)).flatten))]))
 rcases Ks (aa1 Xg) with rfl|rfl|rfl|rfl|rfl<;>exact ay (af _ _) rfl (by decide) (c _ g)
noncomputable def IE (cg:List Int):Nat->Nat->Int->Int->Option (Int×Nat)
 |0,_,_,_=>none
 |k+1,pos,val,b=>
  if Builtin.bitAnd b 64=0 then some (val,pos)
  else if bl val<=1000 then match cg[pos]? with
   |none=>none
   |some b'=>IE cg k (pos+1) (Builtin.bitOr (val*2^(6:Int).toNat) (Builtin.bitAnd b' 63)) b'
  else none
noncomputable def Nj (cg:List Int) (pos:Nat):Option (Int×Nat):=match cg[pos]? with
 |none=>none
 |some b=>IE cg 100 (pos+1) (Builtin.bitAnd b 63) b
noncomputable def uG:Spec:=λps hp K=>∃ it l p cg v p',ps=[.ref it]/\hp[it]? =some (.lit l p)/\hp[l]? =some (.list (aa cg))/\l≠it/\Nj cg p=some (v,p')/\K (.int v) (hp.set it (.lit l p'))
noncomputable def Xh (cg:List Int) (it l:Nat) (v:Int) (p':Nat) (hp:List PO) (j:Nat) (σ:St):Prop:=∀ C:Prop,(∀ (l':Loc) (pos:Nat) (val b:Int),σ={loc:=l',ce:=[],hp:=hp.set it (.lit l pos)}->l'.get 45=some (.ref it)->l'.get 46=some (.int val)->l'.get 3=some (.int b)->IE cg (j+1) pos val b=some (v,p')->C)->C
theorem kn {t:List Int} {p:Nat} {b:Int} (h:t[p]? =some b):(aa t)[p]? =some (.int b):=by rw[gL,h];rfl
set_option tactic.hygienic true in
theorem Nk {cx:Cx} {A:Nat->Addr} (G:GG cx A) {ps:List PV} {hp:List PO} {K:PV->List PO->Prop} (h:uG ps hp K):
  bc cx (am "_parse_varint") [45] [] [] (aQ "_parse_varint") ps hp K:=by
 obtain⟨it,l,p,cg,v,p',rfl,eQ,hl,iw,hr,k⟩:=h
 refine gI rfl f5 (l:=[(45,.ref it)]) rfl ?_
 unfold Nj at hr
 split at hr
 .cases hr
 rename_i b hb
 repeat walk_at "o"
 refine vz eQ (cq hl (ax (kn hb) ?_))
 repeat walk_at "o"
 refine iW (Xh cg it l v p' hp) ?_ 99 λC k=>k _ _ _ _ rfl rfl rfl rfl hr
 intro j σ I again dZ
 refine I _ λl' pos val b e Nl PJ l3 hr=>?_
 subst e
 have hr:(if Builtin.bitAnd b 64=0 then some (val,pos)
  else if bl val<=1000 then match cg[pos]? with
   |none=>none
   |some b'=>IE cg j (pos+1) (Builtin.bitOr (val*2^(6:Int).toNat) (Builtin.bitAnd b' 63)) b'
  else none)=some (v,p'):=hr
 repeat walk_at "o"
 by_cases z:Builtin.bitAnd b 64=0
 .rw[if_pos z] at hr
  cases hr
  refine Zt (λq=>absurd z (bne_iff_ne.mp q)) λø=>?_
  repeat walk_at "o"
  exact k
 .rw[if_neg z] at hr
  refine gY (bne_iff_ne.mpr z) ?_
  split at hr
  .rename_i Ap
   split at hr
   .cases hr
   .rename_i b' Ti
    cases j with
    |zero=>cases hr
    |succ j=>
    refine pB PJ ?_
    refine Zt (by decide) (Zt (Int.le_trans (Int.add_le_add_right (aaf.mpr Ap) 6) (by decide)) ?_)
    repeat walk_at "o"
    refine vz (d9 eQ _) (cq (az hl (aaO iw)) (ax (kn Ti) ?_))
    rw[List.set_set]
    exact dZ j _ rfl λC k=>k _ (pos+1) _ b' rfl Nl rfl rfl hr
  .cases hr
theorem dz {id i:Nat} {H:List PO} {xs:List PV} {v:PV} (h:H[id]? =some (.list xs)) (hv:xs[i]? =some v):bw (.lst id i) H=some (some (v,.lst id (i+1),H)):=by
 rw[bw,h];dsimp only;rw[hv]
theorem eN {id:Nat} {H:List PO} {xs:List PV} {n:Nat} (h:H[id]? =some (.list xs)) (hn:n=xs.length):bw (.lst id n) H=some none:=by
 rw[bw,h];dsimp only;rw[aaR (by exact la [_,_] [] [.e .v0 .v1] (.l .v1 .v0) (.f [1,0,1]) rfl hn)]
noncomputable def fK (L W:List Nat):List Nat:=W.map λe=>L.getD e 0
theorem eO {l:List Nat} {i v:Nat} (h:l[i]? =some v):l.getD i 0=v:=by rw[ZC,h];rfl
theorem dM {l:List Nat} {i n:Nat} (h:l.length=n) (hi:i<n):∃ v,l[i]? =some v:=⟨_,ZB (h▸hi)⟩
theorem Aq (L W:List Nat) {i e v:Nat} (he:W[i]? =some e) (hv:L[e]? =some v):aa (ah (fK L (W.take i)))++[PV.int (v:Int)]=aa (ah (fK L (W.take (i+1)))):=by
 rw[cR,aaj,he]
 unfold fK
 rw[ZT]
 show _=aa (ah (_++[L.getD e 0]))
 rw[eO hv]
theorem As (L W:List Nat):(fK L W).length=W.length:=ZI ..
theorem uH {cx:Cx} {A:Nat->Addr} (G:GG cx A) {K:List PV->St->Prop} {H:List PO} {ce:List (Nat×Nat)} {fi aJ cI:Nat} {L W:List Nat} (kc:look ce 70=some fi) (hc:H[fi]? =some (.cell (some (.ref aJ)))) (hL:H[aJ]? =some (.list (aa (ah L))))
  (hW:H[cI]? =some (.list (aa (ah W)))) (pF:∀ e∈W,e<L.length) (hs:W.length<=1000) (hl:L.length<=1000) (k:∀ l,K (aa (ah (fK L W))) {loc:=l,ce:=ce,hp:=H}):
  ∃ n,bh (aN (.name 78 p0)) (cu cx .nil) (aZ cx (.sub (.cel 70 p0) (.loc 78 p0) p0)) K n (.lst cI 0) [] {loc:=[],ce:=ce,hp:=H}:=by
 refine c9 W.length (λi=>.lst cI i) (λi aD σ=>∃ l,σ={loc:=l,ce:=ce,hp:=H}/\aD=aa (ah (fK L (W.take i)))) ?_ ?_ ⟨[],rfl,rfl⟩
 .rintro i aD σ hi ⟨l,rfl,rfl⟩
  obtain⟨e,he⟩:=dM rfl hi
  have oF:=pF e (ZE he)
  obtain⟨v,hv⟩:=dM rfl oF
  refine⟨.int (e:Nat),_,dz hW (bJ he),λagain dZ=>?_⟩
  refine Zt (λø=>?_) (λq=>nomatch q)
  refine lQ kc (bG hc ?_)
  refine ay hL (bJ hv) (Zu (Zx oF) (Zu hl (by decide))) ?_
  refine Zt ?_ (dZ _ _ ⟨_,rfl,Aq L W he hv⟩)
  rw[ar,aG,As,Z6]
  exact Zu (aaQ ..) (Zu hs (by decide))
 .rintro aD σ ⟨l,rfl,rfl⟩
  exact⟨eN hW (by rw[ar,aG]),by rw[aay];exact k l⟩
noncomputable def dA (P L:List Nat) (k:Nat):Nat->Nat->Nat->Nat×Nat
 |0,e,aD=>(e,aD)
 |f+1,e,aD=>if k<e then dA P L k f (P.getD e 0) (aD+L.getD e 0) else(e,aD)
noncomputable def bL (L W:List Nat):Nat:=(fK L W).sum
noncomputable def mh (L:List Nat) (q:Int):Nat->Int->Int
 |0,d=>d
 |e+1,d=>mh L q e d*(1-q^(2*L.getD (e+1) 0))
noncomputable def ib (P L:List Nat) (i j k:Nat):Nat:=
 let a:=dA P L k 5 i 0
 let b:=dA P L k 5 j a.2
 b.2+bL L (bs P a.1 b.1)
noncomputable def gM (P L:List Nat) (q:Int) (i j k:Nat):Int:=mh L q k (q^bL L (bs P i j)-q^ib P L i j k)
structure eD (L:List Nat):Prop where
 len:L.length=5
 le:∀ v∈L,v<=4
noncomputable def Du:Spec:=λps hp K=>∃ i j k aS aJ q P L,ps=[.int (i:Nat),.int (j:Nat),.int (k:Nat),.ref aS,.ref aJ,.int q]/\hp[aS]? =some (.list (aa (ah P)))/\hp[aJ]? =some (.list (aa (ah L)))/\
 Tree P/\eD L/\i<5/\j<5/\k<4/\q.natAbs<=4/\2<=aS/\2<=aJ/\2<=hp.length/\∀ aE,aq hp aE->K (.int (gM P L q i j k)) aE
theorem nY {q:Int} (hq:q.natAbs<=4) {n m:Nat} (h:n<=m):(q^n).natAbs<=4^m:=by
 rw[Int.natAbs_pow]
 exact Zu (Nat.pow_le_pow_left hq n) (Z3 (by decide) h)
theorem Dv {P L:List Nat} {k f e aD p v:Nat} (h:k<e) (hp:P[e]? =some p) (hv:L[e]? =some v):dA P L k (f+1) e aD=dA P L k f p (aD+v):=by rw[dA,if_pos h,eO hp,eO hv]
theorem Dw {P L:List Nat} {k f e aD:Nat} (h: ¬ k<e):dA P L k f e aD=(e,aD):=by
 cases f with
 |zero=>rfl
 |succ f=>rw[dA,if_neg h]
noncomputable def Xi (L:List Nat) (q d:Int) (ce:List (Nat×Nat)) (H:List PO) (i:Nat) (σ:St):Prop:=∀ C:Prop,(∀ (l:Loc) (d':Int),σ={loc:=l,ce:=ce,hp:=H}->l.get 27=some (.int q)->l.get 79=some (.int d')->d'=mh L q i d->d'.natAbs<2^(300+17*i)->C)->C
theorem Dx {cx:Cx} {A:Nat->Addr} (G:GG cx A) {K:PV->List PO->Prop} {H:List PO} {ce:List (Nat×Nat)} {fi aJ k:Nat} {L:List Nat} {q d:Int} {l:Loc} (kc:look ce 70=some fi) (hc:H[fi]? =some (.cell (some (.ref aJ)))) (hL:H[aJ]? =some (.list (aa (ah L)))) (fW:eD L) (hk:k<4) (hq:q.natAbs<=4)
  (l27:l.get 27=some (.int q)) (l50:l.get 50=some (.int (k:Nat))) (At:l.get 79=some (.int d)) (hd:d.natAbs<2^300) (ck:∀ aE,aq H aE->K (.int (mh L q k d)) aE):
  aF cx Mv (cW K) {loc:=l,ce:=ce,hp:=H}:=by
 have e:((k:Int)+1-1).toNat=k:=by exact la [_] [] [] (.e (.t (.s (.a (.c .v0) .n1) .n1)) .v0) (.o 0 (.k true (.t (.s (.a (.c .v0) .n1) .n1)) (.o 0 (.f [1,0,0,1]) (.f [0,0,1,1]))) (.k true (.t (.s (.a (.c .v0) .n1) .n1)) (.o 0 (.f [0,1,0,1]) (.f [0,1,0,1])))) rfl
 repeat walk_at "o"
 refine Zt (by decide) (Zt (by show(((k+1:Nat):Int)).natAbs<=_;exact f6 hk rfl) ?_)
 refine eR ((af _ _).trans (congrArg (λz=>some (PO.rng 1 1 z)) e)) ?_
 rw[e]
 refine fI k (λi=>.rng 1 1 k i) (Xi L q d ce (H++[.rng 1 1 k])) ?_ ?_ λC c=>c _ d rfl l27 At rfl hd
 .intro i σ hi I
  refine I _ λl d' e l27 At Dm hb=>?_
  subst e
  refine⟨_,_,dY hi,λagain dZ=>?_⟩
  rw[show(1:Int)+(i:Int)*1=((i+1:Nat):Int) by exact la [_] [] [] (.E (.a .n1 (.M (.c .v0) 1)) (.c (.a .v0 .n1))) (.o 0 (.f [1]) (.f [1])) rfl]
  obtain⟨v,hv⟩:=dM fW.len (i:=i+1) (by exact la [_,_] [] [.t .v0 (.n 4),.t .v1 .v0] (.t (.a .v1 .n1) (.n 5)) (.f [1,1,1]) rfl hk hi)
  have Tj:=fW.le v (ZE hv)
  have VD:(1-q^(2*v)).natAbs<2^17:=by
   have Tk:=nY hq (n:=2*v) (m:=8) (by exact la [_] [] [.l .v0 (.n 4)] (.l (.m 2 .v0) (.n 8)) (.f [2,1]) rfl Tj)
   have:(4:Nat)^8=65536:=by decide
   have:(2:Nat)^17=131072:=by decide
   exact la [] [_] [.l (.b .V0) (.n 65536)] (.t (.b (.s .n1 .V0)) (.n 131072)) (.k true (.b .V0) (.o 0 (.k true (.b (.s .n1 .V0)) (.o 0 (.f [0,1,0,0,0,1,0,1]) (.f [0,1,0,1,0,0,1,1]))) (.k true (.b (.s .n1 .V0)) (.o 0 (.f [0,1,0,1,0,0,1,1]) (.f [0,1,0,0,0,1,0,1]))))) rfl Tk
  have b2:bl (v:Int)<=3:=dL (ZW Tj (by decide))
  have b4:bl d'<=400:=Zu (dL hb) (by exact la [_,_] [] [.t .v0 (.n 4),.t .v1 .v0] (.l (.a (.n 300) (.m 17 .v1)) (.n 400)) (.f [17,17,1]) rfl hk hi)
  have b5:bl (1-q^(2*v))<=17:=dL VD
  have Tl:(d'*(1-q^(2*v))).natAbs<2^(300+17*(i+1)):=by
   rw[Int.natAbs_mul,show 300+17*(i+1)=(300+17*i)+17 by exact la [_] [] [] (.e (.a (.n 300) (.m 17 (.a .v0 .n1))) (.a (.a (.n 300) (.m 17 .v0)) (.n 17))) (.o 0 (.f [1]) (.f [1])) rfl,Nat.pow_add]
   exact Nat.mul_lt_mul'' hb VD
  have b6:((bl q:Nat):Int)*(2*(v:Int))<=3*8:=Int.mul_le_mul (aaf.mpr (dL (ZW hq (by decide)))) (by exact la [_] [] [.l .v0 (.n 4)] (.L (.m 2 (.c .v0)) (.n 8)) (.f [2,1]) rfl Tj) (by exact la [_] [] [] (.L .n0 (.m 2 (.c .v0))) (.f [1]) rfl) (by decide)
  repeat walk_at "o"
  refine lQ kc (bG (ac hc _) ?_)
  repeat walk_at "o"
  refine ay (ac hL _) (bJ hv) (f6 (show i+1<=4 by exact la [_,_] [] [.t .v0 (.n 4),.t .v1 .v0] (.l (.a .v1 .n1) (.n 4)) (.f [1,1,1]) rfl hk hi) rfl) ?_
  refine Zt (eB Kt b2 (by decide)) ?_
  refine Zt (by exact la [_] [] [] (.L .n0 (.m 2 (.c .v0))) (.f [1]) rfl) (Zt (Int.le_trans b6 (by decide)) ?_)
  refine Zt (eB b4 b5 (by decide)) ?_
  exact dZ _ λC c=>c _ _ rfl l27 rfl (show d'*(1-q^(2*v))=_ by rw[mh,eO hv,Dm]) Tl
 .intro σ I
  refine I _ λl d' e l27 At Dm hb=>?_
  subst e
  refine⟨dj,?_⟩
  repeat walk_at "o"
  rw[Dm]
  exact ck _ (.push _ _)
theorem Au {α:Type} {l:List α} {i:Nat} {x:α} (h:l[i]? =some x):l.set i x=l:=by
 obtain⟨hi,rfl⟩:=Zv.mp h
 exact List.set_getElem_self hi
noncomputable def Xj (P L E:List Nat) (ce:List (Nat×Nat)) (fi aJ aS eW s k:Nat) (hp:List PO) (R:List (Nat×PV)) (bU:Nat×Nat) (f:Nat) (σ:St):Prop:=∀ C:Prop,(∀ (l':Loc) (H':List PO) (e c7:Nat),σ={loc:=l',ce:=ce,hp:=H'}->l'.get 87=some (.ref eW)->l'.get 82=some (.int (s:Nat))->l'.get 50=some (.int (k:Nat))->l'.get 58=some (.ref aS)->(∀ y∈R,l'.get y.1=some y.2)->l'.get 88=some (.int (c7:Nat))->
   H'[eW]? =some (.list (aa (ah (E.set s e))))->H'[fi]? =some (.cell (some (.ref aJ)))->H'[aJ]? =some (.list (aa (ah L)))->H'[aS]? =some (.list (aa (ah P)))->aq hp H'->e<5->e<=f->dA P L k f e c7=bU->C)->C
theorem Av (E:List Nat) (s e p:Nat):(aa (ah (E.set s e))).set s (.int (p:Int))=aa (ah (E.set s p)):=by
 rw[h8]
 unfold ah
 rw[<-List.map_set (f:=λn:Nat=>(n:Int)),List.set_set]
theorem wF {cx:Cx} {A:Nat->Addr} (G:GG cx A) {Q:ba} {hp H:List PO} {ce:List (Nat×Nat)} {fi aJ aS eW s k aD:Nat} {P L E:List Nat} {l:Loc} (kc:look ce 70=some fi) (hc:H[fi]? =some (.cell (some (.ref aJ)))) (hL:H[aJ]? =some (.list (aa (ah L))))
  (hP:H[aS]? =some (.list (aa (ah P)))) (hE:H[eW]? =some (.list (aa (ah E)))) (T:Tree P) (fW:eD L) (n1:eW≠fi) (n2:eW≠aJ) (n3:eW≠aS) (oF:hp.length<=eW) (h2:2<=hp.length) (gr:aq hp H)
  (Xk:E.length=2) (hs:s<2) (pF:∀ e∈E,e<5) {R:List (Nat×PV)}
  (PK:l.get 87=some (.ref eW)) (Tn:l.get 82=some (.int (s:Nat))) (l50:l.get 50=some (.int (k:Nat))) (l58:l.get 58=some (.ref aS)) (To:l.get 88=some (.int (aD:Nat))) (hR:∀ y∈R,y.1≠88/\l.get y.1=some y.2)
  (ck:∀ l' H',l'.get 87=some (.ref eW)->l'.get 50=some (.int (k:Nat))->l'.get 58=some (.ref aS)->(∀ y∈R,l'.get y.1=some y.2)->l'.get 88=some (.int ((dA P L k 5 (E.getD s 0) aD).2:Nat))->
   H'[eW]? =some (.list (aa (ah (E.set s (dA P L k 5 (E.getD s 0) aD).1))))->H'[fi]? =some (.cell (some (.ref aJ)))->H'[aJ]? =some (.list (aa (ah L)))->H'[aS]? =some (.list (aa (ah P)))->aq hp H'->Q .next {loc:=l',ce:=ce,hp:=H'}):
  aF cx Mx Q {loc:=l,ce:=ce,hp:=H}:=by
 have Tp:s<E.length:=Xk▸hs
 obtain⟨e0,Tq⟩:=dM rfl Tp
 have Nm:=pF e0 (ZE Tq)
 rw[eO Tq] at ck
 generalize hT:dA P L k 5 e0 aD=bU at ck
 have s6:s<=1000000:=f6 (Zx hs) rfl
 refine iW (Xj P L E ce fi aJ aS eW s k hp R bU) ?_ 5 λC c=>c l H e0 aD rfl PK Tn l50 l58 (λy hy=>(hR y hy).2) To (by rw[Au Tq];exact hE) hc hL hP gr Nm (Zx Nm) hT
 intro f σ I again dZ
 refine I _ λl' H' e c7 es PK Tn l50 l58 lR To IF hc hL hP gr he VE ht=>?_
 subst es
 have Tr:(aa (ah (E.set s e)))[s]? =some (.int (e:Nat)):=bJ (List.getElem?_set_self Tp)
 repeat walk_at "o"
 refine ay IF Tr s6 ?_
 repeat walk_at "o"
 by_cases z:k<e
 .refine gY (decide_eq_true (aak.mpr z)) ?_
  obtain⟨f,rfl⟩:∃ f',f=f'+1:=⟨f-1,by exact la [_,_,_] [] [.l .v0 .v1,.t .v2 .v0] (.e .v1 (.a (.s .v1 .n1) .n1)) (.o 0 (.k true (.s .v1 .n1) (.o 0 (.f [0,1,0,1,1,1]) (.f [0,1,0,1]))) (.k true (.s .v1 .n1) (.o 0 (.f [0,0,1,1]) (.f [1,0,0,1])))) rfl VE z⟩
  obtain⟨p,aE⟩:=dM T.len he
  obtain⟨v,hv⟩:=dM fW.len he
  have e6:e<=1000000:=f6 (Zx he) rfl
  have Co:=(T.lt _ _ aE).2 (Nat.zero_lt_of_lt z)
  rw[Dv z aE hv] at ht
  repeat walk_at "o"
  refine lQ kc (bG hc ?_)
  repeat walk_at "o"
  refine ay IF Tr s6 ?_
  refine ay hL (bJ hv) e6 ?_
  repeat walk_at "o"
  refine ay IF Tr s6 ?_
  refine ay hP (bJ aE) e6 ?_
  repeat walk_at "o"
  refine jJ IF (by rw[ar,aG,aaE];exact Tp) s6 ?_
  rw[ZO,Av]
  exact dZ f _ rfl λC c=>c _ _ p (c7+v) rfl PK Tn l50 l58 (λy hy=>by rw[Loc.get_set,if_neg (hR y hy).1];exact lR y hy) rfl (d9 IF _) (az hc n1) (az hL n2) (az hP n3) (gr.set oF (Zu h2 oF) (λq e=>by rw[IF] at e;cases e)) (aaJ Co he) (by exact la [_,_,_] [] [.l .v0 (.a .v1 .n1),.t .v2 .v0] (.l .v2 .v1) (.f [1,1,1]) rfl VE Co) ht
 .rw[Dw z] at ht
  subst ht
  exact gZ (decide_eq_false λq=>z (aak.mp q)) (ck l' H' PK l50 l58 lR To IF hc hL hP gr)
theorem wG {P:List Nat} (T:Tree P):∀ k f s,f<5->s<5->∀ e∈mE P k f s,e<5/\0<e
 |0,_,_,_,_,e,h=>by cases h
 |k+1,f,s,hf,hs,e,h=>by
  rw[k9] at h
  by_cases q:f=s
  .rw[if_pos q] at h;cases h
  .rw[if_neg q] at h
   rcases ZF.mp h with rfl|h
   .exact la [_,_] [] [.t .v0 (.n 5),.t .v1 (.n 5),.n (.e .v0 .v1)] (.a (.t (.x .v0 .v1) (.n 5)) (.t .n0 (.x .v0 .v1))) (.o 0 (.o 1 (.k true (.x .v0 .v1) (.o 0 (.f [0,1,0,1,0,1]) (.f [0,0,1,0,1]))) (.k true (.x .v0 .v1) (.o 0 (.f [1,0,0,1,1]) (.f [0,0,1,0,1])))) (.o 1 (.k true (.x .v0 .v1) (.o 0 (.f [0,0,1,0,1]) (.f [0,1,0,1,0,0,1]))) (.k true (.x .v0 .v1) (.o 0 (.f [0,0,1,0,1]) (.f [1,0,0,1,1]))))) rfl hf hs q
   .refine wG T k _ _ (by exact la [_,_] [] [.t .v0 (.n 5)] (.t (.i .v0 .v1) (.n 5)) (.k true (.i .v0 .v1) (.o 0 (.f [0,1,0,1,1]) (.f [0,1,1,1,1]))) rfl hf) ?_ e h
    obtain⟨p,hp⟩:∃ p,P[max f s]? =some p:=⟨_,ZB (by rw[T.len];exact la [_,_] [] [.t .v0 (.n 5),.t .v1 (.n 5)] (.t (.x .v0 .v1) (.n 5)) (.k true (.x .v0 .v1) (.o 0 (.f [0,1,0,1,0,1]) (.f [0,1,0,0,1,1]))) rfl hf hs)⟩
    have:=(T.lt _ _ hp).1
    have Xl:P.getD (max f s) 0=p:=by rw[ZC,hp];rfl
    exact la [_,_,_,_] [] [.t .v0 (.n 5),.t .v1 (.n 5),.l .v2 (.x .v0 .v1),.e .v3 .v2] (.t .v3 (.n 5)) (.k true (.x .v0 .v1) (.o 0 (.f [0,1,0,0,1,1,1,0,1]) (.f [0,1,0,0,1,1,0,1,1]))) rfl hf hs this Xl
theorem nZ {P:List Nat} (T:Tree P) {f s:Nat} (hf:f<5) (hs:s<5):∀ e∈bs P f s,e<5/\0<e:=λe h=>wG T _ f s hf hs e ((nX _).mem_iff.mp h)
theorem ko {P:List Nat} {f s:Nat}:(bs P f s).length<=f+s:=by
 unfold bs
 rw[(nX _).length_eq]
 exact sO P _ f s
theorem IG (W:List Nat):(ah W).sum=((W.sum:Nat):Int):=by
 induction W with
 |nil=>rfl
 |cons x r ih=>show((x:Int)::ah r).sum=_;rw[aaS,aaS,ih,abc]
theorem eD.d (fW:eD L) (x:Nat):L.getD x 0<=4:=by
 rw[ZC]
 cases q:L[x]? with
 |none=>exact ZM _
 |some v=>exact fW.le v (ZE q)
theorem eD.sum (fW:eD L) (W:List Nat):(fK L W).sum<=4*W.length:=by
 induction W with
 |nil=>exact ZM _
 |cons x r ih=>
  have:=fW.d x
  show(L.getD x 0::fK L r).sum<=_
  rw[aaS,ZL];exact la [_,_,_] [] [.l .v0 (.m 4 .v1),.l .v2 (.n 4)] (.l (.a .v2 .v0) (.m 4 (.a .v1 .n1))) (.f [1,1,1]) rfl ih this
theorem sR (fW:eD L) {P:List Nat} {k:Nat} (f:Nat):∀ e aD,(dA P L k f e aD).2<=aD+4*f:=by
 induction f with
 |zero=>exact λø ø=>ZA _
 |succ f ih=>
  intro e aD
  rw[dA]
  by_cases z:k<e
  .rw[if_pos z]
   refine Zu (ih ..) ?_
   rw[aaA,Nat.mul_succ,aao (L.getD e 0)]
   exact Nat.add_le_add_left (Nat.add_le_add_left (fW.d e) _) _
  .rw[if_neg z];exact aaq _ _
theorem Tree.d {P:List Nat} (T:Tree P) {e:Nat} (h:e<5):P.getD e 0<5:=by
 obtain⟨p,aE⟩:=dM T.len h
 rw[eO aE]
 exact ZW (T.lt _ _ aE).1 h
theorem wH {P L:List Nat} (T:Tree P) {k:Nat} (f:Nat):∀ e aD,e<5->(dA P L k f e aD).1<5:=by
 induction f with
 |zero=>exact λø ø h=>h
 |succ f ih=>
  intro e aD h
  rw[dA]
  by_cases z:k<e
  .rw[if_pos z];exact ih _ _ (T.d h)
  .rw[if_neg z];exact h
theorem w8 {P:List Nat} {f s:Nat} (hf:f<5) (hs:s<5):(bs P f s).length<=8:=Zu ko (by exact la [_,_] [] [.t .v0 (.n 5),.t .v1 (.n 5)] (.l (.a .v0 .v1) (.n 8)) (.f [1,1,1]) rfl hf hs)
theorem Xm {q:Int} (hq:q.natAbs<=4):bl q<=3:=dL (ZW hq (by decide))
theorem PL {q:Int} (hq:q.natAbs<=4) {s:Nat} (h:s<=100):(bl q:Int)*((s:Nat):Int)<=134217728:=by
 rw[<-aaB]
 exact aaf.mpr (Zu (Nat.mul_le_mul (Xm hq) h) (by decide))
theorem rb {f s aS:Nat} {P:List Nat} {hp:List PO} {K:PV->List PO->Prop} (h1:hp[aS]? =some (.list (aa (ah P)))) (T:Tree P) (hf:f<5) (hs:s<5) (h2:2<=hp.length)
  (k:∀ aE i,aq hp aE->hp.length<=i->aE[i]? =some (.list (aa (ah (bs P f s))))->K (.ref i) aE):lf [.int (f:Nat),.int (s:Nat),.ref aS] hp K:=⟨f,s,aS,P,rfl,h1,T,hf,hs,h2,k⟩
theorem Dy {cx:Cx} {A:Nat->Addr} (G:GG cx A) (hW:cx.D (A 115)=some lf) {hp:List PO} {K:PV->List PO->Prop} {i j k aS aJ eW:Nat} {q:Int} {P L:List Nat} (T:Tree P) (fW:eD L) (hi:i<5) (hj:j<5) (hk:k<4) (hq:q.natAbs<=4)
  (p2:2<=aS) (q2:2<=aJ) (h2:2<=hp.length) (ck:∀ aE,aq hp aE->K (.int (gM P L q i j k)) aE) {l:Loc} {H:List PO} {x y b:Nat} (VF:l.get 87=some (.ref eW)) (Ts:l.get 50=some (.int (k:Nat))) (VG:l.get 58=some (.ref aS)) (Zf:l.get 43=some (.int (i:Nat))) (Zg:l.get 77=some (.int (j:Nat))) (Xn:l.get 27=some (.int q)) (VH:l.get 88=some (.int (b:Nat)))
  (g4:H[eW]? =some (.list (aa (ah [x,y])))) (g1:H[hp.length]? =some (.cell (some (.ref aJ)))) (g2:H[aJ]? =some (.list (aa (ah L)))) (g3:H[aS]? =some (.list (aa (ah P)))) (gr:aq hp H) (hx:x<5) (hy:y<5)
  (ea:b+bL L (bs P x y)=ib P L i j k) (hb:b<=60):aF cx Mw (cW K) {loc:=l,ce:=[(70,hp.length)],hp:=H}:=by
 have L5:L.length<=1000:=by rw[fW.len];decide
 have wl:∀ {f s:Nat},f<5->s<5->∀ e∈bs P f s,e<L.length:=λhf hs e h=>by rw[fW.len];exact(nZ T hf hs e h).1
 have w1:=fW.sum (bs P i j)
 have w2:=fW.sum (bs P x y)
 have w3:=w8 (P:=P) hi hj
 have w4:=w8 (P:=P) hx hy
 have s1:bL L (bs P i j)<=32:=Zu w1 (aa3 4 w3)
 have VI:ib P L i j k<=100:=by rw[<-ea];exact Zu (aac hb (Zu w2 (aa3 4 w4))) (by decide)
 repeat walk_at "o"
 refine Zt rfl ?_
 repeat walk_at "o"
 refine ay (k:=0) g4 rfl (by decide) ?_
 repeat walk_at "o"
 refine ay (k:=1) g4 rfl (by decide) ?_
 repeat walk_at "o"
 refine bP hW (rb g3 T hx hy (Zu h2 gr.le) λaE w gw hw FU=>?_)
 have gg:=gr.trans gw
 have t1:=gw.keep _ _ h2 g1
 have t2:=gw.keep _ _ q2 g2
 refine il FU ?_
 refine uH (ce:=[(70,hp.length)]) (fi:=hp.length) G rfl t1 t2 FU (wl hx hy) (Zu w4 (by decide)) L5 λl'=>?_
 refine cq (af _ _) (jI (bO _) ?_)
 rw[IG]
 repeat walk_at "o"
 refine Zt rfl ?_
 repeat walk_at "o"
 refine bP hW (rb (ac (gw.keep _ _ p2 g3) _) T hi hj (Zu h2 (gg.trans (.push _ _)).le) λXo w' Tt Pr Nn=>?_)
 have u1:=Tt.keep _ _ h2 (ac t1 _)
 have u2:=Tt.keep _ _ q2 (ac t2 _)
 refine il Nn ?_
 refine uH (ce:=[(70,hp.length)]) (fi:=hp.length) G rfl u1 u2 Nn (wl hi hj) (Zu w3 (by decide)) L5 λTd=>?_
 refine cq (af _ _) (jI (bO _) ?_)
 rw[IG]
 refine Zt (ZP _) (Zt (PL hq (s:=bL L (bs P i j)) (Zu s1 (by decide))) ?_)
 repeat walk_at "o"
 refine Zt (ZP (b+bL L (bs P x y))) (Zt (PL hq (s:=b+bL L (bs P x y)) (by rw[ea];exact VI)) ?_)
 have p1:=nY hq (n:=bL L (bs P i j)) (m:=100) (Zu s1 (by decide))
 have p3:=nY hq (n:=b+bL L (bs P x y)) (m:=100) (by rw[ea];exact VI)
 have p4:(4:Nat)^100+4^100<2^300:=by decide+kernel
 refine Dx G (fi:=hp.length) (aJ:=aJ) (k:=k) (L:=L) (q:=q) (d:=q^bL L (bs P i j)-q^(b+bL L (bs P x y))) rfl (ac u1 _) (ac u2 _) fW hk hq Xn Ts rfl (by exact la [] [_,_] [.l (.b .V0) (.n 1606938044258990275541962092341162602522202993782792835301376),.l (.b .V1) (.n 1606938044258990275541962092341162602522202993782792835301376)] (.t (.b (.s .V0 .V1)) (.n 2037035976334486086268445688409378161051468393665936250636140449354381299763336706183397376)) (.k true (.b .V1) (.o 0 (.k true (.b .V0) (.o 0 (.k true (.b (.s .V0 .V1)) (.o 0 (.f [0,1,0,1,0,0,0,0,1,0,1,1]) (.f [0,1,0,0,0,1,1,0,0,1,0,1]))) (.k true (.b (.s .V0 .V1)) (.o 0 (.f [0,1,0,0,0,1,0,0,1,0,0,1]) (.f [0,1,0,1,0,0,1,0,0,1,1,1]))))) (.k true (.b .V0) (.o 0 (.k true (.b (.s .V0 .V1)) (.o 0 (.f [0,1,0,1,0,0,1,0,0,1,1,1]) (.f [0,1,0,0,0,1,0,0,1,0,0,1]))) (.k true (.b (.s .V0 .V1)) (.o 0 (.f [0,1,0,0,0,1,1,0,0,1,0,1]) (.f [0,1,0,1,0,0,0,0,1,0,1,1]))))))) rfl p1 p3) (λaE g=>?_)
 rw[ea]
 exact ck aE (((gg.trans (.push _ _)).trans (Tt.trans (.push _ _))).trans g)
theorem No {cx:Cx} {A:Nat->Addr} (G:GG cx A) (hW:cx.D (A 115)=some lf) {ps:List PV} {hp:List PO} {K:PV->List PO->Prop} (h:Du ps hp K):
  bc cx (am "_law_due") [43,77,50,58,70,27] [70] [] (aQ "_law_due") ps hp K:=by
 obtain⟨i,j,k,aS,aJ,q,P,L,rfl,hP,hL,T,fW,hi,hj,hk,hq,p2,q2,h2,ck⟩:=h
 refine⟨rfl,?_⟩
 rw[<-dW,qQ]
 refine(?_:aF cx pW (cW K) {loc:=[(27,.int q),(58,.ref aS),(50,.int (k:Nat)),(77,.int (j:Nat)),(43,.int (i:Nat))],ce:=[(70,hp.length)],hp:=hp++[.cell (some (.ref aJ))]})
 refine Zt (by decide:(2:Nat)<=1000000) ?_
 repeat walk_at "o"
 refine Zt (by decide) ?_
 refine eR (af _ _) ?_
 have Np:=(Zv.mp hP).1
 have oZ:=(Zv.mp hL).1
 have oF:(hp++[PO.cell (some (PV.ref aJ))]).length=hp.length+1:=Zw ..
 have c1:=wH T (L:=L) (k:=k) 5 i 0 hi
 have b1:=sR fW (P:=P) (k:=k) 5 i 0
 have b2:=sR fW (P:=P) (k:=k) 5 j (dA P L k 5 i 0).2
 have gr:aq hp (hp++[PO.cell (some (PV.ref aJ))]++[PO.list (aa (ah [i,j]))]++[PO.rng 0 1 (Int.toNat 2)]):=((aq.push _ _).trans (.push _ _)).trans (.push _ _)
 refine Exists.intro 3 ?_
 refine wF (hp:=hp) (eW:=(hp++[PO.cell (some (PV.ref aJ))]).length) (fi:=hp.length) (k:=k) (s:=0) (aD:=0) (E:=[i,j]) (R:=[(43,.int (i:Nat)),(77,.int (j:Nat)),(27,.int q)]) G rfl (ac (ac (af _ _) _) _) (ac (ac (ac hL _) _) _) (ac (ac (ac hP _) _) _) (ac (af _ _) _) T fW (by exact la [_,_] [] [.e .v0 (.a .v1 .n1)] (.n (.e .v0 .v1)) (.f [1,0,0,1]) rfl oF) (by exact la [_,_,_] [] [.t .v0 .v1,.e .v2 (.a .v1 .n1)] (.n (.e .v2 .v0)) (.f [1,0,1,0,1]) rfl oZ oF) (by exact la [_,_,_] [] [.t .v0 .v1,.e .v2 (.a .v1 .n1)] (.n (.e .v2 .v0)) (.f [1,0,1,0,1]) rfl Np oF) (by exact la [_,_] [] [.e .v0 (.a .v1 .n1)] (.l .v1 .v0) (.f [1,0,1]) rfl oF) h2 gr rfl (by decide)
  (λe h=>by rcases ZF.mp h with rfl|h;exact hi;rw[ZG.mp h];exact hj) rfl rfl rfl rfl rfl ?_ ?_
 .intro y hy
  rcases ZF.mp hy with rfl|hy
  .exact⟨show(43:Nat)≠88 by decide,rfl⟩
  rcases ZF.mp hy with rfl|hy
  .exact⟨show(77:Nat)≠88 by decide,rfl⟩
  rw[ZG.mp hy]
  exact⟨show(27:Nat)≠88 by decide,rfl⟩
 intro l' H' VF Ts VG mR VH g4 g1 g2 g3 Xp
 refine wF (hp:=hp) (eW:=(hp++[PO.cell (some (PV.ref aJ))]).length) (fi:=hp.length) (k:=k) (s:=1) (aD:=(dA P L k 5 i 0).2) (E:=[(dA P L k 5 i 0).1,j]) (R:=[(43,.int (i:Nat)),(77,.int (j:Nat)),(27,.int q)]) G rfl g1 g2 g3 g4 T fW (by exact la [_,_] [] [.e .v0 (.a .v1 .n1)] (.n (.e .v0 .v1)) (.f [1,0,0,1]) rfl oF) (by exact la [_,_,_] [] [.t .v0 .v1,.e .v2 (.a .v1 .n1)] (.n (.e .v2 .v0)) (.f [1,0,1,0,1]) rfl oZ oF) (by exact la [_,_,_] [] [.t .v0 .v1,.e .v2 (.a .v1 .n1)] (.n (.e .v2 .v0)) (.f [1,0,1,0,1]) rfl Np oF) (by exact la [_,_] [] [.e .v0 (.a .v1 .n1)] (.l .v1 .v0) (.f [1,0,1]) rfl oF) h2 Xp rfl (by decide)
  (λe h=>by rcases ZF.mp h with rfl|h;exact c1;rw[ZG.mp h];exact hj) VF rfl Ts VG VH ?_ ?_
 .intro y hy
  rcases ZF.mp hy with rfl|hy
  .exact⟨show(43:Nat)≠88 by decide,mR _ (.head _)⟩
  rcases ZF.mp hy with rfl|hy
  .exact⟨show(77:Nat)≠88 by decide,mR _ (.tail _ (.head _))⟩
  rw[ZG.mp hy]
  exact⟨show(27:Nat)≠88 by decide,mR _ (.tail _ (.tail _ (.head _)))⟩
 intro Td Te Xq Xr Xs nR Xt o4 o1 o2 o3 Do
 exact Dy G hW T fW hi hj hk hq p2 q2 h2 ck Xq Xr Xs (nR _ (.head _)) (nR _ (.tail _ (.head _))) (nR _ (.tail _ (.tail _ (.head _)))) Xt o4 o1 o2 o3 Do c1 (wH T 5 j _ hj) rfl (Zu b2 (by exact la [_] [] [.l .v0 (.a .n0 (.m 4 (.n 5)))] (.l (.a .v0 (.m 4 (.n 5))) (.n 60)) (.f [1,1]) rfl b1))
section
variable {cx:Cx} {env:Env} {ab:aT} {σ:St} {h h':Heap}
end
noncomputable def Aw (l:List Env):List Addr:=l.filterMap (·.frame)
theorem FF.at {h₀ h:Heap} {l:List Env} {b:Addr}:FF h₀ h l->b∈Aw l->∃ o,h.get? b=some o/\eP o=true/\h₀.get? b=none:=by
 induction l with
 |nil=>exact λø=>nofun
 |cons e r ih=>
  rintro⟨⟨_,L,o,q,n,d,f⟩,g⟩ hb
  unfold Aw at hb
  rw[aa2,q] at hb
  rcases ZF.mp hb with rfl|hb
  .exact⟨o,d,f,n⟩
  .exact ih g hb
theorem FF.hide {h₀ h:Heap} {l l':List Env}:FF h₀ h l->(∀ b∈Aw l,b∈Aw l')->h.FunFrames (hideAll h (Aw l')) l:=by
 induction l with
 |nil=>exact λø ø=>trivial
 |cons e r ih=>
  rintro⟨⟨a,L,o,q,n,d,f⟩,g⟩ hs
  have q':Aw (e::r)=L::Aw r:=aad q
  rw[q'] at hs
  exact⟨a,⟨L,o,q,hideAll_none _ (hs L (.head _)),d,λvs z=>by unfold eP at f;rw[z] at f;cases f⟩,ih g λb hb=>hs b (.tail _ hb)⟩
noncomputable def FV (B:Heap) (L e:Addr) (cls:String) (t:Addr) (h:Heap):Nat->Prop
 |0=>∃ oe vs,h.get? e=some oe/\oe.cls=.type cls/\oe.data=.fields vs/\vs[0]? =some (.ref t)/\vs[1]? =some .none
 |1=>h.TracedW B e (.type cls) (.ref t)
 |_=>h.TracedAtW B e (.type cls) (.ref t) (rawInt L)
structure o0 (cx:Cx) (cls:String) (k:Nat) (L:Addr) (dC:Heap) (ab:aT) (e:Addr) (h:Heap):Prop where
 p:∃ B t,B.StaysIn h/\B.get? e=none/\h.FunFrames B cx.fr/\FV B L e cls t h k/\h.TupAt t []/\B.get? t=none/\(∀ b o,cx.h₀.get? b=some o->B.get? b=some o)/\
  ∀ b o,((dC.get? b).isSome=true\/∃ i:Nat,ab[i]? =some b)->h.get? b=some o->eP o=false->B.get? b=some o
theorem o0.older {cx:Cx} {cls:String} {k:Nat} {L:Addr} {dC yh:Heap} {ab:aT} {e:Addr} {h:Heap} (F:o0 cx cls k L dC ab e h) (k':∀ b,(yh.get? b).isSome=true->(dC.get? b).isSome=true):o0 cx cls k L yh ab e h:=
 by obtain⟨B,t,a,b,c,d,f,g,i,j⟩:=F.p;exact⟨B,t,a,b,c,d,f,g,i,λx o q=>j x o (q.imp_left (k' x))⟩
theorem sS {cx:Cx} {cls:String} {k:Nat} {env:Env} {L:Addr} {dC h h' B:Heap} {t e:Addr} {aC ab:aT} {σ:St} (R:aH cx env ab σ h) (S:Step env.locals aC dC ab h)
  (bD:∀ b o,cx.h₀.get? b=some o->B.get? b=some o) (rM:∀ b o,((dC.get? b).isSome=true\/∃ i:Nat,ab[i]? =some b)->h.get? b=some o->eP o=false->B.get? b=some o) (tup:h.TupAt t []) (bt:B.get? t=none) (be:B.get? e=none)
  (st:B.StaysIn h') (ff:h'.FunFrames B cx.fr) (up:h.UpToSlots h') (kd:FV B L e cls t h' k):aH cx env ab σ h'/\Step env.locals aC dC ab h'/\o0 cx cls k L dC ab e h':=by
 have dict:∀ b o,h.get? b=some o->eP o=true->∃ sl,h'.get? b=some {o with slots:=sl}:=λb o e d=>up b o e λvs q=>by unfold eP at d;rw[q] at d;cases d
 have Dz:∀ b o,((dC.get? b).isSome=true\/∃ i:Nat,ab[i]? =some b)->h.get? b=some o->∃ sl,h'.get? b=some {o with slots:=sl}/\(eP o=false->sl=o.slots):=λb o hb e=>by
  cases d:eP o with
  |true=>obtain⟨sl,z⟩:=dict b o e d;exact⟨sl,z,λq=>by cases q⟩
  |false=>exact⟨o.slots,st _ _ (rM b o hb e d),λø=>rfl⟩
 refine⟨⟨λb o e=>st _ _ (bD b o e),R.off,R.offL,R.inj,R.notL,R.len,λi o e=>?_,?_,R.cel,R.ff.keep λb o ø e d=>?_,R.tb⟩,⟨S.ext,S.fresh,λb e=>?_,λb o e hL hn=>?_⟩,⟨B,t,st,be,ff,kd,tup.of_slots up,bt,bD,λb o hb e d=>?_⟩⟩
 .obtain⟨a,ob,e1,e2,e3⟩:=R.obj i o e
  exact⟨a,ob,e1,st _ _ (rM a ob (.inr ⟨i,e1⟩) e2 e3.notD),e3⟩
 .obtain⟨m,⟨o,es,ep,e1,e2,e3⟩,hm⟩:=R.loc
  obtain⟨sl,e4⟩:=dict _ _ e1 (by unfold eP;rw[e2])
  exact⟨m,⟨_,es,ep,e4,e2,e3⟩,hm⟩
 .obtain⟨sl,e4⟩:=dict _ _ e d
  exact⟨_,e4,d⟩
 .obtain⟨o,q⟩:=ZJ.mp (S.live b e)
  obtain⟨sl,e4,_⟩:=Dz b o (.inl e) q
  rw[e4];rfl
 .obtain⟨sl,e1,e2⟩:=S.frame b o e hL hn
  obtain⟨GR,e3,e4⟩:=Dz b _ (.inl (by rw[e];rfl)) e1
  exact⟨GR,e3,λq=>(e4 q).trans (e2 q)⟩
 .cases q:h.get? b with
  |none=>
   rcases hb with hb|⟨i,hb⟩
   .have:=S.live b hb;rw[q] at this;cases this
   .obtain⟨_,_,_,z,_⟩:=R.here hb;rw[q] at z;cases z
  |some o'=>
   obtain⟨sl,e1,e2⟩:=Dz b o' hb q
   rw[e1] at e;cases e
   have d:eP o'=false:=d
   have:=e2 d
   subst this
   exact rM b o' hb q d
section
variable {cx:Cx} {cls:String} {k:Nat} {env:Env} {dC:Heap} {e:Addr} {aC ab:aT} {σ:St} {s:Shared} {M:Model} {A:Around} {E:Value->Shared->Prop} {Q:Unit->Shared->Prop} {VJ:List Env}
theorem Ax (hA:A.frames=some cx.fr) (V:vD cx env) (R:aH cx env ab σ s.heap) (S:Step env.locals aC dC ab s.heap) (F:o0 cx cls k env.locals dC ab e s.heap)
  (hQ:∀ h',aH cx env ab σ h'->Step env.locals aC dC ab h'->o0 cx cls 2 env.locals dC ab e h'->Q () {s with heap:=h'}):wpAny M A (noteFrame (.ref e) env) Q E s:=by
 obtain⟨B,t,st,be,ff,kd,tup,bt,bD,rM⟩:=F.p
 obtain⟨⟨o,ho⟩,hf⟩:=V
 rw[ho] at hA
 have IH:=ff
 rw[ho] at IH
 have ck:∀ h',Heap.NotedW B (env::o) e (.type cls) (.ref t) (rawInt env.locals) s.heap h'->Q () {s with heap:=h'}:=by
  rintro h' ⟨x1,x2,x3,x4⟩
  obtain⟨a,b,c⟩:=sS (k:=2) R S bD rM tup bt be x1 (ho▸x2) x4 x3
  exact hQ h' a b c
 rcases k with _|_|k
 .obtain⟨oe,vs,he,hc,hd,h0,h1⟩:=kd
  unfold noteFrame
  simp only[hf]
  refine wpAny_bind (wpAny_field he hd h1 ?_)
  rw[if_neg (by decide)]
  exact wpAny_entryW hA IH hf he st be hd (Array.getElem?_eq_some_iff.mp h1).1 h0 λh' z=>ck h' (hc▸z)
 .exact wpAny_noteFrame_onW hA IH hf kd st be ck
 .exact wpAny_noteFrame_againW hf kd (hQ s.heap R S ⟨B,t,st,be,ff,kd,tup,bt,bD,rM⟩)
theorem Ay (R:aH cx env ab σ s.heap) (S:Step env.locals aC dC ab s.heap) (F:o0 cx cls 2 env.locals dC ab e s.heap)
  (hQ:∀ h',aH cx env ab σ h'->Step env.locals aC dC ab h'->o0 cx cls 1 env.locals dC ab e h'->Q () {s with heap:=h'}):wpAny M A (setFlight (.ref e) none) Q E s:=by
 obtain⟨B,t,st,be,ff,kd,tup,bt,bD,rM⟩:=F.p
 refine wpAny_landsW (L:=env.locals) ⟨st,be,ff,kd⟩ ?_
 rintro h' ⟨x1,x2,x3,x4⟩ up
 obtain⟨a,b,c⟩:=sS (k:=1) (L:=env.locals) R S bD rM tup bt be x1 x3 up x4
 exact hQ h' a b c
theorem Az (R:aH cx env ab σ s.heap) (S:Step env.locals aC dC ab s.heap) (F:o0 cx cls 1 env.locals dC ab e s.heap)
  (hQ:∀ h',aH cx env ab σ h'->Step env.locals aC dC ab h'->o0 cx cls 1 env.locals dC ab e h'->Q () {s with heap:=h'}):wpAny M A (setFlight (.ref e) none) Q E s:=by
 obtain⟨B,t,st,be,ff,kd,tup,bt,bD,rM⟩:=F.p
 refine wpAny_setFlight_noneW st ff kd.at λh' x1 x2 x3 x4=>?_
 obtain⟨a,b,c⟩:=sS (k:=1) (L:=env.locals) R S bD rM tup bt be x1 x2 (λb o q n=>⟨o.slots,x4 b o q n⟩) x3
 exact hQ h' a b c
theorem mF {bD:Heap} {l:List Env} {L:Addr} {cls a0 fl:Value} (Xu:bD.StaysIn s.heap) (hl:s.heap.FunFrames bD l) (ht:s.heap.TracedAtW bD e cls a0 fl)
  (h:∀ h',bD.StaysIn h'->h'.FunFrames bD l->h'.TracedAtW bD e cls a0 (rawInt L)->(∀ b o,s.heap.get? b=some o->(∀ vs,o.data≠ .fields vs)->h'.get? b=some o)->Q () {s with heap:=h'}):
  wpAny M A (setFlight (.ref e) (some L)) Q E s:=by
 obtain⟨oe,vs,T,oT,ts,he,Nq,hd,h1,VK,VL,hT,PM,h3⟩:=ht
 have Nr:3<ts.size:=(Array.getElem?_eq_some_iff.mp h3).1
 have md:∀ b,b≠T->(s.heap.update T (Obj.mapFields (·.setIfInBounds 3 ((some L:Option Addr).elim Value.none λf=>rawInt f)))).get? b=s.heap.get? b:=
  λb hb=>Heap.get?_update_other _ _ (aaO hb)
 have noRecord:∀ b o,s.heap.get? b=some o->(∀ vs,o.data≠ .fields vs)->b≠T:=λb o hb Nt q=>by
  rw[q,hT] at hb;injection hb with hb;subst hb;exact Nt ts PM
 unfold setFlight
 refine wpAny_bind (wpAny_field he hd h1 ?_)
 rw[if_pos (show(Value.ref T !=Value.none)=true from by simp)]
 refine wpAny_setField hT PM Nr (h _ (λb o Tu=>(md b λq=>by rw[q,VK] at Tu;cases Tu).trans (Xu b o Tu))
  (hl.of_keeps λb o hb Nt=>⟨o,(md b (noRecord b o hb Nt)).trans hb,rfl⟩) ?_ λb o hb Nt=>(md b (noRecord b o hb Nt)).trans hb)
 exact⟨oe,vs,T,_,_,(md e (aaO VL)).trans he,Nq,hd,h1,VK,VL,aaD _ hT (Obj.isFreed_of_fields (Obj.data_mapFields PM _)),Obj.data_mapFields PM _,by simp [Nr]⟩
theorem Nu (V:vD cx env) (R:aH cx env ab σ s.heap) (S:Step env.locals aC dC ab s.heap) (F:o0 cx cls 2 env.locals dC ab e s.heap)
  (hQ:∀ h',aH cx env ab σ h'->Step env.locals aC dC ab h'->o0 cx cls 2 env.locals dC ab e h'->E (.ref e) {s with heap:=h'}):cameBackBy M A env E (.ref e) s:=by
 obtain⟨B,t,st,be,ff,kd,tup,bt,bD,rM⟩:=F.p
 obtain⟨oe,vs,T,oT,ts,he,Nq,hd,h1,r⟩:=id kd
 unfold cameBackBy
 refine wpAny_bind (wpAny_field he hd h1 ?_)
 rw[if_neg (by simp)]
 rw[V.2]
 refine mF st ff kd λh' x1 x2 x3 x4=>?_
 obtain⟨a,b,c⟩:=sS (k:=2) (L:=env.locals) R S bD rM tup bt be x1 x2 (λb o q n=>⟨o.slots,x4 b o q n⟩) x3
 exact hQ h' a b c
end
noncomputable abbrev FW:=Heap->aT->Addr->Heap->Prop
noncomputable def gN (cx:Cx) (env:Env) (ab:aT) (s:Shared) (F:FW) (X:St->Prop) (E:Value->Shared->Prop):Prop:=
 ∀ br aj e h' tk,X br->aH cx env aj br h'->Step env.locals ab s.heap aj h'->F s.heap aj e h'->E (.ref e) {s with heap:=h',toks:=tk}
noncomputable def AA (F:FW):Prop:=∀ dC yh ab e h,(∀ b,(yh.get? b).isSome=true->(dC.get? b).isSome=true)->F dC ab e h->F yh ab e h
theorem gN.after {cx:Cx} {env:Env} {ab:aT} {s:Shared} {F:FW} (mono:AA F) {X:St->Prop} {E:Value->Shared->Prop} (k:gN cx env ab s F X E)
  {ag:aT} {ai:Heap} (S:Step env.locals ab s.heap ag ai) {tk:Nat}:gN cx env ag {s with heap:=ai,toks:=tk} F X E:=
 λbr aj e h' oD a b c d=>k br aj e h' oD a b (S.trans c) (mono _ _ _ _ _ S.live d)
noncomputable abbrev iY:=List PV->List PO->(List PO->Prop)->Prop
noncomputable abbrev fX:=PV->iY
mutual
noncomputable def rN (cx:Cx) (rx:fX):PE->(St->Prop)->St->Prop
 |.call f bo _,X,σ=>aZ cx f (λfv ae=>mG cx rx bo X ae\/gW cx bo (λvs aw=>rx fv vs aw.hp λaE=>X {aw with hp:=aE}) ae) σ
 |.meth o m _ bo _,X,σ=>aZ cx o (λov ae=>pn cx m ov ae/\mG cx rx bo X ae) σ
 |_,_,_=>False
noncomputable def mG (cx:Cx) (rx:fX):ca->(St->Prop)->St->Prop
 |.cons e _,X,σ=>rN cx rx e X σ
 |.nil,_,_=>False
end
noncomputable def iZ (iG:(Bool->St->Prop)->St->Prop) (body:ba->St->Prop) (bx:(St->Prop)->St->Prop) (X:St->Prop):Nat->St->Prop
 |0,_=>False
 |n+1,σ=>iG (λt ae=>t=true/\(bx X ae\/body (λf aw=>f=.next/\iZ iG body bx X n aw) ae)) σ
mutual
noncomputable def uI (cx:Cx) (rx:fX) (aY:Stmt->List (Nat×NameKind)->(St->Prop)->St->Prop):PS->(St->Prop)->St->Prop
 |.assign (.name _ _) e _,X,σ=>e.isComp=false/\rN cx rx e X σ
 |.expr e _,X,σ=>rN cx rx e X σ
 |.ite t b e _,X,σ=>iB cx t (λc ae=>(c=true/\cT cx rx aY b X ae)\/(c=false/\cT cx rx aY e X ae)) σ
 |.whl t b _ _,X,σ=>∃ n,iZ (iB cx t) (aF cx b) (cT cx rx aY b) X n σ
 |.ext _ t xs,X,σ=>aY t xs X σ
 |_,_,_=>False
noncomputable def cT (cx:Cx) (rx:fX) (aY:Stmt->List (Nat×NameKind)->(St->Prop)->St->Prop):ao->(St->Prop)->St->Prop
 |.nil,_,_=>False
 |.cons t ts,X,σ=>uI cx rx aY t X σ\/wpS cx t (λf ae=>f=.next/\cT cx rx aY ts X ae) σ
end
structure XS (cx:Cx) (n:Nat) (rx:fX) (F:FW):Prop where
 mono:AA F
 call:∀ {env:Env} {ab:aT} {σ:St} {s:Shared} {A:Around} {fv:PV} {f:Value} {ps:List PV} {vs:List Value} {X:St->Prop} {Q:Value->Shared->Prop} {E:Value->Shared->Prop},
  Good cx n A->rx fv ps σ.hp (λaE=>X {σ with hp:=aE})->aH cx env ab σ s.heap->cY ab fv f->aU ab ps vs->gN cx env ab s F X E->
  (Looks (model cx.prog cx.w) s.heap (keeperOf f) .machine\/Looks (model cx.prog cx.w) s.heap (keeperOf f) .frame)/\wpAny (model cx.prog cx.w) A (call f vs) Q E s
noncomputable def RE (cx:Cx) (n:Nat) (rx:fX) (F:FW) (e:PE):Prop:=∀ {env:Env} {sc:Scope} {ab:aT} {σ:St} {s:Shared} {A:Around} {X:St->Prop} {Q:Value->Shared->Prop} {E:Value->Shared->Prop},
  Good cx n A->aW env sc->e.ok sc=true->rN cx rx e X σ->aH cx env ab σ s.heap->gN cx env ab s F X E->wpAny (model cx.prog cx.w) A (eval e.ex env) Q E s
noncomputable def Nv (cx:Cx) (n:Nat) (rx:fX) (F:FW) (es:ca):Prop:=∀ {env:Env} {sc:Scope} {ab:aT} {σ:St} {s:Shared} {A:Around} {pos:Pos} {X:St->Prop} {Q:List Value->Shared->Prop} {E:Value->Shared->Prop},
  Good cx n A->aW env sc->es.ok sc=true->mG cx rx es X σ->aH cx env ab σ s.heap->gN cx env ab s F X E->wpAny (model cx.prog cx.w) A (spliced (backTo pos (starEach es.ex env))) Q E s
section
variable {cx:Cx} {n:Nat} {rx:fX} {F:FW}
theorem dN {e:PE} (h:∀ X σ,rN cx rx e X σ->False):RE cx n rx F e:=λø ø ø hw ø ø=>(h _ _ hw).elim
theorem DA (C:bF cx n) (XX:XS cx n rx F) (f:PE) (bo:ca) (p:Pos) (_:RE cx n rx F f) (im:Nv cx n rx F bo):RE cx n rx F (.call f bo p):=by
 intro env sc ab σ s A X Q E hA O ok hw R k
 have ok:=b3 ok
 have go:∀ {fv:PV} {f':Value} {ag:aT} {ae:St} {bz:Shared} {oP:gN cx env ag bz F X E},(mG cx rx bo X ae\/gW cx bo (λvs aw=>rx fv vs aw.hp λaE=>X {aw with hp:=aE}) ae)->cY ag fv f'->aH cx env ag ae bz.heap->
   wpAny (model cx.prog cx.w) A (callWith p f' [] (backTo p (starEach bo.ex env)) []) Q E bz:=by
  intro fv f' ag ae bz oP hw₁ df au
  rcases hw₁ with hw₁|hw₁
  .refine bQ (Pm:=λø=>False) (λø h=>h.elim) (λe r q=>?_) (eg ok.1.2) (λq=>?_) (λø=>?_)
   .subst q
    have:=ok.1.2
    exact bj (b3 this).1.2
   .subst q
    exact hw₁.elim
   .exact im hA O ok.1.2 hw₁ au oP
  .refine bQ (Pm:=λh=>Looks (model cx.prog cx.w) h (keeperOf f') .machine\/Looks (model cx.prog cx.w) h (keeperOf f') .frame) (λø h=>h) (λe r q=>?_) (eg ok.1.2) (λq=>?_) (λø=>?_)
   .subst q
    have:=ok.1.2
    exact bj (b3 this).1.2
   .subst q
    exact XX.call hA hw₁ au df (show aU ag [] [] from trivial) oP
   .refine uo C bo hA O ok.1.2 hw₁ au λps aw aM vs bf bE hw₂ iN aK aR=>?_
    exact XX.call hA hw₂ aK (df.mono aR.ext) iN (oP.after XX.mono aR)
 have ck:wpAny (model cx.prog cx.w) A (eval f.ex env) (λf' bz=>wpAny (model cx.prog cx.w) A (callWith p f' [] (backTo p (starEach bo.ex env)) []) Q E bz) E s:=
  bb C f hA O ok.1.1 hw R λfv ae ag f' ai av hw₁ df au aB=>go (oP:=k.after XX.mono aB) hw₁ df au
 have Qz:∃ x q,f.ex=.Name x q:=by
  have:=ok.2
  cases f<;>first|(cases this;done)|exact⟨_,_,rfl⟩
 obtain⟨x,q,e⟩:=Qz
 show wpAny _ _ (eval (.Call f.ex bo.ex [] p) env) _ _ _
 rw[e] at ck ⊢
 exact wpAny_Call_NameR ck
theorem DD (C:bF cx n) (XX:XS cx n rx F) (o:PE) (m:Mt) (ap:Pos) (bo:ca) (p:Pos) (_:RE cx n rx F o) (im:Nv cx n rx F bo):RE cx n rx F (.meth o m ap bo p):=by
 intro env sc ab σ s A X Q E hA O ok hw R k
 obtain⟨⟨⟨⟨Lu,tU⟩,Fg⟩,Lv⟩,QB⟩:=b5 ok
 refine wpAny_Call_method_late (rX Fg) ?_ Lv rfl (bb C o hA O Lu hw R λov ae ag WS ai av hw₁ r0 au aB=>?_)
 .rw[ny tU]
  show(true&&true&&decide (bo.ex.length+0+0<30))=true
  simpa using of_decide_eq_true QB
 .obtain⟨T,h1,h2,h3,h4,h5⟩:=lP (s:={s with heap:=ai,toks:=av}) C.toCxOk hw₁.1 au r0
  refine⟨T,m.id,h1,h2,h3,h4,h5,?_⟩
  refine bQ (Pm:=λø=>True) (λh ø=>.inl (cE λa e=>by cases e)) (λe r q=>?_) (eg tU) (λq=>?_) (λø=>?_)
  .subst q
   exact bj (b3 tU).1.2
  .subst q
   exact hw₁.2.elim
  .exact im hA O tU hw₁.2 au (k.after XX.mono aB)
theorem DE (e:PE) (es:ca) (he:RE cx n rx F e) (_:Nv cx n rx F es):Nv cx n rx F (.cons e es):=by
 intro env sc ab σ s A pos X Q E hA O ok hw R k
 have ok:=b3 ok
 exact spliced_more (he hA O ok.1.1 hw R k) (bj ok.1.2)
theorem qj (C:bF cx n) (XX:XS cx n rx F) (e:PE):RE cx n rx F e:=@PE.rec (RE cx n rx F) (Nv cx n rx F) (λø ø=>@dN _ _ _ _ _ λø ø h=>h) (λø ø=>@dN _ _ _ _ _ λø ø h=>h) (λø=>@dN _ _ _ _ _ λø ø h=>h) (λø ø=>@dN _ _ _ _ _ λø ø h=>h) (λø ø=>@dN _ _ _ _ _ λø ø h=>h) (λø ø=>@dN _ _ _ _ _ λø ø h=>h) (λø ø=>@dN _ _ _ _ _ λø ø h=>h) (λø ø ø ø ø ø=>@dN _ _ _ _ _ λø ø h=>h) (λø ø ø ø=>@dN _ _ _ _ _ λø ø h=>h) (λø ø ø ø ø ø=>@dN _ _ _ _ _ λø ø h=>h) (λø ø ø ø=>@dN _ _ _ _ _ λø ø h=>h) (λø ø ø ø ø ø ø=>@dN _ _ _ _ _ λø ø h=>h) (DA C XX) (DD C XX) (λø ø ø ø ø=>@dN _ _ _ _ _ λø ø h=>h) (λø ø ø ø ø ø ø ø ø ø=>@dN _ _ _ _ _ λø ø h=>h) (@dN _ _ _ _ _ λø ø h=>h) (λø ø ø=>@dN _ _ _ _ _ λø ø h=>h) (λø ø ø ø=>@dN _ _ _ _ _ λø ø h=>h) (λø ø ø ø ø ø ø ø ø ø=>@dN _ _ _ _ _ λø ø h=>h) (λø ø ø ø ø ø ø ø ø ø ø=>@dN _ _ _ _ _ λø ø h=>h) (λø ø=>@dN _ _ _ _ _ λø ø h=>h) (λø ø ø hw ø ø=>hw.elim) DE e
end
noncomputable abbrev FX (cx:Cx) (cls:String) (L:Addr):FW:=λdC ab e h=>∃ k,o0 cx cls k L dC ab e h
section
variable {cx:Cx} {n:Nat} {rx:fX} {cls:String} {aY:Stmt->List (Nat×NameKind)->(St->Prop)->St->Prop}
theorem sT {env:Env} {A:Around} {iG:Expr} {body gB:List Stmt} {wt:(Bool->St->Prop)->St->Prop} {wb:ba->St->Prop} {bx:(St->Prop)->St->Prop} (hA:A.frames=some cx.fr) (V:vD cx env)
  (Ht:∀ {ab:aT} {σ:St} {s:Shared} {P:Bool->St->Prop} {Q:Bool->Shared->Prop} {E:Value->Shared->Prop},wt P σ->aH cx env ab σ s.heap->fZ cx env ab s P Q->wpAny (model cx.prog cx.w) A (isTrue iG env (eval iG env)) Q E s)
  (Hb:∀ {ab:aT} {σ:St} {s:Shared} {P:ba} {Q:Flow->Shared->Prop} {E:Value->Shared->Prop},wb P σ->aH cx env ab σ s.heap->cV cx env ab s P Q->wpAny (model cx.prog cx.w) A (execs body env) Q E s)
  (Hx:∀ {ab:aT} {σ:St} {s:Shared} {X:St->Prop} {Q:Flow->Shared->Prop} {E:Value->Shared->Prop},bx X σ->aH cx env ab σ s.heap->gN cx env ab s (FX cx cls env.locals) X E->wpAny (model cx.prog cx.w) A (execs body env) Q E s)
  {ab:aT} {σ:St} {s:Shared} {X:St->Prop} {Q:Flow->Shared->Prop} {E:Value->Shared->Prop}
  {cK:Nat} (hw:iZ wt wb bx X cK σ) (R:aH cx env ab σ s.heap) (k:gN cx env ab s (FX cx cls env.locals) X E) {pos:Pos}:
  wpAny (model cx.prog cx.w) A (exec (.While iG body gB pos) env) Q E s:=by
 refine wpAny_While (codeAny_whileLoop (λk s'=>∃ br aj h tk,s'={s with heap:=h,toks:=tk}/\iZ wt wb bx X k br/\aH cx env aj br h/\Step env.locals ab s.heap aj h) ?_ cK ⟨σ,ab,s.heap,s.toks,rfl,hw,R,.refl _ _ _⟩)
 rintro m s' ⟨ae,ag,ai,av,rfl,hw₁,au,aB⟩
 cases m with
 |zero=>exact hw₁.elim
 |succ m=>
  rw[iZ] at hw₁
  refine Ht hw₁ au λb aw aM bf bE hw₂ aK aR=>?_
  obtain⟨rfl,hw₂⟩:=hw₂
  rw[if_pos rfl]
  rcases hw₂ with hw₂|hw₂
  .refine Hx (s:={s with heap:=bf,toks:=bE}) hw₂ aK λcn bW e cD cf bZ cH cw yi=>?_
   obtain⟨kk,yi⟩:=yi
   have S':=(aB.trans aR).trans cw
   refine Ax (s:={s with heap:=cD,toks:=cf}) hA V cH S' (yi.older (aB.trans aR).live) λfq fT e8 Tv=>?_
   exact Nu (s:={s with heap:=fq,toks:=cf}) V fT e8 Tv λgD oO uJ Tw=>k cn bW e gD cf bZ oO uJ ⟨2,Tw⟩
  .refine Hb (s:={s with heap:=bf,toks:=bE}) hw₂ aK λf cn bW fl cD cf bZ df cH cw=>?_
   obtain⟨rfl,bZ⟩:=bZ
   cases df
   exact⟨m,Z0 _,cn,bW,cD,cf,rfl,bZ,cH,(aB.trans aR).trans cw⟩
structure i3 (cx:Cx) (n:Nat) (cls:String) (aY:Stmt->List (Nat×NameKind)->(St->Prop)->St->Prop):Prop where
 h:∀ {t:Stmt} {xs:List (Nat×NameKind)} {kk:Nat} {env:Env} {sc:Scope} {ab:aT} {σ:St} {s:Shared} {A:Around} {X:St->Prop} {Q:Flow->Shared->Prop} {E:Value->Shared->Prop},
  (PS.ext kk t xs).ok sc=true->Good cx n A->aW env sc->vD cx env->aY t xs X σ->aH cx env ab σ s.heap->gN cx env ab s (FX cx cls env.locals) X E->wpAny (model cx.prog cx.w) A (exec t env) Q E s
end
noncomputable def RS (cx:Cx) (n:Nat) (rx:fX) (cls:String) (aY:Stmt->List (Nat×NameKind)->(St->Prop)->St->Prop) (t:PS):Prop:=∀ {env:Env} {sc:Scope} {ab:aT} {σ:St} {s:Shared} {A:Around} {X:St->Prop} {Q:Flow->Shared->Prop} {E:Value->Shared->Prop},
  Good cx n A->aW env sc->vD cx env->t.ok sc=true->uI cx rx aY t X σ->aH cx env ab σ s.heap->gN cx env ab s (FX cx cls env.locals) X E->wpAny (model cx.prog cx.w) A (exec t.st env) Q E s
noncomputable def FY (cx:Cx) (n:Nat) (rx:fX) (cls:String) (aY:Stmt->List (Nat×NameKind)->(St->Prop)->St->Prop) (ts:ao):Prop:=∀ {env:Env} {sc:Scope} {ab:aT} {σ:St} {s:Shared} {A:Around} {X:St->Prop} {Q:Flow->Shared->Prop} {E:Value->Shared->Prop},
  Good cx n A->aW env sc->vD cx env->ts.ok sc=true->cT cx rx aY ts X σ->aH cx env ab σ s.heap->gN cx env ab s (FX cx cls env.locals) X E->wpAny (model cx.prog cx.w) A (execs ts.sts env) Q E s
section
variable {cx:Cx} {n:Nat} {rx:fX} {cls:String} {aY:Stmt->List (Nat×NameKind)->(St->Prop)->St->Prop}
theorem mi {t:PS} (h:∀ X σ,uI cx rx aY t X σ->False):RS cx n rx cls aY t:=λø ø ø ø hw ø ø=>(h _ _ hw).elim
theorem yj (C:bF cx n) (XX:∀ L,XS cx n rx (FX cx cls L)) (t:PT) (e:PE) (p:Pos):RS cx n rx cls aY (.assign t e p):=by
 cases t with
 |name x px=>
  intro env sc ab σ s A X Q E hA O V ok hw R k
  have ok:=b4 ok
  obtain⟨⟨⟨o1,o2⟩,o3⟩,o4⟩:=ok
  have hs:swapsWith e.ex (some (.Name (nm x) px)) p.line env=pure false:=ka o3 hw.1
  exact cZ hs (ft (t:=.name x px) o4 o3 (.inl rfl)) (qj C (XX _) e hA O o2 hw.2 R k) rfl
 |_=>exact @mi _ _ _ _ _ _ λø ø h=>h
theorem DF (C:bF cx n) (XX:∀ L,XS cx n rx (FX cx cls L)) (e:PE) (p:Pos):RS cx n rx cls aY (.expr e p):=by
 intro env sc ab σ s A X Q E hA O V ok hw R k
 have ok:=b2 ok
 exact wpAny_Expr_any (qj C (XX _) e hA O ok.1 hw R k) (by unfold interactive;rw[O.kind];rfl) (nE ok.2)
theorem II (C:bF cx n) (XX:∀ L,XS cx n rx (FX cx cls L)) (t:PE) (b e:ao) (p:Pos) (hb:FY cx n rx cls aY b) (he:FY cx n rx cls aY e):RS cx n rx cls aY (.ite t b e p):=by
 intro env sc ab σ s A X Q E hA O V ok hw R k
 have ok:=b3 ok
 refine wpAny_If (jm C t hA O ok.1.1 hw R λc ae ag ai av hw₁ au aB=>?_)
 rcases hw₁ with⟨rfl,hw₁⟩|⟨rfl,hw₁⟩
 .rw[if_pos rfl];exact hb (s:={s with heap:=ai,toks:=av}) hA O V ok.1.2 hw₁ au (k.after (XX _).mono aB)
 .rw[if_neg (by decide)];exact he (s:={s with heap:=ai,toks:=av}) hA O V ok.2 hw₁ au (k.after (XX _).mono aB)
theorem IJ (C:bF cx n) (t:PE) (b e:ao) (p:Pos) (hb:FY cx n rx cls aY b) (_:FY cx n rx cls aY e):RS cx n rx cls aY (.whl t b e p):=by
 intro env sc ab σ s A X Q E hA O V ok hw R k
 have ok:=b3 ok
 obtain⟨cK,hw⟩:=hw
 exact sT hA.fr V (λa b c=>jm C t hA O ok.1.1 a b c) (λx y c=>fH C b hA O V ok.1.2 x y c) (λx y c=>hb hA O V ok.1.2 x y c) hw R k
theorem IK (HO:i3 cx n cls aY) (kk:Nat) (t:Stmt) (xs:List (Nat×NameKind)):RS cx n rx cls aY (.ext kk t xs):=λhA O V ok hw R k=>HO.h ok hA O V hw R k
theorem DG (C:bF cx n) (XX:∀ L,XS cx n rx (FX cx cls L)) (t:PS) (ts:ao) (ht:RS cx n rx cls aY t) (zL:FY cx n rx cls aY ts):FY cx n rx cls aY (.cons t ts):=by
 intro env sc ab σ s A X Q E hA O V ok hw R k
 have ok:=b2 ok
 rcases hw with hw|hw
 .exact wpAny_execs_cons (ht hA O V ok.1 hw R k)
 .refine wpAny_execs_cons (x5 C t hA O V ok.1 hw R λf ae ag fl ai av hw₁ df au aB=>?_)
  obtain⟨rfl,hw₁⟩:=hw₁
  cases df
  exact zL (s:={s with heap:=ai,toks:=av}) hA O V ok.2 hw₁ au (k.after (XX _).mono aB)
theorem jS (C:bF cx n) (XX:∀ L,XS cx n rx (FX cx cls L)) (HO:i3 cx n cls aY) (ts:ao):FY cx n rx cls aY ts:=
 @ao.rec (RS cx n rx cls aY) (FY cx n rx cls aY) (yj C XX) (λø ø ø ø=>@mi _ _ _ _ _ _ λø ø h=>h) (λø ø ø ø ø=>@mi _ _ _ _ _ _ λø ø h=>h) (DF C XX) (II C XX) (IJ C) (λø ø ø ø ø ø ø=>@mi _ _ _ _ _ _ λø ø h=>h)
  (λø ø ø ø ø ø ø ø ø ø=>@mi _ _ _ _ _ _ λø ø h=>h) (λø ø=>@mi _ _ _ _ _ _ λø ø h=>h) (λø=>@mi _ _ _ _ _ _ λø ø h=>h) (λø=>@mi _ _ _ _ _ _ λø ø h=>h) (λkk t xs=>IK HO kk t xs) (λø ø ø ø hw ø ø=>hw.elim) (DG C XX) ts
end
noncomputable def bS (cx:Cx) (n:Nat) (cls:String) (fv:Value) (S:iY):Prop:=
 ∀ (fr:List Env) {env:Env} {ab:aT} {σ:St} {s:Shared} {A:Around} {ps:List PV} {vs:List Value} {X:St->Prop} {Q:Value->Shared->Prop} {E:Value->Shared->Prop},
  Good (cx.at fr) n A->aH (cx.at fr) env ab σ s.heap->aU ab ps vs->S ps σ.hp (λaE=>X {σ with hp:=aE})->
  gN (cx.at fr) env ab s (λdC ab e h=>∀ L,o0 (cx.at fr) cls 1 L dC ab e h) X E->wpAny (model cx.prog cx.w) A (call fv vs) Q E s
noncomputable def DI (cx:Cx) (rx:fX) (aY:Stmt->List (Nat×NameKind)->(St->Prop)->St->Prop) (sc:Scope) (params:List Nat) (body:ao):iY:=λps hp K=>
 ps.length=params.length/\cT cx rx aY body (λσ=>K σ.hp) {loc:=e9 sc params ps [],ce:=[],hp:=hp}
theorem rc (cx:Cx) (rx:fX) (aY:Stmt->List (Nat×NameKind)->(St->Prop)->St->Prop) (l:List Env) (ts:ao):cT (cx.at l) rx aY ts=cT cx rx aY ts:=by kernel_rfl
section
variable {cx:Cx} {cls:String} {k:Nat} {env:Env} {dC:Heap} {e:Addr} {aC ab:aT} {σ:St} {s:Shared} {M:Model} {A:Around} {E:Value->Shared->Prop} {Q:Unit->Shared->Prop}
theorem IL (hA:A.frames=some cx.fr) (V:vD cx env) (R:aH cx env ab σ s.heap) (S:Step env.locals aC dC ab s.heap) (F:o0 cx cls k env.locals dC ab e s.heap)
  (hQ:∀ h',aH cx env ab σ h'->Step env.locals aC dC ab h'->o0 cx cls 1 env.locals dC ab e h'->Q () {s with heap:=h'}):wpAny M A (leaving env (.ref e)) Q E s:=by
 obtain⟨B,t,st,be,ff,kd,tup,bt,bD,rM⟩:=F.p
 obtain⟨⟨o,ho⟩,hf⟩:=V
 rw[ho] at hA
 have IH:=ff
 rw[ho] at IH
 have ck:∀ h',Heap.LeftW B (env::o) e (.type cls) (.ref t) s.heap h'->Q () {s with heap:=h'}:=by
  rintro h' ⟨x1,x2,x3,x4⟩
  obtain⟨a,b,c⟩:=sS (k:=1) (L:=env.locals) R S bD rM tup bt be x1 (ho▸x2) x4 x3
  exact hQ h' a b c
 rcases k with _|_|k
 .obtain⟨oe,vs,he,hc,hd,h0,h1⟩:=kd
  exact wpAny_leaving_firstW hA IH hf he st be hd h1 h0 λh' z=>ck h' (hc▸z)
 .exact wpAny_leaving_nextW hA IH hf kd st be ck
 .unfold leaving
  refine wpAny_bind (wpAny_noteFrame_againW hf kd ?_)
  exact Ay R S ⟨B,t,st,be,ff,kd,tup,bt,bD,rM⟩ hQ
end
theorem fh.raises {cx:Cx} {n:Nat} {rx:fX} {cls:String} {aY:Stmt->List (Nat×NameKind)->(St->Prop)->St->Prop} {a:Addr} {sc:Scope} {params:List Nat} {body:ao} (F:fh cx a sc params body) (C:∀ fr,bF (cx.at fr) n)
  (XX:∀ fr L,XS (cx.at fr) n rx (FX (cx.at fr) cls L)) (HO:∀ fr,i3 (cx.at fr) n cls aY) (iQ:cx.h₀.NoLimit) (nJ:∀ x∈sc.names,x.2≠ .cell) (nF:∀ x∈params,sc.names.lookup (nm x)=some .local)
  {S:iY} (hS:∀ ps hp K,S ps hp K->DI cx rx aY sc params body ps hp K):bS cx (n+1) cls (.ref a) S:=λfr {env ab σ s A ps vs X Q E} hA R d hw k=>by
 obtain⟨o,fd,h1,hd,F,h4,h5⟩:=F.h
 obtain⟨cb,hw⟩:=hS _ _ _ hw
 have HT:vs.length=params.length:=by rw[<-d.length,cb]
 have ho:=R.keep _ _ h1
 refine wpAny_call (codeAny_call_def (fd:=fd) (body:=body.sts) (binds:=(params.map nm).zip vs) (by have:=hA.depth;exact la [_,_,_] [] [.t (.a .v0 (.a .v1 .n1)) .v2] (.t .v0 .v2) (.f [1,1]) rfl this) ho hd (iQ.keeps R.keep) (h4.keeps R.keep) F.body (BindsTo.of_eq (F.bind vs HT)) (by rw[F.sc];exact nJ) (λx hx=>?_) (λai rS hk=>?_)
  (by rw[F.sc];exact F.co) (by rw[F.sc];exact F.gen) (by rw[F.sc];exact F.kind))
 .obtain⟨y,hy,e⟩:=aal.mp (abf (show(x.1,x.2)∈_ from hx)).1
  rw[F.sc,<-e];exact nF y hy
 .have uv:callEnv fd s.heap.objs.size a=newEnv sc s.heap.objs.size mainGlobals fd.closure (fd.qualname++".<locals>.") (some a) fd.code none builtinsNs:=by
   unfold callEnv;rw[F.sc,F.gl,F.bi]
  rw[uv]
  have O:=ew F.kind (L:=s.heap.objs.size) (dy:=fd.closure) (qK:=fd.qualname++".<locals>.") (f:=some a) (code:=fd.code)
  have nK:s.heap.get? s.heap.objs.size=none:=aO (ZA _)
  have new:cx.h₀.get? s.heap.objs.size=none:=by
   cases q:cx.h₀.get? s.heap.objs.size with
   |none=>rfl
   |some o=>have:=R.keep _ _ q;rw[nK] at this;cases this
  have V:vD (cx.at (newEnv sc s.heap.objs.size mainGlobals fd.closure (fd.qualname++".<locals>.") (some a) fd.code none builtinsNs::fr)) (newEnv sc s.heap.objs.size mainGlobals fd.closure (fd.qualname++".<locals>.") (some a) fd.code none builtinsNs):=⟨⟨_,rfl⟩,rfl⟩
  have au:aH (cx.at (newEnv sc s.heap.objs.size mainGlobals fd.closure (fd.qualname++".<locals>.") (some a) fd.code none builtinsNs::fr)) (newEnv sc s.heap.objs.size mainGlobals fd.closure (fd.qualname++".<locals>.") (some a) fd.code none builtinsNs) ab {loc:=e9 sc params ps [],ce:=[],hp:=σ.hp} ai:=by
   refine qI (cx:=cx.at fr) (by
    obtain⟨oL,e1,e2⟩:=iC rS
    exact⟨⟨by show sc.kind≠_;rw[F.kind];decide,_,oL,rfl,new,e1,e2⟩,R.ff.keep λb o ø e d=>⟨o,hk b o e,d⟩⟩) ?_
   refine⟨λb o e=>hk b o (R.keep b o e),R.off,?_,R.inj,λi b e=>Z7 (R.lt e),R.len,λi o e=>?_,⟨_,rS,λx p e=>?_⟩,(λx i e=>by cases e),R.ff.keep λb o ø e d=>⟨o,hk b o e,d⟩,R.tb⟩
   .exact new
   .obtain⟨b,ob,e1,e2,e3⟩:=R.obj i o e
    exact⟨b,ob,e1,hk _ _ e2,e3⟩
   .obtain⟨v,h1,h2⟩:=jn (sc:=sc) (kindOf:=λx=>sc.names.lookup x) (λø=>rfl) (xs:=params) (ps:=ps) (vs:=vs) (l:=[]) (m:=λø=>none) d (λø ø q=>by cases q) x p e
    refine⟨v,?_,h2⟩
    rw[<-h1,pS (λy hy=>?_)]
    .simp
    .obtain⟨z,hz,e⟩:=aal.mp (abf (show(y.1,y.2)∈_ from hy)).1
     rw[<-e];exact nF z hz
  have live:∀ b,(s.heap.get? b).isSome=true->(ai.get? b).isSome=true:=j1 hk
  refine jS (C (_::fr)) (XX (_::fr)) (HO (_::fr)) body (eU hA _) O V F.ok (X:=λae=>X {σ with hp:=ae.hp}) (by rw[rc];exact hw) (s:={s with heap:=ai,toks:=_}) au λbr aj e h' tk hP R' S' f'=>?_
  obtain⟨kk,f'⟩:=f'
  refine IL (s:={s with heap:=h',toks:=tk}) (eU hA _).fr V R' S' f' λHl Xv Xw Xx=>?_
  obtain⟨aK,aR⟩:=HR (cx:=cx.at fr) R hk (.refl _) (λø ø e=>.inl e) nK Xw Xv
  refine k _ aj e Hl tk hP aK aR λL=>?_
  obtain⟨B,t,a,b,⟨_,_,c⟩,dd,f,g,i,j⟩:=Xx.p
  exact⟨B,t,a,b,c,dd,f,g,i,λx o q=>j x o (q.imp_left (live x))⟩
theorem FZ {cx:Cx} {cls:String} {env:Env} {L e:Addr} {dC ai h':Heap} {aC ab:aT} {σ:St} (R:aH cx env ab σ ai) (S:Step env.locals aC dC ab ai) (m:Heap.MadeExcOf ai h' e (.type cls) []):
  aH cx env ab σ h'/\Step env.locals aC dC ab h'/\o0 cx cls 0 L dC ab e h':=by
 obtain⟨R',S'⟩:=R.grow m.keeps
 obtain⟨t,he,Xy,ht⟩:=m.there
 have sub:∀ b o,(hideAll ai (Aw cx.fr)).get? b=some o->ai.get? b=some o:=λb o q=>of_hideAll _ q
 have fresh:∀ b,ai.get? b=none->(hideAll ai (Aw cx.fr)).get? b=none:=λb q=>by
  cases z:(hideAll ai (Aw cx.fr)).get? b with
  |none=>rfl
  |some o=>rw[sub b o z] at q;cases q
 refine⟨R',S.trans S',⟨hideAll ai (Aw cx.fr),t,λb o q=>m.keeps b o (sub b o q),fresh e m.new,(R.ff.hide λb hb=>hb).of_keeps λb o q ø=>⟨o,m.keeps b o q,rfl⟩,
  ⟨_,_,he,rfl,rfl,rfl,rfl⟩,⟨_,_,ht,rfl,rfl⟩,fresh t Xy,λb o q=>hideAll_get _ (R.keep b o q) λhm=>?_,λb o hb q d=>?_⟩⟩
 .obtain⟨_,_,_,z⟩:=FF.at R.ff hm
  rw[z] at q;cases q
 .have hl:(ai.get? b).isSome=true:=by
   rcases hb with hb|⟨i,hb⟩
   .exact S.live b hb
   .obtain⟨_,ob,_,z,_⟩:=R.here hb;rw[z];rfl
  obtain⟨o',z⟩:=ZJ.mp hl
  rw[m.keeps b o' z] at q;cases q
  exact hideAll_get _ z λhm=>by
   obtain⟨o2,z1,z2,_⟩:=FF.at R.ff hm
   rw[z] at z1;cases z1;rw[d] at z2;cases z2
section
variable {cx:Cx} {n:Nat} {env:Env} {sc:Scope} {ab:aT} {σ:St} {s:Shared} {A:Around} {Q:Value->Shared->Prop} {E:Value->Shared->Prop}
theorem o9 {it l:Addr} {i:Nat} {vs:List Value} {nn:Nat} (hA:A.handled=none) (eQ:s.heap.get? it=some (mW l i)) (hl:s.heap.get? l=some (bN vs nn)) (hx:vs[i]? =none)
  (hE:∀ ai ob h' e,Heap.SameBut it s.heap ai->ai.get? it=some ob->ob.isFreed=false->eP ob=false->Heap.MadeExcOf ai h' e (.type "StopIteration") []->E (.ref e) {s with heap:=h'}):
  wpAny (model cx.prog cx.w) A (call (.builtin "next") [.ref it]) Q E s:=by
 have hT:s.TypeIs (.ref it) "list_iterator":=Heap.IsListIter.typeIs (i:=i) (l:=l) ⟨_,eQ,rfl,rfl⟩
 refine Calls.call_function_entry pt m9 m8 (ng _) ?_
 unfold Builtin.«next»
 refine wpAny_bind (m:=someArgs "next" 1 2 _) (wpAny_pure ?_)
 dsimp only[List.headD]
 refine wpAny_bind (wpAny_specialOf (name:=Str.ofString "__next__") hT slot_listiter_next.lookup ?_)
 show wpAny _ _ (callSpecial? (.ref it) (Str.ofString "__next__")>>=_) _ _ s
 refine wpAny_bind (wpAny_callSpecial?_slot (name:=Str.ofString "__next__") hT slot_listiter_next
  (wpAny_call_entry slot_listiter_next hT entry_listiter_next ?_ (args_listiter_next _)))
 show wpAny _ _ (field (.ref it) 0>>=_) _ _ s
 refine wpAny_bind (wpAny_field eQ rfl (x:=.ref l) rfl ?_)
 show wpAny _ _ (if(Value.ref l==Value.none)=true then _ else _) _ _ s
 rw[if_neg (show ¬ ((Value.ref l==Value.none)=true) from aaF)]
 show wpAny _ _ (field (.ref it) 1>>=_) _ _ s
 refine wpAny_bind (wpAny_field eQ rfl (x:=.int i 0) rfl ?_)
 show wpAny _ _ (seqItems? (.ref l)>>=_) _ _ s
 refine wpAny_bind (wpAny_seqItems hl rfl ?_)
 have La:vs.toArray[i]? =none:=by simpa using hx
 simp only[ZO,La]
 refine wpAny_bind (wpAny_rule (wpAny_bind (wpAny_setField eQ rfl (by simp) ?_)))
 show wpAny _ _ (newExc (.type "StopIteration") []>>=_) _ _ _
 refine wpAny_bind ?_
 simp only[newExc,newTuple]
 refine wpAny_bind (wpAny_newObj_type ?_ (by size_fits))
 refine wpAny_bind (m:=firstArgMember _ _) (wpAny_of_eq (a:=Value.none) (by first|rfl|(simp only[firstArgMember];rfl)) ?_)
 refine wpAny_newObj_type ?_ (by size_fits)
 simp only[raiseNew]
 refine wpAny_bind (wpAny_handled ?_)
 first|rw[show A.in1.handled=none from hA]|rw[hA]
 refine wpAny_bind (wpAny_pure (wpAny_throw ?_))
 refine hE _ _ _ _ (aaM ..) (aaD _ eQ rfl) rfl rfl ⟨λb o q=>ZX _ (ZX _ q),aO (by rw[Heap.size_push];exact la [_] [] [] (.l .v0 (.a .v0 .n1)) (.f [1]) rfl),_,?_,aO (ZA _),?_⟩
 .exact aai _ rfl
 .exact ZX _ (aai _ rfl)
noncomputable def Kz:fX:=λfv ps hp K=>fv=.fn .next/\∃ it l k xs,ps=[.ref it]/\hp[it]? =some (.lit l k)/\hp[l]? =some (.list xs)/\xs[k]? =none/\K (hp.set it .junk)
theorem uK {cls:String} {L:Addr}:AA (FX cx cls L):=λdC yh ab e h k ⟨kk,f⟩=>⟨kk,f.older k⟩
theorem IM {L:Addr}:XS cx n Kz (FX cx "StopIteration" L) where
 mono:=uK
 call:=λ{env ab σ s A fv f ps vs X Q E} hA hr R df d k=>by
  obtain⟨rfl,it,l,kk,xs,rfl,h1,h2,h3,hX⟩:=hr
  have df:f=Value.builtin "next":=df
  subst df
  refine⟨.inl (cE λa e=>by cases e),?_⟩
  obtain⟨v,rfl,a,ha,rfl⟩:=lK d
  obtain⟨ob,e1,al,Cr,rfl⟩:=R.at ha h1
  obtain⟨Zh,e2,ws,nn,dd,rfl⟩:=R.at Cr h2
  refine o9 hA.hd e1 e2 (vs:=ws) (by
   have:=dd.length
   rw[ZS] at h3 ⊢
   exact la [_,_,_] [] [.l .v0 .v1,.e .v0 .v2] (.l .v2 .v1) (.f [1,0,1,1]) rfl h3 this) λai tT h' e hs hg hf hd m=>?_
  obtain⟨au,aB⟩:=R.write (o:=.junk) ha hs hg ⟨hf,hd⟩
  obtain⟨aK,aR,re⟩:=FZ (L:=L) au aB m
  exact k _ ab e h' s.toks hX aK aR ⟨0,re⟩
theorem jT (C:bF cx n) (O:aW env sc) (hk:kdOf sc x=3) (hd:(nm x !=Str.ofString "__debug__")=true) {p:Pos} {u:Value} (hv:cx.G x=some (.val u)) (R:aH cx env ab σ s.heap) (k:Q u s):
  wpAny (model cx.prog cx.w) A (eval (.Name (nm x) p) env) Q E s:=by
 obtain⟨m,mb,h1,h2,h3⟩:=C.g
 obtain⟨u',h4,h5⟩:=h3 x _ hv
 have:u'=u:=h4 ab
 subst this
 refine wpAny_Name ?_ (dG hd)
 rw[dq O hk]
 rcases h5 with q|⟨q1,q2⟩
 .exact loadGlobal_global (by rw[O.glob];exact h1.keeps R.keep) q k
 .exact loadGlobal_builtin (by rw[O.glob];exact h1.keeps R.keep) q1 (by rw[O.bi];exact h2.keeps R.keep) q2 k
theorem uL {x:Str} {np pos:Pos} {Q:Flow->Shared->Prop} (hh:A.handled=none)
  (hx:wpAny (model cx.prog cx.w) A (eval (.Name x np) env) (λv bz=>v=.type "ZeroDivisionError"/\bz=s) E s)
  (h:∀ h' e,Heap.MadeExc s.heap h' e "ZeroDivisionError" []->E (.ref e) {s with heap:=h'}):
  wpAny (model cx.prog cx.w) A (exec (.Raise (some (.Name x np)) none pos) env) Q E s:=by
 have hc:=PySem.F.excRaise_ZeroDivisionError
 have Nw:=PySem.F.excCall_ZeroDivisionError.sub
 show wpAny (model cx.prog cx.w) A (do standAt pos;raiseStmt env (some (do let v<-eval (.Name x np) env;standAt pos;pure v)) none) Q E s
 refine wpAny_bind (wpAny_standAt ?_)
 unfold raiseStmt
 dsimp only
 refine wpAny_bind (wpAny_bind (wpAny_mono hx (λv bz ai=>wpAny_bind (wpAny_standAt (wpAny_pure ?_))) λø ø e=>e))
 obtain⟨rfl,VM⟩:=ai
 subst bz
 refine wpAny_bind (wpAny_pure ?_)
 dsimp only
 refine wpAny_bind (wpAny_holding ?_)
 unfold excFromValue isExcClass
 refine wpAny_bind (wpAny_bind (wpAny_pure ?_))
 simp only[if_true]
 rw[hc.isExc]
 refine wpAny_pure ?_
 simp only[if_true]
 obtain⟨hp,g,d,tk,os⟩:=s
 refine wpAny_bind (wpAny_call_exc PySem.F.excCall_ZeroDivisionError λh' e hn=>?_)
 obtain⟨t,he,_⟩:=hn.there
 have hT:(⟨h',g,d,tk,os⟩:Shared).TypeIs (.ref e) "ZeroDivisionError":=(show ∃ o,h'.get? e=some o/\o.cls=.type "ZeroDivisionError" from⟨_,he,rfl⟩)
 refine wpAny_bind (wpAny_isInstance hT hc.isExc ?_)
 simp only[Bool.not_true,Bool.false_eq_true,if_false]
 refine wpAny_pure ?_
 first|(refine wpAny_bind (m:=isType (.type "ZeroDivisionError")) (wpAny_pure ?_))|(refine wpAny_bind (wpAny_pure ?_))
 first|(rw[if_pos rfl])|(simp only[if_true])|dsimp only
 refine wpAny_bind (wpAny_holding ?_)
 unfold raisedFor
 first|(simp only[Bool.false_eq_true,if_false])|(rw[if_neg (by decide)])|skip
 first|(refine wpAny_bind (wpAny_typeOf hT ?_))|(refine wpAny_bind ?_;refine wpAny_bind (wpAny_typeOf hT ?_))
 have issub:Meets (Builtin.«issubclass» ⟨[.type "ZeroDivisionError",.type "ZeroDivisionError"],[]⟩) (λø R s=>R (.ok (.ret (.bool true))) s):=by
  intro _ _ _ _ _ hs
  refine issubclass_outer ?_
  have IN:∀ {k:Value} {VN:Int} {tk:Tok} {M:Program} {w:World} {A:Around} {E:Value->Shared->Prop} {s:Shared} {Q:Fin->Shared->Prop} (hk:k=.int VN tk) (hq:Q (.done (.ret (.bool true))) s),
    wpAny (model M w) A (Builtin.«issubclass.nested» ⟨[.type "ZeroDivisionError",.type "ZeroDivisionError",k],[]⟩) Q E s:=by
   intro k VN tk M w A E s Q hk hq
   subst hk
   have hm:=hc.plainMeta
   repeat (any_goals (first|assumption|(rw[if_pos hm])|(rw[Nw])|wp_step))
  exact IN rfl hs
 refine wpAny_bind (call_issubclass issub ?_)
 first|(refine wpAny_bind (wpAny_truthy_bool ?_))|(refine wpAny_truthy_bool ?_)|(dsimp only[wants];first|(refine wpAny_bind (wpAny_truthy_bool ?_))|(refine wpAny_truthy_bool ?_))
 first|(rw[if_pos rfl])|(simp only[if_true])|skip
 refine wpAny_pure ?_
 unfold setFlight raiseNew
 refine wpAny_bind (wpAny_bind (wpAny_field (i:=1) (x:=Value.none) he rfl rfl ?_))
 rw[if_neg (by decide)]
 refine wpAny_pure (wpAny_bind (wpAny_handled ?_))
 rw[hh]
 first
  |exact wpAny_throw (h h' e hn)
  |exact wpAny_bind (wpAny_pure (wpAny_throw (h h' e hn)))
noncomputable def F4:Stmt->List (Nat×NameKind)->(St->Prop)->St->Prop:=λt xs X σ=>(∃ np pos,t=.Raise (some (.Name (nm 137) np)) none pos)/\(137,NameKind.globalImplicit)∈xs/\X σ
theorem AB (C:bF cx n) (hg:cx.G 137=some (.val (.type "ZeroDivisionError"))):i3 cx n "ZeroDivisionError" F4 where
 h:=λ{t xs kk env sc ab σ s A X Q E} ok hA O V hk R k=>by
  obtain⟨⟨np,pos,rfl⟩,hm,hX⟩:=hk
  have:kdOf sc 137=3:=by
   have:=ZU.mp ok _ hm
   unfold kdOf
   rw[show sc.names.lookup (nm 137)=some .globalImplicit from by simpa using this]
  refine uL hA.hd (jT C O this (by decide+kernel) hg R ⟨rfl,rfl⟩) λh' e m=>?_
  obtain⟨aK,aR,re⟩:=FZ (L:=env.locals) R (.refl _ _ _) (Heap.MadeExc.of m)
  exact k _ ab e h' s.toks hX aK aR ⟨0,re⟩
noncomputable def gq:Stmt->List (Nat×NameKind)->(St->Prop)->St->Prop:=λø ø ø ø=>False
theorem lg {cls:String}:i3 cx n cls gq where
 h:=λø ø ø ø hk=>hk.elim
end
section
variable {cx:Cx} {n:Nat} {rx:fX} {aY:Stmt->List (Nat×NameKind)->(St->Prop)->St->Prop} {env:Env} {sc:Scope} {ab:aT} {σ:St} {s:Shared} {A:Around} {P:ba} {Q:Flow->Shared->Prop} {E:Value->Shared->Prop}
theorem o0.there {cls:String} {L:Addr} {dC:Heap} {e:Addr} {h:Heap} (F:o0 cx cls 1 L dC ab e h):∃ t oe vs,h.get? e=some oe/\oe.cls=.type cls/\oe.data=.fields vs/\vs[0]? =some (.ref t)/\h.TupAt t []/\
  (∀ (i:Nat) (ob:Obj),ab[i]? =some e->h.get? e=some ob->eP ob=false->False)/\(∀ (i:Nat) (ob:Obj),ab[i]? =some t->h.get? t=some ob->eP ob=false->False):=by
 obtain⟨B,t,st,be,ff,kd,tup,bt,bD,rM⟩:=F.p
 obtain⟨oe,vs,T,oT,ts,he,⟨hc,h0⟩,hd,r⟩:=kd
 refine⟨t,oe,vs,he,hc,hd,h0,tup,λi ob hi hg d=>?_,λi ob hi hg d=>?_⟩
 .have:=rM _ _ (.inr ⟨i,hi⟩) hg d;rw[be] at this;cases this
 .have:=rM _ _ (.inr ⟨i,hi⟩) hg d;rw[bt] at this;cases this
theorem o0.typeIs {cls:String} {L:Addr} {dC:Heap} {e:Addr} {s:Shared} (F:o0 cx cls 1 L dC ab e s.heap):s.TypeIs (.ref e) cls:=by
 obtain⟨t,oe,vs,he,hc,_⟩:=F.there
 exact⟨oe,he,hc⟩
set_option tactic.hygienic true in
theorem AC (C:bF cx n) (XX:∀ L,XS cx n rx (FX cx "StopIteration" L)) (HO:i3 cx n "StopIteration" aY) (hg:cx.G 138=some (.val (.type "StopIteration"))) (hA:Good cx n A) (O:aW env sc) (V:vD cx env) {body:ao} (F5:body.ok sc=true) (hk:kdOf sc 138=3)
  {x:Nat} (hx:kdOf sc x=1) (Tx:(nm x !=Str.ofString "__debug__")=true) (hw:cT cx rx aY body (λbr=>match br.loc.get x with
   |some v=>P (.ret v) br
   |none=>False) σ) (R:aH cx env ab σ s.heap) (k:cV cx env ab s P Q) {p1 p2 p3 p4 p5:Pos}:
  wpAny (model cx.prog cx.w) A (exec (.Try body.sts [.ExceptHandler (some (.Name (nm 138) p1)) none [.Return (some (.Name (nm x) p2)) p3] p4] [] [] p5) env) Q E s:=by
 refine wpAny_Try_except (jS C XX HO body hA O V F5 hw R λbr aj e h' tk hP R' S' f'=>?_)
 obtain⟨kk,f'⟩:=f'
 refine Ax (s:={s with heap:=h',toks:=tk}) hA.fr V R' S' f' λai au aB IP=>?_
 refine Ay (s:={s with heap:=ai,toks:=tk}) au aB IP λbf aK aR re=>?_
 refine wpAny_handleBy_builtin (X:="StopIteration") (T:="StopIteration") (b:=true) owsi_raise.isExc (by rw[isSubtype_type];kernel_rfl) owsi_facts.sub
  (jT (s:={s with heap:=bf,toks:=tk}) C O hk (by decide+kernel) hg aK ⟨rfl,re.typeIs,?_⟩)
 rw[if_pos rfl]
 refine Az (s:={s with heap:=bf,toks:=tk}) aK aR re λcD cH cw yi=>?_
 split at hP
 .rename_i v hv
  refine wpAny_execs_cons (wpAny_Return_some (iI (s:={s with heap:=cD,toks:=tk}) (P:=λv' n4=>v'=v/\n4=br) O hx Tx hv ⟨rfl,rfl⟩ cH λv' n4 g8 u fq jD q Tz fT e8=>?_))
  obtain⟨rfl,rfl⟩:=q
  exact k (.ret v') n4 g8 (.ret u) fq jD hP ⟨u,rfl,Tz⟩ fT (cw.trans e8)
 .exact hP.elim
theorem aH.forget {h h':Heap} (R:aH cx env ab σ h) {m:Str->Option Value} (hs:Heap.SameBut env.locals h h') (yV:h'.Ns env.locals m):
  aH cx env ab {σ with loc:=[]} h'/\Step env.locals ab h ab h':=by
 refine⟨⟨λb o e=>?_,R.off,R.offL,R.inj,R.notL,R.len,λj o' e=>?_,⟨_,yV,λy q e=>by simp [Loc.get] at e⟩,R.cel,R.ff.keep λb ox ø e d=>?_,R.tb⟩,⟨.refl _,λø ø e=>.inl e,λb e=>?_,λb x e hL ø=>⟨x.slots,(hs.2 b hL).trans e,λø=>rfl⟩⟩⟩
 .refine(hs.2 b λq=>?_).trans (R.keep b o e)
  subst q;rw[R.offL] at e;cases e
 .obtain⟨a',tT,e1,e2,e3⟩:=R.obj j o' e
  exact⟨a',tT,e1,(hs.2 a' (R.notL j a' e1)).trans e2,e3⟩
 .by_cases q:b=env.locals
  .subst q;exact iC yV
  .exact⟨ox,(hs.2 b q).trans e,d⟩
 .by_cases q:b=env.locals
  .obtain⟨o,_,_,ho,_⟩:=yV
   rw[q,ho];rfl
  .rw[hs.2 b q];exact e
theorem AD (C:bF cx n) (XX:∀ L,XS cx n rx (FX cx "ZeroDivisionError" L)) (HO:i3 cx n "ZeroDivisionError" aY) (hg:cx.G 137=some (.val (.type "ZeroDivisionError"))) (Xz:cx.G 127=some (.fn .str)) (hA:Good cx n A) (O:aW env sc) (V:vD cx env) {body:ao} (F5:body.ok sc=true) (hk:kdOf sc 137=3) (PI:kdOf sc 127=3)
  {x:Nat} (hx:kdOf sc x=1) (Tx:(nm x !=Str.ofString "__debug__")=true) (hw:aF cx body P σ\/cT cx rx aY body (λbr=>P (.ret (.str (Str.ofString "none"))) {br with loc:=[]}) σ) (R:aH cx env ab σ s.heap) (k:cV cx env ab s P Q) {p1 p2 p3 p4 p5 p6 p7 p8 p9:Pos}:
  wpAny (model cx.prog cx.w) A (exec (.Try body.sts [.ExceptHandler (some (.Name (nm 137) p1)) (some (nm x)) [.Return (some (.BinOp (.Constant (.str (Str.ofString "none")) 0 p2) .Add (.Call (.Name (nm 127) p6) [.Name (nm x) p7] [] p8) p9)) p3] p4] [] [] p5) env) Q E s:=by
 refine wpAny_Try_except ?_
 rcases hw with hw|hw
 .refine fH C body hA O V F5 hw R λf br aj fl h' tk hP df R' S'=>?_
  cases f with
  |next=>cases df;exact wpAny_execs_nil (k .next br aj .next h' tk hP rfl R' S')
  |brk=>cases df;exact k .brk br aj .brk h' tk hP rfl R' S'
  |ret v=>obtain⟨u,rfl,d⟩:=df;exact k (.ret v) br aj _ h' tk hP ⟨u,rfl,d⟩ R' S'
 refine jS C XX HO body hA O V F5 hw R λbr aj e h' tk hP R' S' f'=>?_
 obtain⟨kk,f'⟩:=f'
 refine Ax (s:={s with heap:=h',toks:=tk}) hA.fr V R' S' f' λai au aB IP=>?_
 refine Ay (s:={s with heap:=ai,toks:=tk}) au aB IP λbf aK aR re=>?_
 refine wpAny_handleBy_builtin_as (X:="ZeroDivisionError") (T:="ZeroDivisionError") (b:=true) PySem.F.isExc_ZeroDivisionError PySem.F.notTuple_ZeroDivisionError PySem.F.excCall_ZeroDivisionError.sub
  (jT (s:={s with heap:=bf,toks:=tk}) C O hk (by decide+kernel) hg aK ⟨rfl,re.typeIs,?_⟩)
 rw[if_pos rfl]
 refine Az (s:={s with heap:=bf,toks:=tk}) aK aR re λcD cH cw yi=>?_
 obtain⟨t,oe,vs,he,hc,hd,h0,⟨ot,nt,Nx,yk,PN⟩,ne,VO⟩:=yi.there
 have de:eP oe=false:=by unfold eP;rw[hd]
 have dt:eP ot=false:=by unfold eP;rw[PN]
 have notL:∀ b o,cD.get? b=some o->eP o=false->b≠env.locals:=λb o q d z=>by
  obtain⟨m,hn,_⟩:=cH.loc
  obtain⟨o',e1,e2⟩:=iC hn
  rw[z,e1] at q;cases q;rw[d] at e2;cases e2
 refine bY (s:={s with heap:=cD,toks:=tk}) (v:=.val (.ref e)) (P:=λn4=>n4={br with loc:=br.loc.set x (.val (.ref e))}) O hx rfl cH rfl λpK g8 fq jD TB fT e8=>?_
 subst TB
 have F6:=e8.exact he (notL _ _ he de) (λi hi=>ne i _ hi he de) de
 have F7:=e8.exact Nx (notL _ _ Nx dt) (λi hi=>VO i _ hi Nx dt) dt
 have ck:∀ n5 gD sU,aH cx env n5 {br with loc:=br.loc.set x (.val (.ref e))} gD->Step env.locals ab s.heap n5 gD->∀ tt,wpAny (model cx.prog cx.w) A (do bindName env (nm x) .none;unbindBehindTheSuite env (nm x) p4) (λø jw=>Q (.ret (.str (Str.ofString "none") tt)) jw) E {s with heap:=gD,toks:=sU}:=λn5 gD sU oO uJ tt=>by
  obtain⟨m,hn,_⟩:=oO.loc
  refine wpAny_nameGoes_keeps (O.k1 x hx) hn (pG O) λrT v Ny Nz=>?_
  obtain⟨IQ,IR⟩:=oO.forget Nz Ny
  exact k _ _ _ _ _ _ hP ⟨_,rfl,_,rfl⟩ IQ (uJ.trans IR)
 refine wpAny_execs_cons (wpAny_Return_some (wpAny_BinOp (wpAny_Constant_str ?_)))
 --str(x)
 obtain⟨m,mb,g1,g2,g3⟩:=C.g
 obtain⟨u',g4,g5⟩:=g3 127 _ Xz
 have XA:u'=Value.type "str":=g4 ab
 subst XA
 have nd:(nm 127 !=Str.ofString "__debug__")=true:=by decide+kernel
 refine wpAny_Call_NameR (wpAny_Name ?_ (dG nd))
 rw[dq O PI]
 have F8:∀ b o,fq.get? b=some o->eP o=false->b≠env.locals:=λb o q d z=>by
  obtain⟨m,hn,_⟩:=fT.loc
  obtain⟨o',e1,e2⟩:=iC hn
  rw[z,e1] at q;cases q;rw[d] at e2;cases e2
 have IS:∀ b o,cD.get? b=some o->eP o=false->(∀ i:Nat,aj[i]? ≠some b)->∀ i:Nat,g8[i]? ≠some b:=λb o q d ha i hi=>by
  rcases e8.fresh i b hi with z|z
  .exact ha i z
  .rw[show cD.get? b=none from z] at q;cases q
 have NA:=IS e oe he de λi hi=>ne i _ hi he de
 have NB:=IS t ot Nx dt λi hi=>VO i _ hi Nx dt
 have tail:∀ tk ut,wpAny (model cx.prog cx.w) (A.mark (some (.ref e))) (callWith p8 (.type "str") [] (backTo p8 (starEach [.Name (nm x) p7] env)) []) (λTC gk=>wpAny (model cx.prog cx.w) (A.mark (some (.ref e))) (binaryOp .Add (.str (Str.ofString "none") jD) TC) (λr dQ=>wpAny (model cx.prog cx.w) A (do bindName env (nm x) .none;unbindBehindTheSuite env (nm x) p4) (λø jw=>Q (.ret r) jw) E dQ) ut gk) ut {s with heap:=fq,toks:=tk}:=by
  intro tk ut
  refine bQ (cx:=cx) (es:=.cons (.loc x p7) .nil) (Pm:=λø=>True) (λh ø=>.inl (cE λa e=>by cases e)) (λe r q=>bj (by have z:PE.loc x p7=e:=congrArg ca.hd q;rw[<-z];rfl)) rfl (λq=>absurd (congrArg ca.isNil q) aaF) (λø=>?_)
  refine spliced_more (iI (s:={s with heap:=fq,toks:=tk}) (P:=λv' n4=>v'=.val (.ref e)/\n4={br with loc:=br.loc.set x (.val (.ref e))}) O hx Tx (show Loc.get _ _=_ by rw[Loc.get_set,if_pos rfl]) ⟨rfl,rfl⟩ fT λv' n4 n5 u gD sU q IT oO uJ=>spliced_none ⟨trivial,?_⟩)
  obtain⟨rfl,rfl⟩:=q
  have IT:u=.ref e:=IT
  subst IT
  have NC:=uJ.exact F6 (F8 _ _ F6 de) NA de
  have ND:=uJ.exact F7 (F8 _ _ F7 dt) NB dt
  refine PySem.P.str_of_exc_none (s:={s with heap:=gD,toks:=sU}) PySem.F.excStr_ZeroDivisionError (by have:=hA.units;show A.units+2<cLine;exact la [_,_,_] [] [.t (.a (.a .v0 (.m 16 .v1)) (.n 100)) .v2] (.t (.a .v0 .n2) .v2) (.f [1,1]) rfl this) ⟨oe,vs,NC,hc,hd,h0⟩ ⟨ot,nt,ND,yk,PN⟩ ?_
  refine mZ (cx:=cx) (env:=env) (ab:=n5) (s:={s with heap:=gD,toks:=sU+1}) (a:=.str (Str.ofString "none")) (b:=.str Str.empty) (P:=λr n4=>r=.str (Str.ofString "none")/\n4={br with loc:=br.loc.set x (.val (.ref e))}) ⟨by unfold aV;decide,by constructor<;>first|rfl|decide+kernel⟩ oO ⟨_,rfl⟩ ⟨_,rfl⟩ λr n4 IU u rT NE q TD IQ IR=>?_
  obtain⟨rfl,rfl⟩:=q
  obtain⟨tt,rfl⟩:=TD
  exact ck IU rT NE IQ (((cw.trans e8).trans uJ).trans IR) tt
 rcases g5 with q|⟨q1,q2⟩
 .exact loadGlobal_global (by rw[O.glob];exact g1.keeps fT.keep) q (tail _ _)
 .exact loadGlobal_builtin (by rw[O.glob];exact g1.keeps fT.keep) q1 (by rw[O.bi];exact g2.keeps fT.keep) q2 (tail _ _)
end
structure CI where
 j:Nat
 k:Nat
 p:Pos
 q:Str
 params:Arguments
 body:List Stmt
 sc:Scope
 fr:List Nat
noncomputable def CI.st (I:CI):Stmt:=.FunctionDef (nm 29) I.params I.body [] none [] I.sc none (nm 29) I.p
noncomputable def NG (j k:Nat) (q:Str) (fr:List Nat) (x:String):CI:=match(cJ (aQ x)).1 with
 |.FunctionDef _ params body _ _ _ scope _ _ p=>⟨j,k,p,q,params,body,scope,fr⟩
 |_=>⟨j,k,p0,q,default,[],kZ,fr⟩
noncomputable def mj:CI:=NG 0 1 sq [28,16,29] "_int2digits"
noncomputable def mm:CI:=NG 1 2 sr [37,16,29] "_digits2int"
theorem IV:(cJ (aQ "_int2digits")).1=mj.st:=rfl
theorem IW:(cJ (aQ "_digits2int")).1=mm.st:=rfl
noncomputable def NH (I:CI) (as:List Addr) (ob:Obj):Prop:=∃ yS c' lj jp pm rO,as=yS++[c']/\ob={cls:=.type "function",data:=.func (fnX (nm 29) I.q I.params I.body I.sc lj .none .none jp pm none (.ref c') rO)}/\
 ∀ (j x:Nat),I.fr[j]? =some x->∃ a,yS[j]? =some a/\lj.lookup (nm x)=some a
noncomputable def IX:rP:=λk as ob=>(k=1/\NH mj as ob)\/(k=2/\NH mm as ob)
section
variable {cx:Cx} {n:Nat} {env:Env} {sc:Scope} {ab:aT} {σ:St} {s:Shared} {A:Around} {P:ba} {Q:Flow->Shared->Prop} {E:Value->Shared->Prop}
theorem aH.tabNew {h h':Heap} (R:aH cx env ab σ h) {j:Nat} {T c:Addr} {KA KC:Obj} {oT oc:PO} (ha:ab[j]? =some T) (hn:h.get? c=none) (hx:∀ b o,b≠T->h.get? b=some o->h'.get? b=some o)
  (hT:h'.get? T=some KA) (hc:h'.get? c=some KC) (iT:cN cx (ab++[c]) KA oT) (ic:cN cx (ab++[c]) KC oc):
  aH cx env (ab++[c]) {σ with hp:=σ.hp.set j oT++[oc]} h'/\Step env.locals ab h (ab++[c]) h':=by
 have hE:mx ab (ab++[c]):=.snoc _ _
 have oC:∀ (i:Nat) (b:Addr),(ab++[c])[i]? =some b->(ab[i]? =some b)\/(i=ab.length/\b=c):=λi b e=>c6 e
 have off:∀ (i:Nat) (b:Addr),ab[i]? =some b->b≠c:=λi b e q=>by
  obtain⟨_,_,_,e2,_⟩:=R.here e
  rw[q,hn] at e2;cases e2
 have new:cx.h₀.get? c=none:=by
  cases q:cx.h₀.get? c with
  |none=>rfl
  |some o=>have:=R.keep _ _ q;rw[hn] at this;cases this
 have nL:c≠env.locals:=λq=>by
  obtain⟨m,⟨o,_,_,ho,_⟩,_⟩:=R.loc
  rw[<-q,hn] at ho;cases ho
 obtain⟨oo,Zi,_,XB,XC⟩:=R.here ha
 refine⟨⟨λb o e=>hx b o (λq=>by subst q;rw[R.off j _ ha] at e;cases e) (R.keep b o e),λi b e=>?_,R.offL,λi i' b e1 e2=>?_,λi b e=>?_,by simp [R.len],λi o' e=>?_,?_,λx i e=>?_,
  R.ff.keep λb o ø e d=>⟨o,hx b o (λq=>by subst q;rw[XB] at e;cases e;rw[XC.notD] at d;cases d) e,d⟩,λi a e=>hE _ _ (R.tb i a e)⟩,
  ⟨hE,λi b e=>?_,λb e=>?_,λb o e ø yV=>⟨o.slots,hx b o (λq=>yV j (q▸ha)) e,λø=>rfl⟩⟩⟩
 .rcases oC i b e with q|⟨_,rfl⟩
  .exact R.off i b q
  .exact new
 .rcases oC i b e1 with q1|⟨rfl,q1⟩<;>rcases oC i' b e2 with q2|⟨rfl,q2⟩
  .exact R.inj i i' b q1 q2
  .exact absurd q2 (off i b q1)
  .exact absurd q1 (off i' b q2)
  .rfl
 .rcases oC i b e with q|⟨_,rfl⟩
  .exact R.notL i b q
  .exact nL
 .dsimp only at e
  rcases c6 e with e|⟨rfl,rfl⟩
  .rw[List.getElem?_set] at e
   by_cases kP:j=i
   .subst kP
    rw[if_pos rfl] at e
    by_cases l:j<σ.hp.length
    .rw[if_pos l] at e
     cases e
     exact⟨T,KA,hE _ _ ha,hT,iT⟩
    .rw[if_neg l] at e;cases e
   .rw[if_neg kP] at e
    obtain⟨b,tT,e1,e2,e3⟩:=R.obj i o' e
    exact⟨b,tT,hE _ _ e1,hx _ _ (λq=>kP (R.inj j i b (q▸ha) e1)) e2,e3.mono hE⟩
  .exact⟨c,KC,by rw[aaE,<-R.len];exact ZR,hc,ic⟩
 .obtain⟨m,rS,hm⟩:=R.loc
  exact⟨m,rS.at' λo e=>hx _ o (λq=>R.notL j T ha q.symm) e,λx p e=>(hm x p e).imp λø=>aaa (.mono hE)⟩
 .obtain⟨b,c',d⟩:=R.cel x i e
  exact⟨b,hE _ _ c',d⟩
 .rcases oC i b e with q|⟨_,rfl⟩
  .exact .inl q
  .exact .inr hn
 .by_cases q:b=T
  .subst q;rw[hT];rfl
  .obtain⟨o,z⟩:=ZJ.mp e
   rw[hx b o q z];rfl
noncomputable def AE (x:Nat) (v:PV) (Q:St->Prop) (σ:St):Prop:=match look σ.ce x with
 |some id=>(match σ.hp[id]? with
   |some (.cell _)=>Q {σ with hp:=σ.hp.set id (.cell (some v))}
   |_=>False)
 |none=>False
set_option tactic.hygienic true in
theorem TF {o:Option PO} {A:Pos->Prop} {B:Pos->Nat->Prop} (h:match o with|some (.ctab p none)=>A p|some (.ctab p (some c))=>B p c|_=>False):(∃ p,o=some (.ctab p none)/\A p)\/∃ p c,o=some (.ctab p (some c))/\B p c:=by
 rcases o with _|o
 .exact False.elim h
 cases o<;>first|exact False.elim h|skip
 rename_i p c
 cases c
 .exact .inl ⟨_,rfl,h⟩
 .exact .inr ⟨_,_,rfl,h⟩
noncomputable def DJ (I:CI) (Q:ba) (σ:St):Prop:=∃ dk:List Nat,(∀ (j x:Nat),I.fr[j]? =some x->∃ i,dk[j]? =some i/\look σ.ce x=some i)/\dk.length=I.fr.length/\(match σ.hp[I.j]? with
 |some (.ctab p none)=>p=I.p/\AE 29 (.ref (σ.hp.length+1)) (Q .next) {σ with hp:=σ.hp.set I.j (.ctab I.p (some σ.hp.length))++[.code I.q]++[.clo I.k (dk++[σ.hp.length])]}
 |some (.ctab p (some c))=>p=I.p/\σ.hp[c]? =some (.code I.q)/\AE 29 (.ref σ.hp.length) (Q .next) {σ with hp:=σ.hp++[.clo I.k (dk++[c])]}
 |_=>False)
structure ie (cx:Cx) (I:CI) (c T:Addr):Prop where
 tb:cx.tb I.j=some T
 code:CodeHd cx.h₀ c T
 bm:∃ mg bm ob,cx.h₀.Ns mainGlobals mg/\mg "__builtins__"=some (.ref bm)/\bm≠builtinsNs/\cx.h₀.get? bm=some ob/\ob.cls=.type "module"/\ob.dict=some builtinsNs/\ob.data=.plain
 cs:∀ as ob,NH I as ob->cx.cs I.k as ob
 d0:I.params.defaults=[]
 k0:I.params.kw_defaults=[]
 ann:∀ env,annTrees I.params none env=[]
 free:∀ y∈I.sc.names,y.2=.free->∃ x∈I.fr,y.1=nm x
 mem:∀ x∈I.fr,(nm x,NameKind.free)∈I.sc.names
theorem kq {ab:aT} {dk:List Nat}:∀ {as:List Addr},lI ab dk as->as.length=dk.length/\∀ (j i:Nat),dk[j]? =some i->∃ a,as[j]? =some a/\ab[i]? =some a:=by
 induction dk with
 |nil=>intro as h;cases as with
  |nil=>exact⟨rfl,nofun⟩
  |cons=>exact h.elim
 |cons i is ih=>intro as h;cases as with
  |nil=>exact h.elim
  |cons a as=>
   obtain⟨h1,h2⟩:=ih h.2
   refine⟨congrArg Nat.succ h1,λj k e=>?_⟩
   cases j with
   |zero=>cases e;exact⟨a,rfl,h.1⟩
   |succ j=>exact h2 j k e
theorem AF {ab:aT} (dk:List Nat):(∀ i∈dk,∃ a,ab[i]? =some a)->∃ as,lI ab dk as:=by
 induction dk with
 |nil=>exact λø=>⟨[],trivial⟩
 |cons i is ih=>
  intro h
  obtain⟨a,ha⟩:=h i (.head _)
  obtain⟨as,q⟩:=ih λk hk=>h k (.tail _ hk)
  exact⟨a::as,ha,q⟩
theorem n6 {ab:aT} {i:Nat} {a:Addr} (ha:ab[i]? =some a) {dk:List Nat}:∀ {as:List Addr},lI ab dk as->lI ab (dk++[i]) (as++[a]):=by
 induction dk with
 |nil=>intro as h;cases as with
  |nil=>exact⟨ha,trivial⟩
  |cons=>exact h.elim
 |cons i is ih=>intro as h;cases as with
  |nil=>exact h.elim
  |cons a as=>exact⟨h.1,ih h.2⟩
set_option tactic.hygienic true in
theorem yl {I:CI} {c T:Addr} (B:ie cx I c T) (O:aW env sc) (IY:sc.names.lookup (nm 29)=some .cell) (F9:env.code=.ref c) (hq:qualnameIn env (nm 29) (nm 29)=I.q) (hw:DJ I P σ) (R:aH cx env ab σ s.heap) (k:cV cx env ab s P Q):
  wpAny (model cx.prog cx.w) A (exec I.st env) Q E s:=by
 obtain⟨dk,IZ,XD,hw⟩:=hw
 obtain⟨mg,bm,ob,Ga,M9,DK,NI,XF,TG,TH⟩:=B.bm
 have hT:=R.tb _ _ B.tb
 have PP:=R.off _ _ hT
 have kU:∀ {ag:aT} {bz:Shared},cV cx env ag bz P Q->iH cx env ag bz (P .next) (λø=>Q .next):=λk br aj h' tk a b c=>k .next br aj .next h' tk a rfl b c
 have NJ:∀ y∈I.sc.names,y.2=.free->(env.cells.lookup y.1).isSome=true:=λy hy hf=>by
  obtain⟨x,hx,e⟩:=B.free y hy hf
  obtain⟨j,hj⟩:=List.getElem?_of_mem hx
  obtain⟨i,_,hi⟩:=IZ j x hj
  obtain⟨a,_,ha⟩:=R.cel x i hi
  rw[e,ha];rfl
 have jY:=gm (scope:=I.sc) NJ
 have XG:mainGlobals≠T:=λq=>by
  obtain⟨o,_,_,e,_⟩:=Ga
  rw[q,PP] at e;cases e
 have XH:bm≠T:=λq=>by rw[q,PP] at NI;cases NI
 have XI:bm≠mainGlobals:=λq=>by
  obtain⟨o,es,ep,e,hd,_⟩:=Ga
  rw[q,e] at NI;cases NI;rw[hd] at TH;cases TH
 have VP:s.heap.BuiltinsAt mg T:=⟨bm,ob,M9,DK,XI,XH,R.keep _ _ NI,XF,TG,TH⟩
 obtain⟨yS,I0⟩:=AF (ab:=ab) dk λi hi=>by
  obtain⟨j,hj⟩:=List.getElem?_of_mem hi
  have PG:j<I.fr.length:=by rw[<-XD];exact(Zv.mp hj).1
  obtain⟨i',h1,h2⟩:=IZ j _ (ZB PG)
  rw[hj] at h1;cases h1
  obtain⟨a,ha,_⟩:=R.cel _ _ h2
  exact⟨a,ha⟩
 have Gb:∀ (j x:Nat),I.fr[j]? =some x->∃ a,yS[j]? =some a/\(bn env I.sc.names).reverse.lookup (nm x)=some a:=λj x hj=>by
  obtain⟨i,h1,h2⟩:=IZ j x hj
  obtain⟨a,ha,hl⟩:=R.cel x i h2
  obtain⟨a',h3,h4⟩:=(kq I0).2 j i h1
  rw[ha] at h4;cases h4
  exact⟨a,h3,gF (B.mem x (ZE hj)) hl⟩
 refine nestDef_K B.d0 B.k0 (B.ann env) ?_
 rw[hq]
 rcases TF hw with⟨p,hp,hw⟩|⟨p,TJ,hp,hw⟩
 .obtain⟨rfl,hw⟩:=hw
  obtain⟨KA,TK,iT⟩:=R.at hT hp
  have iT:KA=tabObj #[]:=iT
  subst iT
  refine makeFunction_K jY O.glob (Ga.keeps R.keep) F9 (B.code.keeps R.keep) TK trivial rfl XG VP λc' rO jp h' tk hx TL pF TM NK=>?_
  obtain⟨XJ,oc,vs,t,e2,XK,hd,hv⟩:=TM
  cases e2
  have hn:s.heap.get? c'=none:=aO TL
  obtain⟨au,aB⟩:=R.tabNew (oT:=.ctab I.p (some σ.hp.length)) (oc:=.code I.q) hT hn (λb o nb e=>hx b o nb e) NK XK ⟨c',by rw[<-R.len];exact ZR,by simp [rawInt]⟩ ⟨vs,t,hd,hv,Obj.isFreed_of_fields hd⟩
  have cb:(ab++[c']).length=σ.hp.length+1:=by simp [R.len]
  obtain⟨aK,aR⟩:=au.alloc (ob:=fnMade (nm 29) I.q I.params I.body I.sc (bn env I.sc.names).reverse jp ((mg "__name__").getD .none) c' rO) (o:=.clo I.k (dk++[σ.hp.length])) ⟨yS++[c'],by
    refine gU (.snoc _ _) (n6 (by rw[<-R.len];simp) (gU (.snoc _ _) I0)),B.cs _ _ ⟨yS,c',_,jp,_,rO,rfl,rfl,Gb⟩,rfl,rfl⟩
  refine jk (s:={s with heap:=h'.push _,toks:=tk}) (v:=.ref (σ.hp.length+1)) (P:=P .next) O IY hw aK ⟨_,by rw[<-cb];simp,rfl⟩ (kU (k.after (aB.trans aR)))
 .obtain⟨rfl,AG,hw⟩:=hw
  obtain⟨KA,TK,iT⟩:=R.at hT hp
  obtain⟨c',Cp,iT⟩:=iT
  subst iT
  obtain⟨KC,VQ,vs,t,hd,hv,_⟩:=R.at Cp AG
  refine makeFunction_hit (cv:=.ref c') jY O.glob (Ga.keeps R.keep) F9 (B.code.keeps R.keep) TK (by simp [TriplesOk,rawInt]) (by simp [codeAmong,rawInt]) VP λrO jp h' tk hk GX=>?_
  obtain⟨au,aB⟩:=R.grow hk
  obtain⟨aK,aR⟩:=au.alloc (ob:=fnMade (nm 29) I.q I.params I.body I.sc (bn env I.sc.names).reverse jp ((mg "__name__").getD .none) c' rO) (o:=.clo I.k (dk++[TJ])) ⟨yS++[c'],by
    refine gU (.snoc _ _) (n6 Cp I0),B.cs _ _ ⟨yS,c',_,jp,_,rO,rfl,rfl,Gb⟩,rfl,rfl⟩
  refine jk (s:={s with heap:=h'.push _,toks:=tk}) (v:=.ref σ.hp.length) (P:=P .next) O IY hw aK ⟨_,by rw[<-R.len];exact ZR,rfl⟩ (kU (k.after (aB.trans aR)))
end
theorem eX (a b:Nat):(a:Int).fdiv (b:Int)=((a/b:Nat):Int):=by
 rw[Int.fdiv_eq_ediv_of_nonneg _ (by exact la [_] [] [] (.L .n0 (.c .v0)) (.f [1]) rfl)];rfl
theorem cA (a b:Nat):(a:Int).fmod (b:Int)=((a%b:Nat):Int):=by
 rw[Int.fmod_eq_emod_of_nonneg _ (by exact la [_] [] [] (.L .n0 (.c .v0)) (.f [1]) rfl)];rfl
theorem AH (x k:Nat):x&&& (x/2^k*2^k)=x/2^k*2^k:=by
 rw[<-Nat.shiftRight_eq_div_pow,<-Nat.shiftLeft_eq]
 apply Nat.eq_of_testBit_eq
 intro i
 rw[Nat.testBit_and,Nat.testBit_shiftLeft,Nat.testBit_shiftRight]
 by_cases h:k<=i
 .have:k+(i-k)=i:=by exact la [_,_] [] [.l .v0 .v1] (.e (.a .v0 (.s .v1 .v0)) .v1) (.o 0 (.k true (.s .v1 .v0) (.o 0 (.f [0,0,1,1]) (.f [1,0,0,1]))) (.k true (.s .v1 .v0) (.o 0 (.f [0,1,0,1,1]) (.f [0,1,0,1])))) rfl h
  simp [h,this]
 .have:decide (i>=k)=false:=by simp;exact la [_,_] [] [.n (.l .v0 .v1)] (.t .v1 .v0) (.f [1,1]) rfl h
  simp [this]
theorem jU (x y:Nat):Builtin.bitAnd (x:Int) (y:Int)=((x&&& y:Nat):Int):=by
 unfold Builtin.bitAnd
 have h1:decide ((0:Int)<=(x:Int))=true:=by simp
 have h2:decide ((0:Int)<=(y:Int))=true:=by simp
 rw[h1,h2]
 rfl
theorem uM (x k:Nat):Builtin.bitXor (x:Int) ((x/2^k*2^k:Nat):Int)=((x%2^k:Nat):Int):=by
 rw[bitXor_and,jU,AH]
 have:=Nat.div_add_mod x (2^k)
 rw[aaU] at this
 exact la [_,_,_] [] [.e (.a .v0 .v1) .v2] (.E (.s (.a (.c .v2) (.c .v0)) (.m 2 (.c .v0))) (.c .v1)) (.o 0 (.f [1,0,1]) (.f [1,1])) rfl this
noncomputable def I3:List Nat->List Nat->List (Nat×Nat)
 |x::xs,i::is=>(x,i)::I3 xs is
 |_,_=>[]
theorem AI {xs:List Nat}:∀ {is:List Nat} {x i:Nat},look (I3 xs is) x=some i->∃ j:Nat,xs[j]? =some x/\is[j]? =some i:=by
 induction xs with
 |nil=>exact nofun
 |cons y xs ih=>intro is x i h;cases is with
  |nil=>exact nomatch (show(none:Option Nat)=some _ from h)
  |cons k is=>
   have h:(if x=y then some k else look (I3 xs is) x)=some i:=h
   by_cases e:x=y
   .rw[if_pos e] at h;exact⟨0,by rw[e];rfl,h⟩
   .rw[if_neg e] at h
    obtain⟨j,h1,h2⟩:=ih h
    exact⟨j+1,h1,h2⟩
structure uN (I:CI) (ps:List Nat) (b:ao):Prop where
 body:I.body=b.sts
 bind:∀ lj jp pm c rO c8,c8.length=ps.length->bindArgs (PySem.W.fnX (nm 29) I.q I.params I.body I.sc lj .none .none jp pm none c rO) ⟨c8,[]⟩=pure ((ps.map nm).zip c8)
 co:I.sc.isCoroutine=false
 gen:I.sc.isGenerator=false
 kind:I.sc.kind=.function
 ok:b.ok I.sc=true
 cell:∀ x∈I.sc.names,x.2≠ .cell
 loc:∀ x∈ps,I.sc.names.lookup (nm x)=some .local
theorem qk {cx:Cx} {n:Nat} {I:CI} {TN:List Nat} {b:ao} (K:uN I TN b) (C:∀ fr,bF (cx.at fr) n) (iQ:cx.h₀.NoLimit) (oE:∀ as ob,cx.cs I.k as ob->NH I as ob) {S:List Nat->Spec}
  (hS:∀ dk ps hp K,S dk ps hp K->∃ jC ic,dk=jC++[ic]/\jC.length=I.fr.length/\hp[ic]? =some (.code I.q)/\bc cx I.sc TN [] (I3 I.fr jC) b ps hp K)
  {dk:List Nat} (fr:List Env) {env:Env} {ab:aT} {σ:St} {s:Shared} {A:Around} {ps:List PV} {vs:List Value} {P:bu} {Q:Value->Shared->Prop} {E:Value->Shared->Prop} {i:Nat} {a:Addr}
  (hA:Good (cx.at fr) (n+1) A) (R:aH (cx.at fr) env ab σ s.heap) (ha:ab[i]? =some a) (hi:σ.hp[i]? =some (.clo I.k dk)) (d:aU ab ps vs) (hw:S dk ps σ.hp (λr aE=>P r {σ with hp:=aE})) (k:bB (cx.at fr) env ab s P Q):
  wpAny (model cx.prog cx.w) A (call (.ref a) vs) Q E s:=by
 obtain⟨jC,ic,rfl,cb,XM,hw⟩:=hS _ _ _ _ hw
 obtain⟨ob,QI,as,TO,TP,_,_⟩:=R.at ha hi
 obtain⟨yS,c',lj,jp,pm,rO,rfl,rfl,XN⟩:=oE as ob TP
 have len:=(kq TO).1
 have NL:yS.length=jC.length:=by simpa using len
 have Cp:ab[ic]? =some c':=by
  obtain⟨z,h1,h2⟩:=(kq TO).2 jC.length ic (by simp)
  rw[<-NL] at h1
  simp at h1
  rw[h1];exact h2
 obtain⟨KC,VQ,XO,t,MS,XQ,_⟩:=R.at Cp XM
 refine iP (cx:=cx.at fr) (λL=>C _) hA (fd:=PySem.W.fnX (nm 29) I.q I.params I.body I.sc lj .none .none jp pm none (.ref c') rO) (params:=TN) (body:=b) (ce:=I3 I.fr jC)
  ⟨by show FuncBody.stmts _=_;rw[K.body],rfl,rfl,rfl,λc8 hv=>K.bind lj jp pm _ rO c8 hv,K.co,K.gen,K.kind,K.ok⟩ QI rfl iQ ⟨c',KC,XO,t,rfl,VQ,MS,XQ⟩ K.cell K.loc (λx i e=>?_) R d (gK hw) k
 obtain⟨j,h1,h2⟩:=AI e
 obtain⟨a',h3,h4⟩:=XN j x h1
 have hj:j<jC.length:=(Zv.mp h2).1
 obtain⟨z,h5,h6⟩:=(kq TO).2 j i (by rw[ZQ hj];exact h2)
 rw[ZQ (by exact la [_,_,_] [] [.e .v0 .v1,.t .v2 .v1] (.t .v2 .v0) (.f [1,1,0,1]) rfl NL hj),h3] at h5
 cases h5
 exact⟨a',h6,h4⟩
noncomputable def f7 (n:Nat):Nat->Nat->Nat->Nat->List Int->List Int
 |0,x,L,_,xs=>xs.set L x
 |d+1,x,L,R,xs=>if L+1=R then xs.set L x else
  f7 n d (x/2^(((L+R)/2-L)*n)) ((L+R)/2) R (f7 n d (x%2^(((L+R)/2-L)*n)) L ((L+R)/2) xs)
theorem ql (n d:Nat):∀ x L R xs,(f7 n d x L R xs).length=xs.length:=by
 induction d with
 |zero=>exact λø ø ø ø=>aaE ..
 |succ d ih=>
  intro x L R xs
  rw[f7]
  by_cases h:L+1=R
  .rw[if_pos h];exact aaE ..
  .rw[if_neg h,ih,ih]
noncomputable def NM (d:Nat) (dk:List Nat):Spec:=λps hp K=>∃ AJ oG oH ic x L R aJ eE n N xs,dk=[AJ,oG,oH,ic]/\ps=[.int (x:Nat),.int (L:Nat),.int (R:Nat)]/\L<R/\R-L<=2^d/\R<=xs.length/\xs.length<=5000/\n<=5000/\N<=20000/\x<2^N/\
 hp[AJ]? =some (.cell (some (.ref aJ)))/\hp[aJ]? =some (.list (aa xs))/\hp[oG]? =some (.cell (some (.int (n:Nat))))/\hp[oH]? =some (.cell (some (.ref eE)))/\hp[eE]? =some (.clo 1 dk)/\hp[ic]? =some (.code sq)/\
 K .none (hp.set aJ (.list (aa (f7 n d x L R xs))))
noncomputable def i4 (n:Nat) (xs:List Nat):Nat->Nat->Nat->Nat
 |0,L,_=>xs.getD L 0
 |d+1,L,R=>if L+1=R then xs.getD L 0 else i4 n xs d ((L+R)/2) R*2^(((L+R)/2-L)*n)+i4 n xs d L ((L+R)/2)
noncomputable def NN (d:Nat) (dk:List Nat):Spec:=λps hp K=>∃ Ct oG oH ic L R aJ eE n xs,dk=[Ct,oG,oH,ic]/\ps=[.int (L:Nat),.int (R:Nat)]/\L<R/\R-L<=2^d/\R<=xs.length/\xs.length<=5000/\n<=5000/\(∀ x∈xs,x<2^n)/\xs.length*n<=20000/\
 hp[Ct]? =some (.cell (some (.ref aJ)))/\hp[aJ]? =some (.list (aa (ah xs)))/\hp[oG]? =some (.cell (some (.int (n:Nat))))/\hp[oH]? =some (.cell (some (.ref eE)))/\hp[eE]? =some (.clo 2 dk)/\hp[ic]? =some (.code sr)/\
 K (.int (i4 n xs d L R:Nat)) hp
theorem TQ {L R d:Nat} (h:L<R) (z: ¬ L+1=R):L<(L+R)/2/\(L+R)/2<R/\(R-L<=2^(d+1)->(L+R)/2-L<=2^d/\R-(L+R)/2<=2^d):=by
 refine⟨by exact la [_,_] [] [.t .v0 .v1,.n (.e (.a .v0 .n1) .v1)] (.t .v0 (.d (.a .v0 .v1) 2)) (.k true (.d (.a .v0 .v1) 2) (.o 0 (.f [1,1,0,0,2]) (.f [1,0,0,1]))) rfl h z,by exact la [_,_] [] [.t .v0 .v1] (.t (.d (.a .v0 .v1) 2) .v1) (.k true (.d (.a .v0 .v1) 2) (.f [0,1,1,2])) rfl h,λhd=>?_⟩
 have VR:2^(d+1)=2*2^d:=Nat.pow_succ'
 exact⟨by exact la [_,_,_,_] [] [.l (.s .v0 .v1) .v2,.e .v2 (.m 2 .v3)] (.l (.s (.d (.a .v1 .v0) 2) .v1) .v3) (.k true (.s .v0 .v1) (.o 0 (.k true (.s (.d (.a .v1 .v0) 2) .v1) (.o 0 (.f [0,1,0,0,0,0,0,0,0,1]) (.k true (.d (.a .v1 .v0) 2) (.f [0,1,0,2,0,0,0,1,0,0,0,2])))) (.k true (.s (.d (.a .v1 .v0) 2) .v1) (.o 0 (.f [0,1,0,0,0,0,0,0,0,1]) (.k true (.d (.a .v1 .v0) 2) (.f [0,1,0,2,0,1,0,0,0,1,1,2])))))) rfl hd VR,by exact la [_,_,_,_] [] [.l (.s .v0 .v1) .v2,.e .v2 (.m 2 .v3)] (.l (.s .v0 (.d (.a .v1 .v0) 2)) .v3) (.k true (.s .v0 .v1) (.o 0 (.k true (.s .v0 (.d (.a .v1 .v0) 2)) (.o 0 (.f [0,1,0,0,0,0,0,0,0,1]) (.k true (.d (.a .v1 .v0) 2) (.f [1,0,0,2,0,0,0,1,0,0,0,2])))) (.k true (.s .v0 (.d (.a .v1 .v0) 2)) (.o 0 (.f [0,1,0,0,0,0,0,0,0,1]) (.k true (.d (.a .v1 .v0) 2) (.f [1,0,0,2,0,1,0,0,0,1,1,2])))))) rfl hd VR⟩
theorem DL {n:Nat} {xs:List Nat} (hx:∀ x∈xs,x<2^n) (d:Nat):∀ L R,L<R->i4 n xs d L R<2^((R-L)*n):=by
 have h1:∀ L R,L<R->xs.getD L 0<2^((R-L)*n):=λL R h=>by
  refine ZD ?_ (Z3 (by decide) (Nat.le_mul_of_pos_left n (Nat.sub_pos_of_lt h)))
  rw[ZC]
  cases q:xs[L]? with
  |none=>exact Nat.two_pow_pos n
  |some v=>exact hx v (ZE q)
 induction d with
 |zero=>exact h1
 |succ d ih=>
  intro L R h
  rw[i4]
  by_cases z:L+1=R
  .rw[if_pos z];exact h1 L R h
  .rw[if_neg z]
   obtain⟨b,a,_⟩:=TQ (d:=0) h z
   generalize (L+R)/2=M at*
   rw[<-Nat.sub_add_sub_cancel (Zx a) (Zx b),Nat.add_mul,Nat.pow_add]
   exact ZD (Nat.add_lt_add_left (ih L M b) _) (by rw[<-Nat.succ_mul];exact aat _ (ih M R a))
noncomputable def TR:Nat->Nat->List Nat->Option Spec
 |0,_,_=>none
 |e+1,k,dk=>if k=1 then some (NM e dk) else if k=2 then some (NN e dk) else none
noncomputable def DM (e:Nat):Up:={D:=λø=>none,DC:=TR e,XE:=λø=>none,XW:=λø ø ø=>False,SE:=λø ø ø=>False,SW:=λø ø ø=>False}
theorem gu {x n:Nat} (h:x<2^n):bl (x:Int)<=n:=dL (by simpa using h)
theorem eY {cx:Cx} {A:Nat->Addr} (G:GG cx A) (u:Up):GG (aA cx u) A:=⟨G.g,G.en,G.rv⟩
theorem Gc {cx:Cx} {sc:Scope} {params:List Nat} {s b:ao} {ps:List PV} {hp:List PO} {K:PV->List PO->Prop} {l:Loc} {ce PQ:List (Nat×Nat)} (hl:ps.length=params.length) (he:s.er=b) (hb:e9 sc params ps []=l) (hc:ce=PQ)
  (h:aF cx b (cW K) {loc:=l,ce:=PQ,hp:=hp}):bc cx sc params [] ce s ps hp K:=by
 subst hc
 refine⟨hl,?_⟩
 rw[<-dW,he,hb]
 show aF cx b (cW K) {loc:=l,ce:=ce++[],hp:=hp++[]}
 rw[ZV,ZV];exact h
theorem AK {d AJ oG oH ic x L R aJ eE n N:Nat} {xv:Int} {xs:List Int} {hp:List PO} {K:PV->List PO->Prop} (ex:xv=(x:Nat)) (AL:L<R) (hd:R-L<=2^d) (hR:R<=xs.length) (uO:xs.length<=5000) (hn:n<=5000) (hN:N<=20000) (hx:x<2^N)
  (KD:hp[AJ]? =some (.cell (some (.ref aJ)))) (cl:hp[aJ]? =some (.list (aa xs))) (yT:hp[oG]? =some (.cell (some (.int (n:Nat))))) (wI:hp[oH]? =some (.cell (some (.ref eE)))) (cs:hp[eE]? =some (.clo 1 [AJ,oG,oH,ic])) (cc:hp[ic]? =some (.code sq))
  (k:K .none (hp.set aJ (.list (aa (f7 n d x L R xs))))):NM d [AJ,oG,oH,ic] [.int xv,.int (L:Nat),.int (R:Nat)] hp K:=by
 subst ex
 exact⟨AJ,oG,oH,ic,x,L,R,aJ,eE,n,N,xs,rfl,rfl,AL,hd,hR,uO,hn,hN,hx,KD,cl,yT,wI,cs,cc,k⟩
theorem wJ (L R:Nat):((L:Int)+(R:Int)).fdiv (2^(1:Int).toNat)=(((L+R)/2:Nat):Int):=by
 rw[<-abc,show((2:Int)^(1:Int).toNat)=((2:Nat):Int) from rfl,eX]
theorem mo {L M n:Nat} (h:L<=M):((M:Int)-(L:Int))*(n:Int)=(((M-L)*n:Nat):Int):=by rw[<-Int.natCast_sub h,aaB]
theorem i7 (s:Nat):(2:Int)^s=((2^s:Nat):Int):=(Int.natCast_pow 2 s).symm
theorem DN (x s:Nat):(x:Int).fdiv (2^s)=((x/2^s:Nat):Int):=by rw[i7,eX]
theorem DO (x s:Nat):Builtin.bitXor (x:Int) (((x/2^s:Nat):Int)*2^s)=((x%2^s:Nat):Int):=by rw[i7,<-aaB,uM]
theorem eqT {L R:Nat} (z:L+1=R):((L:Int)+1==(R:Int))=true:=beq_iff_eq.mpr (by rw[<-z];rfl)
theorem VS {L R:Nat} (z: ¬ L+1=R):((L:Int)+1==(R:Int))=false:=beq_eq_false_iff_ne.mpr λq=>z (aaI q)
theorem AM {M:Nat} (h:M<=5000):bl (M:Int)<=13:=gu (ZW h (by decide))
theorem sV {e L R:Nat} (hd:R-L<=2^(e+1)):(L+R)/2-L<=2^e/\R-(L+R)/2<=2^e:=by rw[Nat.pow_succ] at hd;exact la [_,_,_] [] [.l (.s .v0 .v1) (.M .v2 2)] (.a (.l (.s (.d (.a .v1 .v0) 2) .v1) .v2) (.l (.s .v0 (.d (.a .v1 .v0) 2)) .v2)) (.o 0 (.k true (.s (.d (.a .v1 .v0) 2) .v1) (.o 0 (.f [0,1,0,1]) (.k true (.d (.a .v1 .v0) 2) (.k true (.s .v0 .v1) (.o 0 (.f [0,0,1,0,1,0,2,0,2]) (.f [1,0,0,0,1,0,2,0,2,1])))))) (.k true (.s .v0 (.d (.a .v1 .v0) 2)) (.o 0 (.f [0,1,0,1]) (.k true (.d (.a .v1 .v0) 2) (.k true (.s .v0 .v1) (.o 0 (.f [0,0,1,1,0,0,2,0,2]) (.f [1,0,0,1,0,0,2,0,2,1]))))))) rfl hd
theorem Gd {L R:Nat} (h:L<R) (z: ¬ L+1=R):L<(L+R)/2/\(L+R)/2<R:=by exact la [_,_] [] [.t .v0 .v1,.n (.e (.a .v0 .n1) .v1)] (.a (.t .v0 (.d (.a .v0 .v1) 2)) (.t (.d (.a .v0 .v1) 2) .v1)) (.k true (.d (.a .v0 .v1) 2) (.o 0 (.o 1 (.f [2,1,1]) (.f [2,1,0,1])) (.f [1,0,0,1]))) rfl h z
theorem Ge {e L R:Nat} (h:L<R) (z: ¬ L+1=R) (hd:R-L<=2^e):∃ e',e=e'+1:=by
 cases e with
 |zero=>exact absurd (by rw[Nat.pow_zero] at hd;exact la [_,_] [] [.t .v0 .v1,.l (.s .v1 .v0) .n1] (.e (.a .v0 .n1) .v1) (.o 0 (.k true (.s .v1 .v0) (.o 0 (.f [0,0,1,1]) (.f [1,0,0,1,1]))) (.f [1,0,1])) rfl h hd) z
 |succ e=>exact⟨e,rfl⟩
theorem AN {a b:Nat} (h:a+b<=134217728):(a:Int)+(b:Int)<=134217728:=aaf.mpr h
theorem NO {cx:Cx} {A:Nat->Addr} (G:GG cx A) (e:Nat) {dk:List Nat} {ps:List PV} {hp:List PO} {K:PV->List PO->Prop} (h:NM e dk ps hp K):
  ∃ jC ic,dk=jC++[ic]/\jC.length=mj.fr.length/\hp[ic]? =some (.code mj.q)/\bc (aA cx (DM e)) mj.sc [30,31,32] [] (I3 mj.fr jC) (oR "_int2digits") ps hp K:=by
 obtain⟨AJ,oG,oH,ic,x,L,R,aJ,eE,n,N,xs,rfl,rfl,AL,hd,hR,uO,hn,hN,hx,KD,cl,yT,wI,cs,cc,k⟩:=h
 refine⟨[AJ,oG,oH],ic,rfl,rfl,cc,?_⟩
 refine Gc rfl mC (l:=[(32,.int (R:Nat)),(31,.int (L:Nat)),(30,.int (x:Nat))]) (PQ:=[(28,AJ),(16,oG),(29,oH)]) rfl rfl ?_
 have hL:L<xs.length:=ZD AL hR
 by_cases z:L+1=R
 .refine gY (eqT z) ?_
  refine bG KD ?_
  refine jJ cl (by rw[ar];exact hL) (f6 (Zu (Zx hL) uO) rfl) ?_
  have:f7 n e x L R xs=xs.set L x:=by
   cases e with
   |zero=>rfl
   |succ e=>rw[f7,if_pos z]
  rw[this] at k
  rw[ZO,h8]
  exact k
 .obtain⟨e,rfl⟩:=Ge AL z hd
  refine gZ (VS z) ?_
  have k:K .none (hp.set aJ (.list (aa (if L+1=R then xs.set L x else
   f7 n e (x/2^(((L+R)/2-L)*n)) ((L+R)/2) R (f7 n e (x%2^(((L+R)/2-L)*n)) L ((L+R)/2) xs))))):=k
  rw[if_neg z] at k
  obtain⟨tV,pa⟩:=Gd AL z
  obtain⟨d1,d2⟩:=sV hd
  refine Zt (by decide) ?_
  rw[wJ]
  generalize (L+R)/2=M at*
  have M5:M<=5000:=Zu (Zx pa) (Zu hR uO)
  have sW:(M-L)*n<=25000000:=Nat.mul_le_mul (Zu (aa6 ..) M5) hn
  refine bG yT ?_
  have b2:bl ((M:Int)-(L:Int))<=13:=by rw[<-Int.natCast_sub (Zx tV)];exact AM (Zu (aa6 ..) M5)
  refine Zt (eB b2 (AM hn) (by decide)) ?_
  rw[mo (Zx tV)]
  generalize (M-L)*n=sh at*
  have VT:x/2^sh<2^N:=ZW (Nat.div_le_self _ _) hx
  refine Zt (ZP sh) ?_
  rw[ZO,DN]
  refine Zt (ZP sh) (Zt (AN (Zu (aac (gu VT) sW) (Zu (Nat.add_le_add_right hN _) (by decide)))) ?_)
  have XR:aJ≠AJ:=λq=>by subst q;rw[KD] at cl;cases cl
  have XT:aJ≠oG:=λq=>by subst q;rw[yT] at cl;cases cl
  have VU:aJ≠oH:=λq=>by subst q;rw[wI] at cl;cases cl
  have ns:aJ≠eE:=λq=>by subst q;rw[cs] at cl;cases cl
  have nc:aJ≠ic:=λq=>by subst q;rw[cc] at cl;cases cl
  refine bG wI (pC cs ?_)
  refine AK (d:=e) (DO x sh) tV d1 (Zu (Zx pa) hR) uO hn hN (ZW (Nat.mod_le _ _) hx) KD cl yT wI cs cc ?_
  refine bG (az wI VU) (pC (az cs ns) ?_)
  refine AK (d:=e) rfl pa d2 (by rw[ql];exact hR) (by rw[ql];exact uO) hn hN VT (az KD XR) (d9 cl _) (az yT XT) (az wI VU) (az cs ns) (az cc nc) ?_
  rw[List.set_set]
  exact k
theorem AO {d Ct oG oH ic L R aJ eE n:Nat} {xs:List Nat} {hp:List PO} {K:PV->List PO->Prop} (AL:L<R) (hd:R-L<=2^d) (hR:R<=xs.length) (uO:xs.length<=5000) (hn:n<=5000) (hx:∀ x∈xs,x<2^n) (hN:xs.length*n<=20000)
  (NP:hp[Ct]? =some (.cell (some (.ref aJ)))) (cl:hp[aJ]? =some (.list (aa (ah xs)))) (yT:hp[oG]? =some (.cell (some (.int (n:Nat))))) (wI:hp[oH]? =some (.cell (some (.ref eE)))) (cs:hp[eE]? =some (.clo 2 [Ct,oG,oH,ic])) (cc:hp[ic]? =some (.code sr))
  (k:K (.int (i4 n xs d L R:Nat)) hp):NN d [Ct,oG,oH,ic] [.int (L:Nat),.int (R:Nat)] hp K:=
 ⟨Ct,oG,oH,ic,L,R,aJ,eE,n,xs,rfl,rfl,AL,hd,hR,uO,hn,hx,hN,NP,cl,yT,wI,cs,cc,k⟩
theorem NQ {cx:Cx} {A:Nat->Addr} (G:GG cx A) (e:Nat) {dk:List Nat} {ps:List PV} {hp:List PO} {K:PV->List PO->Prop} (h:NN e dk ps hp K):
  ∃ jC ic,dk=jC++[ic]/\jC.length=mm.fr.length/\hp[ic]? =some (.code mm.q)/\bc (aA cx (DM e)) mm.sc [31,32] [] (I3 mm.fr jC) (oR "_digits2int") ps hp K:=by
 obtain⟨Ct,oG,oH,ic,L,R,aJ,eE,n,xs,rfl,rfl,AL,hd,hR,uO,hn,hx,hN,NP,cl,yT,wI,cs,cc,k⟩:=h
 refine⟨[Ct,oG,oH],ic,rfl,rfl,cc,?_⟩
 refine Gc rfl mD (l:=[(32,.int (R:Nat)),(31,.int (L:Nat))]) (PQ:=[(37,Ct),(16,oG),(29,oH)]) rfl rfl ?_
 have hL:L<xs.length:=ZD AL hR
 by_cases z:L+1=R
 .refine gY (eqT z) ?_
  obtain⟨v,hv⟩:=dM rfl hL
  refine bG NP ?_
  refine ay cl (bJ hv) (f6 (Zu (Zx hL) uO) rfl) ?_
  have:i4 n xs e L R=v:=by
   rw[<-eO hv]
   cases e with
   |zero=>rfl
   |succ e=>rw[i4,if_pos z]
  rw[this] at k
  exact k
 .obtain⟨e,rfl⟩:=Ge AL z hd
  refine gZ (VS z) ?_
  have k:K (.int ((if L+1=R then xs.getD L 0 else i4 n xs e ((L+R)/2) R*2^(((L+R)/2-L)*n)+i4 n xs e L ((L+R)/2):Nat))) hp:=k
  rw[if_neg z] at k
  obtain⟨tV,pa⟩:=Gd AL z
  obtain⟨d1,d2⟩:=sV hd
  refine Zt (by decide) ?_
  rw[wJ]
  generalize (L+R)/2=M at*
  have v1:=DL hx e M R pa
  have M5:M<=5000:=Zu (Zx pa) (Zu hR uO)
  have sW:(M-L)*n<=20000:=Zu (aat n (Zu (aa6 ..) (Zu (Zx pa) hR))) hN
  have TS:(R-M)*n<=20000:=Zu (aat n (Zu (aa6 ..) hR)) hN
  refine bG yT ?_
  have b2:bl ((M:Int)-(L:Int))<=13:=by rw[<-Int.natCast_sub (Zx tV)];exact AM (Zu (aa6 ..) M5)
  refine Zt (eB b2 (AM hn) (by decide)) ?_
  rw[mo (Zx tV)]
  generalize (M-L)*n=sh at*
  refine bG wI (pC cs ?_)
  refine AO (d:=e) pa d2 hR uO hn hx hN NP cl yT wI cs cc ?_
  refine Zt (ZP sh) (Zt (AN (Zu (aac (gu v1) sW) (Zu (Nat.add_le_add_right TS _) (by decide)))) ?_)
  refine bG wI (pC cs ?_)
  refine AO (d:=e) tV d1 (Zu (Zx pa) hR) uO hn hx hN NP cl yT wI cs cc ?_
  rw[show(((i4 n xs e M R*2^sh+i4 n xs e L M:Nat)):Int)=((i4 n xs e M R:Nat):Int)*2^sh+((i4 n xs e L M:Nat):Int) by rw[i7,<-aaB,<-abc]] at k
  exact k
theorem aq.def0 {a b:List PO} (x:aq a b) (h:b[0]? =some (.ctab iU none)) (l:2<=b.length) (o:PO):aq a (b.set 0 (.ctab iU (some b.length))++[.code sq]++[o]):=by
 have kp:∀ (i:Nat) o',i≠0->b[i]? =some o'->(b.set 0 (.ctab iU (some b.length))++[PO.code sq]++[o])[i]? =some o':=λi o' n e=>ac (ac (by rw[List.getElem?_set_ne (aaO n)];exact e) _) _
 refine⟨by simp;have:=x.le;exact la [_,_] [] [.l .v0 .v1] (.l .v0 (.a .v1 .n2)) (.f [1,1]) rfl this,λi o' hi e=>kp i o' (by exact la [_] [] [.l .n2 .v0] (.n (.e .v0 .n0)) (.f [1,0,1]) rfl hi) (x.keep i o' hi e),λt=>⟨.inr ⟨b.length,l,ac (ac (d9 h _) _) _,?_⟩,?_⟩⟩
 .have:=af (b.set 0 (.ctab iU (some b.length))) (PO.code sq)
  rw[aaE] at this
  exact ac this _
 .rcases(x.tabs t).2 with q|⟨j,h1,h2,h3⟩
  .exact .inl (kp 1 _ (by exact la [] [] [] (.n (.e .n1 .n0)) (.f [0,1]) rfl) q)
  .exact .inr ⟨j,h1,kp 1 _ (by exact la [] [] [] (.n (.e .n1 .n0)) (.f [0,1]) rfl) h2,kp j _ (by exact la [_] [] [.l .n2 .v0] (.n (.e .v0 .n0)) (.f [1,0,1]) rfl h1) h3⟩
theorem aq.def1 {a b:List PO} (x:aq a b) (h:b[1]? =some (.ctab iV none)) (l:2<=b.length) (o:PO):aq a (b.set 1 (.ctab iV (some b.length))++[.code sr]++[o]):=by
 have kp:∀ (i:Nat) o',i≠1->b[i]? =some o'->(b.set 1 (.ctab iV (some b.length))++[PO.code sr]++[o])[i]? =some o':=λi o' n e=>ac (ac (by rw[List.getElem?_set_ne (aaO n)];exact e) _) _
 refine⟨by simp;have:=x.le;exact la [_,_] [] [.l .v0 .v1] (.l .v0 (.a .v1 .n2)) (.f [1,1]) rfl this,λi o' hi e=>kp i o' (by exact la [_] [] [.l .n2 .v0] (.n (.e .v0 .n1)) (.f [1,0,1]) rfl hi) (x.keep i o' hi e),λt=>⟨?_,.inr ⟨b.length,l,ac (ac (d9 h _) _) _,?_⟩⟩⟩
 .rcases(x.tabs t).1 with q|⟨j,h1,h2,h3⟩
  .exact .inl (kp 0 _ (by exact la [] [] [] (.n (.e .n0 .n1)) (.f [1]) rfl) q)
  .exact .inr ⟨j,h1,kp 0 _ (by exact la [] [] [] (.n (.e .n0 .n1)) (.f [1]) rfl) h2,kp j _ (by exact la [_] [] [.l .n2 .v0] (.n (.e .v0 .n1)) (.f [1,0,1]) rfl h1) h3⟩
 .have:=af (b.set 1 (.ctab iV (some b.length))) (PO.code sr)
  rw[aaE] at this
  exact ac this _
noncomputable def jV (I:CI):Up:={D:=λø=>none,DC:=TR 14,XE:=λø=>none,XW:=λø ø ø=>False,SE:=λk t ø=>k=1/\t=I.st,SW:=λø=>DJ I}
noncomputable def eG (n a:Nat):Nat:=(bl (a:Int)+n-1)/n
noncomputable def uP (n a:Nat):List Int:=if a=0 then List.replicate (eG n a) 0 else f7 n 13 a 0 (eG n a) (List.replicate (eG n a) 0)
noncomputable def KE:Spec:=λps hp K=>∃ a n:Nat,ps=[.int (a:Nat),.int (n:Nat)]/\1<=n/\n<=5000/\bl (a:Int)<=5000/\2<=hp.length/\fV hp/\∀ aE i,aq hp aE->hp.length<=i->aE[i]? =some (.list (aa (uP n a)))->K (.ref i) aE
theorem ym (n:Nat):yW [PV.int 0] n=aa (List.replicate n 0):=by
 induction n with
 |zero=>rfl
 |succ n ih=>exact congrArg (PV.int 0::.) ih
set_option tactic.hygienic true in
theorem AP (a:Nat):a<2^bl (a:Int):=by
 show a<2^Builtin.Int.intBits (a:Int)
 unfold Builtin.Int.intBits
 split
 .rename_i h
  have:a=0:=by simpa using h
  subst this;decide
 .simp only[Int.natAbs_natCast]
  exact Nat.lt_log2_self
set_option tactic.hygienic true in
theorem AQ {a:Nat} (h:a≠0):1<=bl (a:Int):=by
 show 1<=Builtin.Int.intBits (a:Int)
 unfold Builtin.Int.intBits
 split
 .rename_i q;simp at q;exact la [_] [] [.n (.e .v0 .n0),.e .v0 .n0] (.l .n1 .n0) (.o 0 (.f [1]) (.f [1,0,1])) rfl h q
 .exact la [_] [] [] (.l .n1 (.a .v0 .n1)) (.f [1]) rfl
theorem NR {α:Type} (a b c:α) (j:Nat) (x:α) (e:[a,b,c][j]? =some x):(j=0/\x=a)\/(j=1/\x=b)\/(j=2/\x=c):=by
 rcases j with _|_|_|j
 .exact .inl ⟨rfl,(aan e).symm⟩
 .exact .inr (.inl ⟨rfl,(aan e).symm⟩)
 .exact .inr (.inr ⟨rfl,(aan e).symm⟩)
 .cases e
theorem wK {I:CI} {Q:ba} {l:Loc} {ce:List (Nat×Nat)} {H hp:List PO} {x y a b c:Nat} (qF:I.fr=[x,y,29]) (la:look ce x=some a) (lb:look ce y=some b) (lc:look ce 29=some c) (hT:TabAt H I.j I.p I.q) (hj:I.j<2) (hc:H[c]? =some (.cell none)) (jY:hp.length<=c) (h2:2<=hp.length)
  (gr:aq hp H) (gd:H[I.j]? =some (.ctab I.p none)->∀ o,aq hp (H.set I.j (.ctab I.p (some H.length))++[.code I.q]++[o]))
  (bK:∀ H2 co eE,(∀ (i:Nat) (o:PO),i≠c->i≠I.j->H[i]? =some o->H2[i]? =some o)->H2[c]? =some (.cell (some (.ref eE)))->H2[eE]? =some (.clo I.k [a,b,c,co])->H2[co]? =some (.code I.q)->aq hp H2->Q .next {loc:=l,ce:=ce,hp:=H2}):
  DJ I Q {loc:=l,ce:=ce,hp:=H}:=by
 have c2:2<=c:=Zu h2 jY
 have TU:=(Zv.mp hc).1
 have nc:∀ {G:List PO},G[c]? =some (.cell none)->∀ q,G[c]? ≠some (.code q):=λe q z=>by rw[e] at z;cases z
 refine⟨[a,b,c],λj z e=>?_,by rw[qF];rfl,?_⟩
 .rw[qF] at e
  rcases NR _ _ _ j z e with⟨rfl,rfl⟩|⟨rfl,rfl⟩|⟨rfl,rfl⟩
  .exact⟨_,rfl,la⟩
  .exact⟨_,rfl,lb⟩
  .exact⟨_,rfl,lc⟩
 .rcases hT with hT|⟨co,XU,hT,PR⟩
  .dsimp only
   rw[hT]
   refine⟨rfl,?_⟩
   have fc:(H.set I.j (.ctab I.p (some H.length))++[PO.code I.q]++[PO.clo I.k [a,b,c,H.length]])[c]? =some (.cell none):=ac (ac (az hc (Z7 (ZD hj c2))) _) _
   have DP:(H.set I.j (.ctab I.p (some H.length))++[PO.code I.q]).length=H.length+1:=by rw[Zw,aaE];rfl
   have gg:=gd hT (PO.clo I.k [a,b,c,H.length])
   refine lQ lc (gX fc ?_)
   refine bK _ H.length (H.length+1) (λi o n1 n2 e=>az (ac (ac (az e (aaO n2)) _) _) (aaO n1)) (d9 fc _) (az ?_ (Z7 (ZZ TU))) (az (ac ?_ _) (Z7 TU)) (gg.set jY c2 (nc fc))
   .rw[<-DP];exact af _ _
   .have:=af (H.set I.j (.ctab I.p (some H.length))) (PO.code I.q)
    rw[aaE] at this
    exact this
  .dsimp only
   rw[hT]
   refine⟨rfl,PR,?_⟩
   have fc:=ac hc (PO.clo I.k [a,b,c,co])
   have n3:c≠co:=λq=>by subst q;rw[hc] at PR;cases PR
   refine lQ lc (gX fc ?_)
   exact bK _ co H.length (λi o n1 n2 e=>az (ac e _) (aaO n1)) (d9 fc _) (az (af _ _) (Z7 TU)) (az (ac PR _) n3) ((gr.trans (.push _ _)).set jY c2 (nc fc))
theorem AR {cx:Cx} {I:CI} {Q:ba} {σ:St} (h:DJ I Q σ):(aA cx (jV I)).SW 1 Q σ:=h
theorem I4 (n a:Nat) (hn:1<=n):((bl (a:Int):Int)+(n:Int)-1).fdiv (n:Int)=((eG n a:Nat):Int):=by
 unfold eG
 rw[<-eX]
 congr 1
 exact la [_,_] [] [.l .n1 .v0] (.E (.s (.a (.c .v1) (.c .v0)) .n1) (.c (.s (.a .v1 .v0) .n1))) (.o 0 (.k true (.s (.a .v1 .v0) .n1) (.o 0 (.f [0,1,0,1,1]) (.f [0,1,0,1]))) (.k true (.s (.a .v1 .v0) .n1) (.o 0 (.f [0,0,1,1]) (.f [1,0,0,1])))) rfl hn
theorem uQ {n a:Nat} (hn:1<=n):eG n a<=bl (a:Int):=by
 unfold eG
 rw[Nat.div_le_iff_le_mul_add_pred hn]
 have:=aat (bl (a:Int)) hn
 exact la [_,_,_] [] [.l (.m 1 .v0) .v1] (.l (.s (.a .v0 .v2) .n1) (.a .v1 (.s .v2 .n1))) (.k true (.s (.a .v0 .v2) .n1) (.o 0 (.f [0,1,0,0,1]) (.k true (.s .v2 .n1) (.o 0 (.f [0,0,1,0,1,0,1,1]) (.f [1,0,0,0,1,0,1,1]))))) rfl this
theorem wL {n a:Nat} (hn:1<=n) (z:a≠0):0<eG n a:=Nat.div_pos (by have:=AQ z;exact la [_,_] [] [.l .n1 .v0] (.l .v1 (.s (.a .v0 .v1) .n1)) (.k true (.s (.a .v0 .v1) .n1) (.o 0 (.f [0,0,1,1,1]) (.f [1,0,0,1,1]))) rfl this) hn
theorem wM (n:Nat):(aa (List.replicate n 0)).length=n:=by rw[ar];exact aaV
theorem rf (hp:List PO) (x y z:PO):hp++[x,y,z]=hp++[x]++[y]++[z]:=by rw[ZH,ZH];rfl
theorem DQ {cx:Cx} {A:Nat->Addr} (G:GG cx A) {a n c eE d L:Nat} {hp:List PO} {K:PV->List PO->Prop} {H2:List PO} (hn:1<=n) (yn:n<=5000) (Ap:bl (a:Int)<=5000) (hd:d≠L) (h2:2<=hp.length) (hL:hp.length<=L)
  (k:∀ aE i,aq hp aE->hp.length<=i->aE[i]? =some (.list (aa (uP n a)))->K (.ref i) aE) {b e:Nat} (Gf:H2[d]? =some (.cell (some (.ref L)))) (TV:H2[b]? =some (.cell (some (.int (n:Nat))))) (DR:H2[e]? =some (.cell (some (.ref eE)))) (ml:H2[L]? =some (.list (aa (List.replicate (eG n a) 0))))
  (ms:H2[eE]? =some (.clo 1 [d,b,e,c])) (mc:H2[c]? =some (.code sq)) (mg:aq hp H2):
  aF (aA cx (jV mj)) Mh (cW K) {loc:=[(2,.int (a:Nat))],ce:=[(28,d),(16,b),(29,e)],hp:=H2}:=by
 have G:=eY G (jV mj)
 by_cases z:a=0
 .subst z
  refine Zt (λq=>nomatch q) (λø=>?_)
  refine bG Gf ?_
  exact k _ _ mg hL (by unfold uP;rw[if_pos rfl];exact ml)
 .refine gY (bne_iff_ne.mpr λq=>z (aaI q)) ?_
  have dg:uP n a=f7 n 13 a 0 (eG n a) (List.replicate (eG n a) 0):=if_neg z
  have Gg:eG n a<=5000:=Zu (uQ hn) Ap
  refine bG DR ?_
  refine ax (G.g _ _ rfl) ?_
  refine bG Gf ?_
  refine cq ml (Zt (by rw[wM];exact f6 Gg rfl) ?_)
  rw[wM]
  refine pC ms ?_
  refine AK (d:=13) (L:=0) rfl (wL hn z) (Zu (aa6 ..) (Zu Gg (by decide))) (by rw[aaV];exact ZA _) (by rw[aaV];exact Gg) yn (Zu Ap (by decide)) (AP a) Gf ml TV DR ms mc ?_
  refine bG (az Gf (aaO hd)) ?_
  exact k _ _ (mg.set hL (Zu h2 hL) λq e=>by rw[ml] at e;cases e) hL (by rw[dg];exact d9 ml _)
theorem NS {cx:Cx} {A:Nat->Addr} (G:GG cx A) {ps:List PV} {hp:List PO} {K:PV->List PO->Prop} (h:KE ps hp K):
  bc (aA cx (jV mj)) (am "_int2digits") [2,16] [28,16,29] [] (aQ "_int2digits") ps hp K:=by
 obtain⟨a,n,rfl,hn,yn,Ap,h2,T,k⟩:=h
 have G':=eY G (jV mj)
 refine⟨rfl,?_⟩
 rw[<-dW,my]
 refine(?_:aF (aA cx (jV mj)) kg (cW K) {loc:=[(2,.int (a:Nat))],ce:=[(28,hp.length),(16,hp.length+1),(29,hp.length+1+1)],hp:=hp++[.cell none,.cell (some (.int (n:Nat))),.cell none]})
 have TX:(hp++[.cell none,.cell (some (.int (n:Nat))),.cell none])[hp.length]? =some (.cell none):=by rw[rf];exact ac (ac (af _ _) _) _
 have TY:(hp++[.cell none,.cell (some (.int (n:Nat))),.cell none])[hp.length+1]? =some (.cell (some (.int (n:Nat)))):=by
  rw[rf,show hp.length+1=(hp++[PO.cell none]).length by rw[Zw];rfl];exact ac (af _ _) _
 have XV:(hp++[.cell none,.cell (some (.int (n:Nat))),.cell none])[hp.length+1+1]? =some (.cell none):=by
  rw[rf,show hp.length+1+1=(hp++[PO.cell none]++[PO.cell (some (.int (n:Nat)))]).length by rw[Zw,Zw];rfl];exact af _ _
 have XY:aq hp (hp++[.cell none,.cell (some (.int (n:Nat))),.cell none]):=by
  rw[rf]
  exact((aq.push _ _).trans (.push _ _)).trans (.push _ _)
 have l3:(hp++[PO.cell none,.cell (some (.int (n:Nat))),.cell none]).length=hp.length+3:=Zw ..
 generalize hp++[PO.cell none,.cell (some (.int (n:Nat))),.cell none]=H0 at*
 have Gg:eG n a<=5000:=Zu (uQ hn) Ap
 refine Zt (by decide:(1:Nat)<=1000000) ?_
 refine Zt trivial ?_
 refine bG (ac TY _) ?_
 refine bG (ac TY _) ?_
 refine Zt (λq=>aam hn (aaI q)) (Zt (Zu (AM yn) (by decide)) ?_)
 rw[I4 n a hn]
 refine E8 (af _ _) (Zt (ZP _) (Zt (by rw[ZO,List.length_singleton,Nat.one_mul];exact f6 Gg rfl) (Zt (aaf.mpr (f6 Gg rfl)) ?_)))
 rw[ZO,ym]
 refine gX (ac (ac TX _) _) ?_
 refine Zt ⟨rfl,IV⟩ ?_
 have qg:aq hp ((H0++[PO.list [PV.int 0]]++[PO.list (aa (List.replicate (eG n a) 0))]).set hp.length (PO.cell (some (PV.ref (H0++[PO.list [PV.int 0]]).length)))):=((XY.trans (.push _ _)).trans (.push _ _)).set (ZA _) h2 λq e=>by rw[ac (ac TX _) _] at e;cases e
 have l4:(H0++[PO.list [PV.int 0]]).length=hp.length+4:=by rw[Zw,l3];rfl
 refine AR ?_
 refine wK (I:=mj) (hp:=hp) (ce:=[(28,hp.length),(16,hp.length+1),(29,hp.length+1+1)]) (a:=hp.length) (b:=hp.length+1) (c:=hp.length+1+1) (x:=28) (y:=16) rfl rfl rfl rfl (qg.tabs T).1 (by decide) (az (ac (ac XV _) _) (by exact la [_] [] [] (.n (.e .v0 (.a (.a .v0 .n1) .n1))) (.f [1]) rfl)) (by exact la [_] [] [] (.l .v0 (.a (.a .v0 .n1) .n1)) (.f [1]) rfl) h2 qg (λe o=>qg.def0 e (Zu h2 qg.le) o) λH2 co eE kp DR ms mc mg=>?_
 have nj:∀ {i:Nat},hp.length<=i->i≠mj.j:=λh q=>Nat.not_lt.mpr (Zu h2 h) (by rw[q];decide)
 exact DQ (L:=(H0++[PO.list [PV.int 0]]).length) G hn yn Ap (by exact la [_,_] [] [.e .v0 (.a .v1 (.n 4))] (.n (.e .v1 .v0)) (.f [1,0,1]) rfl l4) h2 (by exact la [_,_] [] [.e .v0 (.a .v1 (.n 4))] (.l .v1 .v0) (.f [1,0,1]) rfl l4) k (kp _ _ (by exact la [_] [] [] (.n (.e .v0 (.a (.a .v0 .n1) .n1))) (.f [1]) rfl) (nj (ZA _)) (d9 (ac (ac TX _) _) _)) (kp _ _ (by exact la [_] [] [] (.n (.e (.a .v0 .n1) (.a (.a .v0 .n1) .n1))) (.f [1]) rfl) (nj (by exact la [_] [] [] (.l .v0 (.a .v0 .n1)) (.f [1]) rfl)) (az (ac (ac TY _) _) (by exact la [_] [] [] (.n (.e .v0 (.a .v0 .n1))) (.f [1]) rfl))) DR (kp _ _ (by exact la [_,_] [] [.e .v0 (.a .v1 (.n 4))] (.n (.e .v0 (.a (.a .v1 .n1) .n1))) (.f [1,0,0,1]) rfl l4) (nj (by exact la [_,_] [] [.e .v0 (.a .v1 (.n 4))] (.l .v1 .v0) (.f [1,0,1]) rfl l4)) (az (af _ _) (by exact la [_,_] [] [.e .v0 (.a .v1 (.n 4))] (.n (.e .v1 .v0)) (.f [1,0,1]) rfl l4))) ms mc mg
noncomputable def qm (n:Nat) (xs:List Nat):Nat:=if xs=[] then 0 else i4 n xs 13 0 xs.length
noncomputable def NT:Spec:=λps hp K=>∃ aJ n xs,ps=[.ref aJ,.int (n:Nat)]/\hp[aJ]? =some (.list (aa (ah xs)))/\xs.length<=5000/\n<=5000/\(∀ x∈xs,x<2^n)/\xs.length*n<=20000/\2<=hp.length/\fV hp/\∀ aE,aq hp aE->K (.int (qm n xs:Nat)) aE
theorem DS {cx:Cx} {A:Nat->Addr} (G:GG cx A) {n c eE aJ d b e:Nat} {xs:List Nat} {K:PV->List PO->Prop} {H2:List PO} (KG:xs.length<=5000) (yn:n<=5000) (hx:∀ x∈xs,x<2^n) (hN:xs.length*n<=20000) (k:K (.int (qm n xs:Nat)) H2)
  (Gf:H2[d]? =some (.cell (some (.ref aJ)))) (TV:H2[b]? =some (.cell (some (.int (n:Nat))))) (DR:H2[e]? =some (.cell (some (.ref eE)))) (ml:H2[aJ]? =some (.list (aa (ah xs)))) (ms:H2[eE]? =some (.clo 2 [d,b,e,c])) (mc:H2[c]? =some (.code sr)):
  aF (aA cx (jV mm)) Mi (cW K) {loc:=[],ce:=[(37,d),(16,b),(29,e)],hp:=H2}:=by
 have G:=eY G (jV mm)
 have ll:(aa (ah xs)).length=xs.length:=by rw[ar,aG]
 unfold qm at k
 refine bG Gf (cq ml (Zt (by rw[ll];exact f6 KG rfl) ?_))
 by_cases z:xs=[]
 .subst z
  rw[if_pos rfl] at k
  exact Zt (λq=>nomatch q) (λø=>k)
 .rw[if_neg z] at k
  have XZ:0<xs.length:=List.length_pos_iff.mpr z
  refine gY ?_ ?_
  .cases xs with
   |nil=>exact absurd rfl z
   |cons x r=>rfl
  refine bG DR ?_
  refine ax (G.g _ _ rfl) ?_
  refine bG Gf ?_
  refine cq ml (Zt (by rw[ll];exact f6 KG rfl) ?_)
  rw[ll]
  refine pC ms ?_
  exact AO (d:=13) (L:=0) XZ (Zu (aa6 ..) (Zu KG (by decide))) (ZA _) KG yn hx hN Gf ml TV DR ms mc k
theorem NU {cx:Cx} {A:Nat->Addr} (G:GG cx A) {ps:List PV} {hp:List PO} {K:PV->List PO->Prop} (h:NT ps hp K):
  bc (aA cx (jV mm)) (am "_digits2int") [37,16] [37,16,29] [] (aQ "_digits2int") ps hp K:=by
 obtain⟨aJ,n,xs,rfl,hl,KG,yn,hx,hN,h2,T,k⟩:=h
 refine⟨rfl,?_⟩
 rw[<-dW,mz]
 refine(?_:aF (aA cx (jV mm)) kh (cW K) {loc:=[],ce:=[(37,hp.length),(16,hp.length+1),(29,hp.length+1+1)],hp:=hp++[.cell (some (.ref aJ)),.cell (some (.int (n:Nat))),.cell none]})
 have oZ:=(Zv.mp hl).1
 have l1:hp.length+1=(hp++[PO.cell (some (.ref aJ))]).length:=by rw[Zw];rfl
 have l2:hp.length+1+1=(hp++[PO.cell (some (.ref aJ))]++[PO.cell (some (.int (n:Nat)))]).length:=by rw[Zw,Zw];rfl
 refine Zt ⟨rfl,IW⟩ ?_
 have qg:aq hp (hp++[.cell (some (.ref aJ)),.cell (some (.int (n:Nat))),.cell none]):=by
  rw[rf]
  exact((aq.push _ _).trans (.push _ _)).trans (.push _ _)
 refine AR ?_
 refine wK (I:=mm) (hp:=hp) (ce:=[(37,hp.length),(16,hp.length+1),(29,hp.length+1+1)]) (a:=hp.length) (b:=hp.length+1) (c:=hp.length+1+1) (x:=37) (y:=16) rfl rfl rfl rfl (qg.tabs T).2 (by decide) (by rw[rf,l2];exact af _ _) (by exact la [_] [] [] (.l .v0 (.a (.a .v0 .n1) .n1)) (.f [1]) rfl) h2 qg (λe o=>qg.def1 e (Zu h2 qg.le) o) λH2 co eE kp DR ms mc mg=>?_
 have nj:∀ {i:Nat},hp.length<=i->i≠mm.j:=λh q=>Nat.not_lt.mpr (Zu h2 h) (by rw[q];decide)
 have TZ:aJ≠mm.j:=λq=>by
  have q:aJ=1:=q
  subst q
  rcases T.2 with e|⟨j,_,e,_⟩<;>(rw[hl] at e;cases e)
 exact DS G KG yn hx hN (k _ mg) (kp _ _ (by exact la [_] [] [] (.n (.e .v0 (.a (.a .v0 .n1) .n1))) (.f [1]) rfl) (nj (ZA _)) (by rw[rf];exact ac (ac (af _ _) _) _)) (kp _ _ (by exact la [_] [] [] (.n (.e (.a .v0 .n1) (.a (.a .v0 .n1) .n1))) (.f [1]) rfl) (nj (by exact la [_] [] [] (.l .v0 (.a .v0 .n1)) (.f [1]) rfl)) (by rw[rf,l1];exact ac (af _ _) _)) DR (kp _ _ (by exact la [_,_] [] [.t .v0 .v1] (.n (.e .v0 (.a (.a .v1 .n1) .n1))) (.f [1,1]) rfl oZ) TZ (by rw[rf];exact ac (ac (ac hl _) _) _)) ms mc
noncomputable def val (B:Nat):List Nat->Nat
 | []=>0
 |d::r=>d+B*val B r
theorem wN (B:Nat) (u v:List Nat):val B (u++v)=val B u+B^u.length*val B v:=by
 induction u with
 |nil=>exact((aau _).trans (Nat.one_mul _)).symm
 |cons d u ih=>
  rw[aap,val,val,ih,ZL,Nat.pow_succ,Nat.mul_add,aaA,aaU (B^u.length) B,Nat.mul_assoc]
theorem AS (xs:List Nat) (i v:Nat):(ah xs).set i (v:Int)=ah (xs.set i v):=by simp [ah,List.map_set]
theorem AT {n:Nat} (d:Nat):∀ x L R xs,L<R->R-L<=2^d->R<=xs.length->x<2^((R-L)*n)->∃ ds,ds.length=R-L/\val (2^n) ds=x/\(∀ v∈ds,v<2^n)/\f7 n d x L R (ah xs)=ah (xs.take L++ds++xs.drop R):=by
 have bD:∀ x L R xs,L+1=R->R<=xs.length->x<2^((R-L)*n)->∃ ds,ds.length=R-L/\val (2^n) ds=x/\(∀ v∈ds,v<2^n)/\(ah xs).set L (x:Int)=ah (xs.take L++ds++xs.drop R):=by
  intro x L R xs h hR hx
  subst h
  rw[Nat.add_sub_cancel_left] at*
  rw[Nat.one_mul] at hx
  refine⟨[x],rfl,rfl,λv hv=>by rw[ZG.mp hv];exact hx,?_⟩
  rw[AS,List.set_eq_take_append_cons_drop,if_pos (show L<xs.length from hR),List.append_cons]
 induction d with
 |zero=>exact λx L R xs h hd=>bD x L R xs (Nat.le_antisymm h (Nat.sub_le_iff_le_add'.mp hd))
 |succ d ih=>
  intro x L R xs h hd hR hx
  rw[f7]
  by_cases z:L+1=R
  .rw[if_pos z];exact bD x L R xs z hR hx
  .rw[if_neg z]
   obtain⟨tV,pa,hM⟩:=TQ h z
   obtain⟨T0,T1⟩:=hM hd
   generalize (L+R)/2=M at*
   have hs:R-M+(M-L)=R-L:=Nat.sub_add_sub_cancel (Zx pa) (Zx tV)
   have KH:M<=xs.length:=Zu (Zx pa) hR
   obtain⟨ds,l1,v1,b1,e1⟩:=ih (x%2^((M-L)*n)) L M xs tV T0 KH (Z5 _ (Nat.two_pow_pos _))
   have KI:x/2^((M-L)*n)<2^((R-M)*n):=by
    rw[Nat.div_lt_iff_lt_mul (Nat.two_pow_pos _),<-Nat.pow_add,<-Nat.add_mul,hs]
    exact hx
   have t1:(xs.take L++ds).length=M:=by rw[Zw,Z6,Nat.min_eq_left (Zu (Zx tV) KH),l1,Nat.add_sub_cancel' (Zx tV)]
   obtain⟨X0,l2,v2,b2,e2⟩:=ih (x/2^((M-L)*n)) M R (xs.take L++ds++xs.drop M) pa T1 (by rw[Zw,t1,aa5,Nat.add_sub_cancel' KH];exact hR) KI
   refine⟨ds++X0,by rw[Zw,l1,l2,aao,hs],?_,λv hv=>(Z1.mp hv).elim (b1 v) (b2 v),?_⟩
   .rw[wN,v1,v2,l1,<-Nat.pow_mul,aaU n (M-L)]
    exact Nat.mod_add_div _ _
   .rw[e1,e2,List.take_append_of_le_length (Z8 t1.symm),List.take_of_length_le (Z8 t1),List.drop_append,List.drop_of_length_le (by rw[t1];exact Zx pa),abh,List.drop_drop,t1,Nat.add_sub_cancel' (Zx pa),ZH (xs.take L)]
theorem sX {n a:Nat} (hn:1<=n):bl (a:Int)<=eG n a*n/\eG n a*n<=bl (a:Int)+n-1:=by
 unfold eG
 have h1:=Nat.div_add_mod (bl (a:Int)+n-1) n
 have h2:=Z5 (bl (a:Int)+n-1) (show 0<n by exact la [_] [] [.l .n1 .v0] (.t .n0 .v0) (.f [1,1]) rfl hn)
 rw[aaU] at h1
 exact la [_,_,_,_] [] [.e (.a .v0 .v1) (.s (.a .v2 .v3) .n1),.t .v1 .v3] (.a (.l .v2 .v0) (.l .v0 (.s (.a .v2 .v3) .n1))) (.o 0 (.k true (.s (.a .v2 .v3) .n1) (.o 0 (.f [0,0,1,1,1]) (.f [1,0,0,1,1,1]))) (.f [1,0,0,1])) rfl h1 h2
theorem DT {n a:Nat} (hn:1<=n) (hb:bl (a:Int)<=5000):∃ ds,uP n a=ah ds/\ds.length=eG n a/\val (2^n) ds=a/\∀ v∈ds,v<2^n:=by
 have hz:List.replicate (eG n a) (0:Int)=ah (List.replicate (eG n a) 0):=by simp [ah]
 unfold uP
 by_cases z:a=0
 .rw[if_pos z]
  subst z
  have:eG n 0=0:=by
   unfold eG
   have:bl ((0:Nat):Int)=0:=rfl
   rw[this]
   exact Nat.div_eq_of_lt (by exact la [_] [] [.l .n1 .v0] (.t (.s (.a .n0 .v0) .n1) .v0) (.k true (.s (.a .n0 .v0) .n1) (.o 0 (.f [0,1,0,1,1]) (.f [0,1,0,0,1]))) rfl hn)
  exact⟨[],by rw[this];rfl,by rw[this];rfl,rfl,by simp⟩
 .rw[if_neg z,hz]
  have X1:0<eG n a:=wL hn z
  obtain⟨h1,h2⟩:=sX (a:=a) hn
  have Gg:eG n a<=5000:=Zu (uQ hn) hb
  obtain⟨ds,l1,v1,b1,e1⟩:=AT (n:=n) 13 a 0 (eG n a) (List.replicate (eG n a) 0) X1 (by show eG n a-0<=8192;exact la [_] [] [.l .v0 (.n 5000)] (.l (.s .v0 .n0) (.n 8192)) (.k true (.s .v0 .n0) (.o 0 (.f [0,1,0,0,1]) (.f [0,1,0,1,1]))) rfl Gg) (by simp) (by
   rw[Nat.sub_zero]
   exact ZD (AP a) (Z3 (by decide) h1))
  refine⟨ds,?_,by exact la [_,_] [] [.e .v0 (.s .v1 .n0)] (.e .v0 .v1) (.o 0 (.k true (.s .v1 .n0) (.o 0 (.f [0,0,1,1]) (.f [1,0,0,1,1]))) (.k true (.s .v1 .n0) (.o 0 (.f [0,1,0,1,0,1]) (.f [0,1,0,1,0,1])))) rfl l1,v1,b1⟩
  rw[e1]
  simp
theorem DU {n:Nat} {xs:List Nat} (d:Nat):∀ L R,L<R->R-L<=2^d->R<=xs.length->i4 n xs d L R=val (2^n) ((xs.drop L).take (R-L)):=by
 have bD:∀ L R,L+1=R->R<=xs.length->xs.getD L 0=val (2^n) ((xs.drop L).take (R-L)):=by
  intro L R h hR
  subst h
  rw[Nat.add_sub_cancel_left,List.drop_eq_getElem_cons hR,ZC,ZB hR];rfl
 induction d with
 |zero=>exact λL R h hd=>bD L R (Nat.le_antisymm h (Nat.sub_le_iff_le_add'.mp hd))
 |succ d ih=>
  intro L R h hd hR
  rw[i4]
  by_cases z:L+1=R
  .rw[if_pos z];exact bD L R z hR
  .rw[if_neg z]
   obtain⟨tV,pa,hM⟩:=TQ h z
   obtain⟨T0,T1⟩:=hM hd
   generalize (L+R)/2=M at*
   have KH:M<=xs.length:=Zu (Zx pa) hR
   rw[ih M R pa T1 hR,ih L M tV T0 KH,<-Nat.sub_add_sub_cancel (Zx pa) (Zx tV),aao (R-M),List.take_add,List.drop_drop,Nat.add_sub_cancel' (Zx tV),wN,Z6,aa5,Nat.min_eq_left (Nat.sub_le_sub_right KH L),<-Nat.pow_mul,aaU n (M-L),aaU (2^((M-L)*n)) _]
   exact aao _ _
theorem AU {n:Nat} {xs:List Nat} (h:xs.length<=5000):qm n xs=val (2^n) xs:=by
 unfold qm
 by_cases z:xs=[]
 .subst z;rfl
 .rw[if_neg z]
  have:0<xs.length:=by cases xs with
   |nil=>exact absurd rfl z
   |cons x r=>simp
  rw[DU 13 0 xs.length this (by show xs.length-0<=8192;exact la [_] [] [.l .v0 (.n 5000)] (.l (.s .v0 .n0) (.n 8192)) (.k true (.s .v0 .n0) (.o 0 (.f [0,1,0,0,1]) (.f [0,1,0,1,1]))) rfl h) (ZA _)]
  simp
noncomputable def I5:Spec:=λps hp K=>∃ a b,ps=[.int (a:Nat),.int (b:Nat)]/\0<b/\bl (a:Int)<=2000/\bl (b:Int)<=2000/\2<=hp.length/\fV hp/\∀ aE i,aq hp aE->hp.length<=i->aE[i]? =some (.tup [.int (a/b:Nat),.int (a%b:Nat)])->K (.ref i) aE
theorem AV {id i:Nat} {H:List PO} {xs:List PV} {v:PV} (h:H[id]? =some (.list xs)) (hv:xs[i]? =some v):bw (.rev id (i+1)) H=some (some (v,.rev id i,H)):=by
 rw[bw,h];dsimp only;rw[hv]
noncomputable def X2 (n b Gh:Nat) (ds:List Nat) (hp:List PO) (VV:Nat) (i:Nat) (σ:St):Prop:=∀ C:Prop,(∀ (l:Loc) (H:List PO) (qs:List Nat) (r:Nat),σ={loc:=l,ce:=[],hp:=H}->l.get 16=some (.int (n:Nat))->l.get 3=some (.int (b:Nat))->l.get 23=some (.int (r:Nat))->l.get 38=some (.ref VV)->H[Gh]? =some (.list (aa (ah ds)))->
   H[VV]? =some (.list (aa (ah qs)))->qs.length=i->r<b->(∀ v∈qs,v<2^n)->val (2^n) (ds.drop (ds.length-i))=val (2^n) qs.reverse*b+r->aq hp H->C)->C
theorem I6 {B V b r d0:Nat}:d0+B*(V*b+r)=((r*B+d0)/b+B*V)*b+(r*B+d0)%b:=by
 have:=Nat.div_add_mod (r*B+d0) b
 have e2:B*(V*b+r)=B*V*b+r*B:=by rw[Nat.mul_add,Nat.mul_assoc,aaU B r]
 have e3:((r*B+d0)/b+B*V)*b=b*((r*B+d0)/b)+B*V*b:=by rw[Nat.add_mul,aaU _ b]
 exact la [_,_,_,_,_,_,_] [] [.e (.a .v0 .v1) (.a .v2 .v3),.e .v4 (.a .v5 .v2),.e .v6 (.a .v0 .v5)] (.e (.a .v3 .v4) (.a .v6 .v1)) (.o 0 (.f [1,0,1,1,0,0,1]) (.f [1,1,0,0,1,1])) rfl this e2 e3
theorem NV {r b d0 B:Nat} (hr:r<b) (hd:d0<B):r*B+d0<b*B:=by
 have:=aat B (show r+1<=b from hr)
 rw[Nat.add_mul,Nat.one_mul] at this
 exact ZD (Nat.add_lt_add_left hd _) this
theorem NW {a n:Nat} {hp:List PO} {K:PV->List PO->Prop} (hn:1<=n) (yn:n<=5000) (hb:bl (a:Int)<=5000) (h2:2<=hp.length) (T:fV hp) (k:∀ aE i,aq hp aE->hp.length<=i->aE[i]? =some (.list (aa (uP n a)))->K (.ref i) aE):KE [.int (a:Nat),.int (n:Nat)] hp K:=⟨a,n,rfl,hn,yn,hb,h2,T,k⟩
theorem NX {a b n:Int} {hp:List PO} {K:PV->List PO->Prop} (hb:b≠0) (hl:bl b<=9000) (ha:(bl a:Int)-n<=4000) (h2:2<=hp.length) (k:∀ aE i,aq hp aE->hp.length<=i->aE[i]? =some (.tup [.int (a.fdiv b),.int (a.fmod b)])->K (.ref i) aE):Ky [.int a,.int b,.int n] hp K:=⟨a,b,n,rfl,hb,hl,ha,h2,k⟩
theorem DV (r d n:Nat):(r:Int)*2^n+(d:Int)=((r*2^n+d:Nat):Int):=by rw[i7,<-aaB,<-abc]
theorem NY {cx:Cx} {A:Nat->Addr} (G:GG cx A) (T2:cx.D (A 106)=some KE) (T3:cx.D (A 104)=some Ky) (T4:cx.D (A 107)=some NT) {ps:List PV} {hp:List PO} {K:PV->List PO->Prop} (h:I5 ps hp K):
  bc cx (am "_divmod_pos") [2,3] [] [] (aQ "_divmod_pos") ps hp K:=by
 obtain⟨a,b,rfl,hb,NZ,DK,h2,T,k⟩:=h
 refine gI rfl mA (l:=[(3,.int (b:Nat)),(2,.int (a:Nat))]) rfl ?_
 have hn:1<=bl (b:Int):=AQ (aam hb)
 have DW:=AP b
 refine Zt trivial ?_
 repeat walk_at "o"
 refine bP T2 ?_
 generalize bl (b:Int)=n at*
 refine NW hn (Zu DK (by decide)) (Zu NZ (by decide)) h2 T λH1 Gh g1 ga hd=>?_
 obtain⟨ds,X3,cb,DX,pF⟩:=DT (n:=n) (a:=a) hn (Zu NZ (by decide))
 obtain⟨_,m2⟩:=sX (a:=a) hn
 rw[<-cb] at m2
 rw[X3] at hd
 have N0:ds.length*n<=4000:=Zu m2 (Zu (aa6 ..) (aac NZ DK))
 have sY:ds.length<=4000:=Zu (Nat.le_mul_of_pos_right _ hn) N0
 have hA:(H1++[PO.list []])[Gh]? =some (.list (aa (ah ds))):=ac hd _
 have ll:(aa (ah ds)).length=ds.length:=by rw[ar,aG]
 have T5:2<=Gh:=Zu h2 ga
 have gl:=g1.le
 have X4:H1.length≠Gh:=aam (Zv.mp hd).1
 refine Zt (ZM _) ?_
 refine Zt G.rv ?_
 refine cq hA (Zt (by rw[ll];exact f6 sY rfl) ?_)
 rw[ll]
 refine fI ds.length (λi=>.rev Gh (ds.length-i)) (X2 n b Gh ds hp H1.length) ?_ ?_ λC c=>c _ _ [] 0 rfl rfl rfl rfl rfl hA (af _ _) rfl hb nofun ?_ (g1.trans (.push _ _))
 .intro i σ hi I
  refine I _ λl H qs r e VW l3 X5 VX hA hQ N1 hr T6 hv gr=>?_
  subst e
  obtain⟨m,hm⟩:∃ m,ds.length-i=m+1:=⟨ds.length-i-1,by exact la [_,_] [] [.t .v0 .v1] (.e (.s .v1 .v0) (.a (.s (.s .v1 .v0) .n1) .n1)) (.o 0 (.k true (.s (.s .v1 .v0) .n1) (.o 0 (.k true (.s .v1 .v0) (.o 0 (.f [0,0,1,0,0,0,0,1]) (.f [1,0,0,0,1,0,1,1]))) (.f [0,1,0,1]))) (.o 0 (.f [1,1]) (.k true (.s (.s .v1 .v0) .n1) (.o 0 (.f [0,0,1,1]) (.f [1,0,0,1]))))) rfl hi⟩
  have VY:ds.length-(i+1)=m:=by exact la [_,_,_] [] [.e (.s .v0 .v1) (.a .v2 .n1)] (.e (.s .v0 (.a .v1 .n1)) .v2) (.o 0 (.k true (.s .v0 (.a .v1 .n1)) (.o 0 (.k true (.s .v0 .v1) (.o 0 (.f [0,1,0,0,0,0,1,1]) (.f [0,1,0,0,0,1,1,1]))) (.k true (.s .v0 .v1) (.o 0 (.f [0,1,0,0,0,0,1,1]) (.f [0,1,0,1,0,0,1,1]))))) (.k true (.s .v0 (.a .v1 .n1)) (.o 0 (.f [0,1,0,1]) (.k true (.s .v0 .v1) (.o 0 (.f [0,0,1,0,1,0,1]) (.f [1,0,0,0,1,0,1,0,1])))))) rfl hm
  have X6:m<ds.length:=by exact la [_,_,_] [] [.e (.s .v0 .v1) (.a .v2 .n1)] (.t .v2 .v0) (.k true (.s .v0 .v1) (.o 0 (.f [0,1,0,1]) (.f [0,1,0,1,0,1]))) rfl hm
  rw[hm,VY]
  rw[hm] at hv
  obtain⟨d0,T7⟩:=dM rfl X6
  refine⟨_,_,AV hA (bJ T7),λagain dZ=>?_⟩
  have Fc:d0<2^n:=pF d0 (ZE T7)
  have X7:bl (r:Int)<=n:=gu (aaJ hr DW)
  have Gi:=NV hr Fc
  have n2:n+n<=4000:=aac DK DK
  have T8:bl (((r*2^n+d0:Nat):Int))<=n+n:=gu (ZD Gi (by rw[Nat.pow_add];exact aat _ (Zx DW)))
  repeat walk_at "o"
  refine Zt (ZP n) (Zt (AN (Zu (Nat.add_le_add_right X7 n) (Zu n2 (by decide)))) ?_)
  rw[ZO]
  repeat walk_at "o"
  rw[DV]
  refine bP T3 (NX (λq=>aam hb (aaI q)) (Zu (gu DW) (Zu DK (by decide))) (by exact la [_,_] [] [.l .v0 (.n 2000),.l .v1 (.a .v0 .v0)] (.L (.s (.c .v1) (.c .v0)) (.n 4000)) (.f [1,1,1]) rfl DK T8) (Zu h2 gr.le) λH2 t g2 gt ht=>?_)
  have PU:H2[H1.length]? =some (.list (aa (ah qs))):=g2.keep _ _ (Zu h2 gl) hQ
  have NZ:H2[Gh]? =some (.list (aa (ah ds))):=g2.keep _ _ T5 hA
  rw[eX,cA] at ht
  refine Zt (by decide) ?_
  refine j6 ht (Zt rfl ?_)
  repeat walk_at "o"
  refine Zt (e7 PU trivial) ?_
  refine cq PU (Zt (by rw[ar,aG,N1];exact f6 (Zu (Zx hi) sY) rfl) ?_)
  rw[cR]
  have T9:(r*2^n+d0)/b<2^n:=by
   rw[Nat.div_lt_iff_lt_mul hb,aaU (2^n) b]
   exact Gi
  refine dZ _ λC c=>c _ _ (qs++[(r*2^n+d0)/b]) ((r*2^n+d0)%b) rfl VW l3 rfl VX (az NZ X4) (d9 PU _) (by rw[Zw,N1];rfl) (Z5 _ hb) (λv hv=>?_) ?_ ((gr.trans g2).set gl (Zu h2 gl) λq e=>by rw[PU] at e;cases e)
  .rcases Z1.mp hv with q|q
   .exact T6 v q
   .rw[ZG.mp q];exact T9
  .rw[VY,mQ T7,val,hv,aaz,List.reverse_singleton,List.singleton_append,val]
   exact I6
 .intro σ I
  refine I _ λl H qs r e VW l3 X5 VX hA hQ N1 hr T6 hv gr=>?_
  subst e
  rw[Nat.sub_self] at hv ⊢
  rw[List.drop_zero,DX] at hv
  refine⟨rfl,?_⟩
  have lq:aV (aa (ah qs)).length:=by rw[ar,aG,N1];exact f6 sY rfl
  have QG:(aa (ah qs)).reverse=aa (ah qs.reverse):=by unfold aa ah;rw[List.map_reverse,List.map_reverse]
  have KJ:=gr.set (o:=.list (aa (ah qs.reverse))) (i:=H1.length) gl (Zu h2 gl) λq e=>by rw[hQ] at e;cases e
  have Ua:qs.reverse.length=ds.length:=by rw[aab,N1]
  repeat walk_at "o"
  refine Zt (e7 hQ trivial) ?_
  refine cq hQ (Zt lq ?_)
  rw[QG]
  repeat walk_at "o"
  refine bP T4 ⟨H1.length,n,qs.reverse,rfl,d9 hQ _,by rw[Ua];exact Zu sY (by decide),Zu DK (by decide),λv hv=>T6 v (aa4.mp hv),by rw[Ua];exact Zu N0 (by decide),Zu h2 KJ.le,KJ.tabs T,λH3 g3=>?_⟩
  repeat walk_at "o"
  refine Zt (by decide:(2:Nat)<=1000000) ?_
  refine k _ _ ((KJ.trans g3).trans (.push _ _)) (KJ.trans g3).le ((af _ _).trans ?_)
  have hq:qm n qs.reverse=a/b:=by
   rw[AU (by rw[Ua];exact Zu sY (by decide)),hv,aao,Nat.add_mul_div_right _ _ hb,Nat.div_eq_of_lt hr,aau]
  have Ub:r=a%b:=by rw[hv,aao,Nat.add_mul_mod_self_right,Nat.mod_eq_of_lt hr]
  rw[hq,<-Ub]
 .show val (2^n) (ds.drop ds.length)=_
  rw[List.drop_length]
  exact(Nat.zero_mul _).symm
theorem yo {e:PE}:e.er.isComp=e.isComp:=by cases e<;>rfl
section
variable {cx:Cx} {rx:fX} {aY:Stmt->List (Nat×NameKind)->(St->Prop)->St->Prop}
theorem uR (f:PE) (es:ca) (p:Pos) (_:rN cx rx f.er=rN cx rx f) (h:mG cx rx es.er=mG cx rx es):rN cx rx (PE.er (.call f es p))=rN cx rx (.call f es p):=by
 funext X σ
 show aZ cx f.er (λfv ae=>mG cx rx es.er X ae\/gW cx es.er (λvs aw=>rx fv vs aw.hp λaE=>X {aw with hp:=aE}) ae) σ=_
 rw[eA,(W5 es).1,h];rfl
theorem uS (o:PE) (m:Mt) (ap:Pos) (es:ca) (p:Pos) (_:rN cx rx o.er=rN cx rx o) (h:mG cx rx es.er=mG cx rx es):rN cx rx (PE.er (.meth o m ap es p))=rN cx rx (.meth o m ap es p):=by
 funext X σ
 show aZ cx o.er (λov ae=>pn cx m ov ae/\mG cx rx es.er X ae) σ=_
 rw[eA,h];rfl
theorem AW (e:PE):rN cx rx e.er=rN cx rx e:=
 @PE.rec (λe=>rN cx rx e.er=rN cx rx e) (λes=>mG cx rx es.er=mG cx rx es) (λø ø=>rfl) (λø ø=>rfl) (λø=>rfl) (λø ø=>rfl) (λø ø=>rfl) (λø ø=>rfl) (λø ø=>rfl) (λø ø ø ø ø ø=>rfl) (λø ø ø ø=>rfl) (λø ø ø ø ø ø=>rfl) (λø ø ø ø=>rfl) (λø ø ø ø ø ø ø=>rfl) uR uS (λø ø ø ø ø=>rfl) (λø ø ø ø ø ø ø ø ø ø=>rfl) rfl (λø ø ø=>rfl) (λø ø ø ø=>rfl) (λø ø ø ø ø ø ø ø ø ø=>rfl) (λø ø ø ø ø ø ø ø ø ø ø=>rfl) (λø ø=>rfl) rfl (λe es he ø=>he) e
theorem rg (t:PT) (e:PE) (p:Pos):uI cx rx aY (PS.er (.assign t e p))=uI cx rx aY (.assign t e p):=by
 cases t with
 |name x q=>
  funext X σ
  show(e.er.isComp=false/\rN cx rx e.er X σ)=_
  rw[yo,AW];rfl
 |_=>rfl
theorem yp (t:PE) (b e:ao) (p:Pos) (hb:cT cx rx aY b.er=cT cx rx aY b) (he:cT cx rx aY e.er=cT cx rx aY e):uI cx rx aY (PS.er (.ite t b e p))=uI cx rx aY (.ite t b e p):=by
 funext X σ
 show iB cx t.er (λc ae=>(c=true/\cT cx rx aY b.er X ae)\/(c=false/\cT cx rx aY e.er X ae)) σ=_
 rw[qL,hb,he];rfl
theorem yq (t:PE) (b e:ao) (p:Pos) (hb:cT cx rx aY b.er=cT cx rx aY b) (_:cT cx rx aY e.er=cT cx rx aY e):uI cx rx aY (PS.er (.whl t b e p))=uI cx rx aY (.whl t b e p):=by
 funext X σ
 show(∃ n,iZ (iB cx t.er) (aF cx b.er) (cT cx rx aY b.er) X n σ)=_
 rw[qL,dW,hb];rfl
theorem DY (t:PS):wpS cx t.er=wpS cx t:=by
 have:=dW cx (.cons t .nil)
 funext Q σ
 have h:=congrFun (congrFun this (λf σ=>Q f σ)) σ
 have e:∀ u:PS,aF cx (.cons u .nil) (λf σ=>Q f σ) σ=wpS cx u (λf ae=>(match f with|.next=>Q .next ae|f=>Q f ae)) σ:=λø=>rfl
 have e2:(λ(f:PF) ae=>(match f with|.next=>Q .next ae|f=>Q f ae))=Q:=by funext f σ;cases f<;>rfl
 rw[show ao.er (.cons t .nil)=.cons t.er .nil from rfl,e,e,e2] at h
 exact h
theorem uT (t:PS) (ts:ao) (ht:uI cx rx aY t.er=uI cx rx aY t) (zL:cT cx rx aY ts.er=cT cx rx aY ts):cT cx rx aY (ao.er (.cons t ts))=cT cx rx aY (.cons t ts):=by
 funext X σ
 show(uI cx rx aY t.er X σ\/wpS cx t.er (λf ae=>f=.next/\cT cx rx aY ts.er X ae) σ)=_
 rw[ht,zL,DY];rfl
theorem mS (cx:Cx) (rx:fX) (aY:Stmt->List (Nat×NameKind)->(St->Prop)->St->Prop) (ts:ao):cT cx rx aY ts.er=cT cx rx aY ts:=
 @ao.rec (λt=>uI cx rx aY t.er=uI cx rx aY t) (λts=>cT cx rx aY ts.er=cT cx rx aY ts) rg (λø ø ø ø=>rfl) (λø ø ø ø ø=>rfl) (λe ø=>AW e) yp yq (λø ø ø ø ø ø ø=>rfl) (λø ø ø ø ø ø ø ø ø ø=>rfl) (λø ø=>rfl) (λø=>rfl) (λø=>rfl) (λø ø ø=>rfl) rfl uT ts
end
noncomputable def I7:Nat->Int->Int->Prop
 |0,a,b=>0<=a/\0<b
 |1,_,b=>0<b
 |_,_,b=>b≠0
noncomputable def qn (c:Nat):Spec:=λps hp K=>∃ (a b:Int) (N:Nat),ps=[.int a,.int b]/\I7 c a b/\N<=2000/\a.natAbs<2^N/\b.natAbs<2^N/\2<=hp.length/\fV hp/\∀ aE i,aq hp aE->hp.length<=i->aE[i]? =some (.tup [.int (a.fdiv b),.int (a.fmod b)])->K (.ref i) aE
theorem wO {a b:Int}:(-a).fdiv (-b)=a.fdiv b:=Int.neg_fdiv_neg ..
theorem wP {a b:Int}: -((-a).fmod (-b))=a.fmod b:=by
 have h1:=aaW (-a) (-b)
 have h2:=aaW a b
 rw[wO] at h1
 have:(-b)*a.fdiv b= -(b*a.fdiv b):=by rw[Int.neg_mul]
 exact la [] [_,_,_,_,_] [.E (.a .V0 .V1) (.g .V2),.E (.a .V3 .V4) .V2,.E .V0 (.g .V3)] (.E (.g .V1) .V4) (.o 0 (.f [1,1,0,0,1,0,1]) (.f [1,0,1,1,0,1])) rfl h1 h2 this
theorem DZ {a b:Int} (ha:a<0) (hb:0<b):a.fdiv b= -((-a-1).fdiv b)-1/\a.fmod b=b+(-((-a-1).fmod b)-1):=by
 have h0:0<= -a-1:=by exact la [] [_] [.T .V0 .n0] (.L .n0 (.s (.g .V0) .n1)) (.f [1,1]) rfl ha
 have e1:=aaW (-a-1) b
 have m1:=aaN (-a-1) hb
 have m2:=Int.fmod_lt_of_pos (-a-1) hb
 generalize (-a-1).fdiv b=q at*
 generalize (-a-1).fmod b=r at*
 have vn:a=b*(-q-1)+(b+(-r-1)):=by
  rw[Int.mul_sub,Int.mul_neg];exact la [] [_,_,_,_] [.E (.a .V0 .V1) (.s (.g .V2) .n1)] (.E .V2 (.a (.s (.g .V0) (.M .V3 1)) (.a .V3 (.s (.g .V1) .n1)))) (.o 0 (.f [1,1]) (.f [1,0,1])) rfl e1
 have e2:=aaW a b
 have m3:=aaN a hb
 have m4:=Int.fmod_lt_of_pos a hb
 generalize a.fdiv b=Q at*
 generalize a.fmod b=R at*
 have PW:b*(Q-(-q-1))=(b+(-r-1))-R:=by rw[Int.mul_sub];exact la [] [_,_,_,_,_,_] [.E .V0 (.a .V1 (.a .V2 (.s (.g .V3) .n1))),.E (.a .V4 .V5) .V0] (.E (.s .V4 .V1) (.s (.a .V2 (.s (.g .V3) .n1)) .V5)) (.o 0 (.f [1,1,0,1]) (.f [1,0,1,0,1])) rfl vn e2
 have:Q-(-q-1)=0:=by
  generalize Q-(-q-1)=d at PW
  rcases Int.lt_trichotomy d 0 with h|h|h
  .have:=Int.mul_le_mul_of_nonneg_left (show d<= -1 by exact la [] [_] [.T .V0 .n0] (.L .V0 (.g .n1)) (.f [1,1]) rfl h) (Int.le_of_lt hb)
   omega
  .exact h
  .have:=Int.mul_le_mul_of_nonneg_left (show 1<=d by exact la [] [_] [.T .n0 .V0] (.L .n1 .V0) (.f [1,1]) rfl h) (Int.le_of_lt hb)
   exact la [] [_,_,_,_,_] [.L .n0 .V0,.L .n0 .V1,.E .V2 (.s (.a .V3 (.s (.g .V0) .n1)) .V1),.L (.M .V3 1) .V2] (.E .V4 .n0) (.f [1,0,1,1,1]) rfl m1 m3 PW this
 rw[this] at PW
 exact la [] [_,_,_,_,_] [.E (.M .V0 0) (.s (.a .V0 (.s (.g .V1) .n1)) .V2),.E (.s .V3 (.s (.g .V4) .n1)) .n0] (.a (.E .V3 (.s (.g .V4) .n1)) (.E .V2 (.a .V0 (.s (.g .V1) .n1)))) (.o 0 (.o 0 (.f [1,1]) (.f [1,0,1])) (.o 0 (.f [1,0,0,1]) (.f [1,0,0,0,1]))) rfl PW this
theorem AX {c:Nat} {a b:Int} {N:Nat} {hp:List PO} {K:PV->List PO->Prop} (hc:I7 c a b) (hN:N<=2000) (ha:a.natAbs<2^N) (hb:b.natAbs<2^N) (h2:2<=hp.length) (T:fV hp) (k:∀ aE i,aq hp aE->hp.length<=i->aE[i]? =some (.tup [.int (a.fdiv b),.int (a.fmod b)])->K (.ref i) aE):qn c [.int a,.int b] hp K:=⟨a,b,N,rfl,hc,hN,ha,hb,h2,T,k⟩
theorem I8 {c:Nat} {a b:Int} (hc:I7 c a b):b≠0:=by
 rcases c with _|_|c
 .exact Int.ne_of_gt hc.2
 .exact Int.ne_of_gt hc
 .exact hc
theorem N2 {c:Nat} {a b:Int} (hc:I7 c a b) (h:b<0):∃ c',c=c'+1/\I7 c' (-a) (-b):=by
 rcases c with _|_|_|c
 .exact absurd hc.2 (Int.lt_asymm h)
 .exact absurd hc (Int.lt_asymm h)
 .exact⟨1,rfl,Int.neg_pos_of_neg h⟩
 .exact⟨c+2,rfl,λq=>hc (Int.neg_eq_zero.mp q)⟩
theorem N3 {c:Nat} {a b:Int} (hc:I7 c a b) (h:a<0) (hb:0<b):∃ c',c=c'+1/\I7 c' (-a-1) b:=by
 rcases c with _|_|_|c
 .exact absurd hc.1 (Int.not_le.mpr h)
 .exact⟨0,rfl,Int.le_sub_one_of_lt (Int.neg_pos_of_neg h),hb⟩
 .exact⟨1,rfl,hb⟩
 .exact⟨c+2,rfl,hc⟩
theorem Gj {cx:Cx} {A:Nat->Addr} (G:GG cx A) (c:Nat) (Uc:cx.D (A 108)=some I5) (N4:∀ c',c=c'+1->cx.D (A 109)=some (qn c')) {ps:List PV} {hp:List PO} {K:PV->List PO->Prop} (h:qn c ps hp K):
  bc cx (am "int_divmod") [2,3] [] [] (aQ "int_divmod") ps hp K:=by
 obtain⟨a,b,N,rfl,hc,hN,ha,hb,h2,T,k⟩:=h
 refine gI rfl iR (l:=[(3,.int b),(2,.int a)]) rfl ?_
 have FM:=I8 hc
 refine gZ (beq_eq_false_iff_ne.mpr FM) ?_
 by_cases DW:b<0
 .refine gY (decide_eq_true DW) ?_
  obtain⟨c,rfl,Cp⟩:=N2 hc DW
  repeat walk_at "o"
  refine bP (N4 _ rfl) (AX Cp hN (by rw[Int.natAbs_neg];exact ha) (by rw[Int.natAbs_neg];exact hb) h2 T λH t g gt ht=>?_)
  refine Zt (by decide) ?_
  refine j6 ht (Zt rfl ?_)
  refine Zt (by decide:(2:Nat)<=1000000) ?_
  refine k _ _ (g.trans (.push _ _)) g.le ((af _ _).trans ?_)
  rw[wO,wP]
 .refine gZ (decide_eq_false DW) ?_
  have Ud:0<b:=by exact la [] [_] [.n (.E .V0 .n0),.n (.T .V0 .n0)] (.T .n0 .V0) (.o 0 (.f [1,1]) (.f [1,0,1])) rfl FM DW
  by_cases KL:a<0
  .refine gY (decide_eq_true KL) ?_
   obtain⟨c,rfl,Cp⟩:=N3 hc KL Ud
   repeat walk_at "o"
   refine bP (N4 _ rfl) (AX (a:= -a-1) Cp hN (by exact la [_] [_] [.t (.b .V0) .v0,.T .V0 .n0] (.t (.b (.s (.g .V0) .n1)) .v0) (.k true (.b .V0) (.o 0 (.f [0,0,1,1]) (.k true (.b (.s (.g .V0) .n1)) (.o 0 (.f [0,1,0,1,0,0,0,1,1]) (.f [0,1,0,1,0,0,2,1,1]))))) rfl ha KL) hb h2 T λH t g gt ht=>?_)
   refine Zt (by decide) ?_
   refine j6 ht (Zt rfl ?_)
   refine Zt (by decide:(2:Nat)<=1000000) ?_
   refine k _ _ (g.trans (.push _ _)) g.le ((af _ _).trans ?_)
   obtain⟨i1,i2⟩:=DZ KL Ud
   rw[i1,i2]
   rfl
  .refine gZ (decide_eq_false KL) ?_
   repeat walk_at "o"
   refine bP Uc ?_
   obtain⟨x,rfl⟩:∃ x:Nat,a=(x:Int):=⟨a.toNat,(aaL (Int.not_lt.mp KL)).symm⟩
   obtain⟨y,rfl⟩:∃ y:Nat,b=(y:Int):=⟨b.toNat,(aaL (Int.not_lt.mp DW)).symm⟩
   refine⟨x,y,rfl,aak.mp Ud,Zu (gu ha) hN,Zu (gu hb) hN,h2,T,λH t g gt ht=>?_⟩
   rw[<-eX,<-cA] at ht
   exact k _ _ g gt ht
noncomputable def N5:fX:=λø ø ø ø=>False
noncomputable def N6:iY:=λps hp K=>∃ a:Int,ps=[.int a,.int 0]/\K hp
theorem AY:∃ np pos,(cJ (aQ "int_divmod")).1=.Raise (some (.Name (nm 137) np)) none pos:=⟨_,_,rfl⟩
theorem AZ:(137,NameKind.globalImplicit)∈(cJ (aQ "int_divmod")).2:=by decide+kernel
theorem N7 {cx:Cx} {A:Nat->Addr} (G:GG cx A) {ps:List PV} {hp:List PO} {K:List PO->Prop} (h:N6 ps hp K):DI cx N5 F4 (am "int_divmod") [2,3] (aQ "int_divmod") ps hp K:=by
 obtain⟨a,rfl,k⟩:=h
 refine⟨rfl,?_⟩
 rw[<-mS,iR]
 exact .inl (.inl ⟨rfl,.inl ⟨AY,AZ,k⟩⟩)
noncomputable def PX (cg:List Int):Nat->Nat->Int->Int->Prop
 |0,_,_,_=>False
 |k+1,pos,v,b=>Builtin.bitAnd b 64≠0/\bl v<=1000/\(cg[pos]? =none\/∃ b',cg[pos]? =some b'/\PX cg k (pos+1) (Builtin.bitOr (v*2^(6:Int).toNat) (Builtin.bitAnd b' 63)) b')
noncomputable def Ue (cg:List Int) (pos:Nat):Prop:=cg[pos]? =none\/∃ b,cg[pos]? =some b/\PX cg 100 (pos+1) (Builtin.bitAnd b 63) b
noncomputable def KN:iY:=λps hp K=>∃ it l p cg,ps=[.ref it]/\hp[it]? =some (.lit l p)/\hp[l]? =some (.list (aa cg))/\l≠it/\Ue cg p/\K (hp.set it .junk)
theorem N8 {it li p:Nat} {xs:List PV} {H:List PO} {K:List PO->Prop} (h1:H[it]? =some (.lit li p)) (h2:H[li]? =some (.list xs)) (h3:xs[p]? =none) (k:K (H.set it .junk)):Kz (.fn .next) [.ref it] H K:=⟨rfl,it,li,p,xs,rfl,h1,h2,h3,k⟩
theorem wQ {cx:Cx} {A:Nat->Addr} (G:GG cx A) {l:Loc} {H:List PO} {X:St->Prop} {it li p:Nat} {xs:List PV} (X8:l.get 45=some (.ref it)) (h1:H[it]? =some (.lit li p)) (h2:H[li]? =some (.list xs)) (h3:xs[p]? =none) (k:X {loc:=l,ce:=[],hp:=H.set it .junk}):
  uI cx Kz gq (.assign (.name 3 p0) (.call (.glob 133 p0) (.cons (.loc 45 p0) .nil) p0) p0) X {loc:=l,ce:=[],hp:=H}:=by
 refine Zt rfl ?_
 refine ax (G.g _ _ rfl) ?_
 refine Or.inr ?_
 refine ax X8 ?_
 exact N8 (K:=λH'=>X {loc:=l,ce:=[],hp:=H'}) h1 h2 h3 k
theorem A3 {t:List Int} {q:Nat} (h:t[q]? =none):(aa t)[q]? =none:=by rw[gL,h];rfl
theorem sZ {cx:Cx} {A:Nat->Addr} (G:GG cx A) {hp:List PO} {K:List PO->Prop} {it l p0:Nat} {cg:List Int} (eQ:hp[it]? =some (.lit l p0)) (hl:hp[l]? =some (.list (aa cg))) (iw:l≠it) (k:K (hp.set it .junk)):
  ∀ kk l' pos v b,l'.get 45=some (.ref it)->l'.get 46=some (.int v)->l'.get 3=some (.int b)->PX cg kk pos v b->
   iZ (iB cx (.bin .BitAnd (.loc 3 Mine.p0) (.int 64 Mine.p0) Mine.p0)) (aF cx Ia) (cT cx Kz gq Ia) (λσ=>K σ.hp) kk {loc:=l',ce:=[],hp:=hp.set it (.lit l pos)}
 |0,_,_,_,_,_,_,_,h=>h.elim
 |kk+1,l',pos,v,b,Nl,PJ,l3,⟨hz,Ap,hr⟩=>by
  have b6:((bl v:Nat):Int)+6<=134217728:=Int.le_trans (Int.add_le_add_right (aaf.mpr Ap) 6) (by decide)
  refine ax l3 ?_
  refine Zt (bne_iff_ne.mpr hz) ?_
  rcases hr with hr|⟨b',Ti,hr⟩
  .refine Or.inl (Or.inr ?_)
   refine pB PJ (Zt (by decide) (Zt b6 (Zt rfl (Or.inl ?_))))
   exact wQ G Nl (d9 eQ _) (az hl (aaO iw)) (A3 hr) (by rw[List.set_set];exact k)
  .refine Or.inr ?_
   refine pB PJ (Zt (by decide) (Zt b6 ?_))
   refine ax (G.g _ _ rfl) ?_
   refine ax Nl ?_
   refine vz (d9 eQ _) (cq (az hl (aaO iw)) (ax (kn Ti) ?_))
   rw[List.set_set]
   exact Zt rfl (sZ G eQ hl iw k kk _ _ _ _ Nl rfl rfl hr)
theorem N9 {cx:Cx} {A:Nat->Addr} (G:GG cx A) {ps:List PV} {hp:List PO} {K:List PO->Prop} (h:KN ps hp K):DI cx Kz gq (am "_parse_varint") [45] (aQ "_parse_varint") ps hp K:=by
 obtain⟨it,l,p,cg,rfl,eQ,hl,iw,hf,k⟩:=h
 refine⟨rfl,?_⟩
 rw[<-mS,f5]
 refine(?_:cT cx Kz gq iS _ {loc:=[(45,.ref it)],ce:=[],hp:=hp})
 rcases hf with hf|⟨b,hb,hf⟩
 .exact .inl (wQ G rfl eQ hl (A3 hf) k)
 .refine Or.inr ?_
  refine ax (G.g _ _ rfl) ?_
  refine vz eQ (cq hl (ax (kn hb) ?_))
  refine Zt rfl (Or.inr ?_)
  refine Zt rfl (Or.inl ?_)
  exact⟨_,sZ G eQ hl iw k 100 _ (p+1) (Builtin.bitAnd b 63) b rfl rfl rfl hf⟩
noncomputable def n7 (cx:Cx) (n:Nat):Prop:=∀ k dk S,cx.DC k dk=some S->(∀ as ob,cx.cs k as ob->∃ fd,ob.data=.func fd)/\
  ∀ (fr:List Env) {env:Env} {ab:aT} {σ:St} {s:Shared} {A:Around} {ps:List PV} {vs:List Value} {P:bu} {Q:Value->Shared->Prop} {E:Value->Shared->Prop} {i:Nat} {a:Addr},
   Good (cx.at fr) n A->aH (cx.at fr) env ab σ s.heap->ab[i]? =some a->σ.hp[i]? =some (.clo k dk)->aU ab ps vs->S ps σ.hp (λr aE=>P r {σ with hp:=aE})->bB (cx.at fr) env ab s P Q->wpAny (model cx.prog cx.w) A (call (.ref a) vs) Q E s
noncomputable def i8 (cx:Cx) (n:Nat):Prop:=∀ k t xs,cx.SE k t xs->∀ {env:Env} {sc:Scope} {ab:aT} {σ:St} {s:Shared} {A:Around} {P:ba} {Q:Flow->Shared->Prop} {E:Value->Shared->Prop},
  (PS.ext k t xs).ok sc=true->Good cx n A->aW env sc->vD cx env->cx.SW k P σ->aH cx env ab σ s.heap->cV cx env ab s P Q->wpAny (model cx.prog cx.w) A (exec t env) Q E s
noncomputable def n8 (cx:Cx) (n:Nat):Prop:=∀ k e,cx.XE k=some e->∀ {env:Env} {sc:Scope} {ab:aT} {σ:St} {s:Shared} {A:Around} {P:bu} {Q:Value->Shared->Prop} {E:Value->Shared->Prop},
  (PE.ext k e).ok sc=true->Good cx n A->aW env sc->cx.XW k P σ->aH cx env ab σ s.heap->bB cx env ab s P Q->wpAny (model cx.prog cx.w) A (eval e env) Q E s
theorem yr {cx:Cx} {A:Nat->Addr} (B:cF cx A) {n:Nat} {u:Up} {tab:List (Nat×Spec)} (hD:u.D=sI A tab) (hs:∀ y∈tab,102<=y.1/\y.1<=120/\an cx n (.ref (A y.1)) y.2) (fr:List Env)
  (MS:n7 ((aA cx u).at fr) n) (hx:n8 ((aA cx u).at fr) n) (S9:i8 ((aA cx u).at fr) n):bF ((aA cx u).at fr) n where
 toCxOk:=⟨B.tab⟩
 g:=B.g
 en:=B.en
 d:=λa S h=>by
  obtain⟨h1,h2⟩:=(PD B (u:={D:=u.D,DC:=λø ø=>none,XE:=λø=>none,XW:=λø ø ø=>False,SE:=λø ø ø=>False,SW:=λø ø ø=>False}) hD hs (λø ø=>rfl) (λø=>rfl) (λø ø ø h=>h) fr).d a S h
  exact⟨h1,hZ.mpr ((cz (cx:=cx) (u:=u)).mpr ((cz (cx:=cx)).mp (hZ.mp h2)))⟩
 dc:=MS
 x:=hx
 sx:=S9
structure dD (cx:Cx) (a:Addr) (sc:Scope) (params:List Nat) (b:ao) (c:Value) (q:Str):Prop where
 h:∃ o fd,cx.h₀.get? a=some o/\o.data=.func fd/\zN fd sc params b/\cx.h₀.CodeRec fd.code fd.qualname/\fd.closure=[]/\fd.code=c/\fd.qualname=q
theorem dD.at {cx:Cx} {a:Addr} {sc:Scope} {params:List Nat} {b:ao} {c:Value} {q:Str} (F:dD cx a sc params b c q):fh cx a sc params b:=
 by obtain⟨o,fd,h1,h2,h3,h4,h5,_⟩:=F.h;exact⟨o,fd,h1,h2,h3,h4,h5⟩
noncomputable def s4 (sc:Scope) (c:Value) (q:Str) (env:Env):Prop:=∃ L dy f,env=newEnv sc L mainGlobals dy (q++".<locals>.") f c none builtinsNs
theorem dD.plain {cx:Cx} {n:Nat} {a:Addr} {sc:Scope} {params:List Nat} {b:ao} {c:Value} {q:Str} (F:dD cx a sc params b c q) (C:∀ env fr,s4 sc c q env->bF (cx.at (env::fr)) n) (iQ:cx.h₀.NoLimit) (nJ:∀ x∈sc.names,x.2≠ .cell) (nF:∀ x∈params,sc.names.lookup (nm x)=some .local)
  {S:Spec} (hS:∀ ps hp K,S ps hp K->bc cx sc params [] [] b ps hp K):an cx (n+1) (.ref a) S:=λfr {env ab σ s A ps vs P Q E} hA R d hw k=>by
 obtain⟨o,fd,h1,h2,h3,h4,h5,h6,h7⟩:=F.h
 exact iP (cx:=cx.at fr) (λL=>C _ _ ⟨L,_,_,by rw[h6,h7]⟩) hA h3 (R.keep _ _ h1) h2 iQ (h4.keeps R.keep) nJ nF (λx i e=>by cases e) R d (gK (hS _ _ _ hw)) k
theorem dD.cells {cx:Cx} {n:Nat} {a:Addr} {sc:Scope} {params cl:List Nat} {b:ao} {c:Value} {q:Str} (F:dD cx a sc params b c q) (C:∀ env fr,s4 sc c q env->bF (cx.at (env::fr)) n) (iQ:cx.h₀.NoLimit) (jY:∀ x∈cl,sc.names.lookup (nm x)=some .cell) (nd:cl.Nodup) (uw:∀ x∈params,sc.names.lookup (nm x)=some .local\/x∈cl)
  {S:Spec} (hS:∀ ps hp K,S ps hp K->bc cx sc params cl [] b ps hp K):an cx (n+1) (.ref a) S:=λfr {env ab σ s A ps vs P Q E} hA R d hw k=>by
 obtain⟨o,fd,h1,h2,h3,h4,h5,h6,h7⟩:=F.h
 exact lX (cx:=cx.at fr) (λL=>C _ _ ⟨L,_,_,by rw[h6,h7]⟩) hA h3 (R.keep _ _ h1) h2 iQ (h4.keeps R.keep) h5 jY nd uw R d (gK (hS _ _ _ hw)) k
section
variable {cx:Cx} {A:Nat->Addr}
theorem rh {u:Up} {fr:List Env} {n:Nat} {Ar:Around} (g:Good ((aA cx u).at fr) n Ar) (u':Up):Good ((aA cx u').at fr) n Ar:=⟨g.hd,g.fr,g.depth,g.units⟩
theorem rk {u:Up} {fr:List Env} {env:Env} {ab:aT} {σ:St} {h:Heap} (R:aH ((aA cx u).at fr) env ab σ h) (u':Up):aH ((aA cx u').at fr) env ab σ h:=
 (io (cx:=cx.at fr) (u:=u')).mpr ((io (cx:=cx.at fr) (u:=u)).mp R)
theorem wR {u:Up} {fr:List Env} {env:Env} {ab:aT} {s:Shared} {P:bu} {Q:Value->Shared->Prop} (k:bB ((aA cx u).at fr) env ab s P Q) (u':Up):bB ((aA cx u').at fr) env ab s P Q:=
 (qZ (cx:=cx.at fr) (u:=u')).mpr ((qZ (cx:=cx.at fr) (u:=u)).mp k)
theorem s5 {u:Up} {fr:List Env} {env:Env} {ab:aT} {s:Shared} {P:ba} {Q:Flow->Shared->Prop} (k:cV ((aA cx u).at fr) env ab s P Q) (u':Up):cV ((aA cx u').at fr) env ab s P Q:=
 (wu (cx:=cx.at fr) (u:=u')).mpr ((wu (cx:=cx.at fr) (u:=u)).mp k)
theorem A4 {u:Up} {fr:List Env} {n:Nat} (h:u.DC=λø ø=>none):n7 ((aA cx u).at fr) n:=λk dk S e=>by
 have e:u.DC k dk=some S:=e
 rw[h] at e;cases e
theorem A5 {u:Up} {fr:List Env} {n:Nat} (h:u.XE=λø=>none):n8 ((aA cx u).at fr) n:=λk e h'=>by
 have h':u.XE k=some e:=h'
 rw[h] at h';cases h'
theorem A6 {u:Up} {fr:List Env} {n:Nat} (h:u.SE=λø ø ø=>False):i8 ((aA cx u).at fr) n:=λk t xs h'=>by
 have h':u.SE k t xs:=h'
 rw[h] at h';exact h'.elim
theorem s7 (B:cF cx A) (G:GG cx A) (oE:cx.cs=IX) (K1:uN mj [30,31,32] (oR "_int2digits")) (K2:uN mm [31,32] (oR "_digits2int")) {e:Nat} (C:∀ fr,bF ((aA cx (DM e)).at fr) e) {u:Up} (hu:u.DC=TR (e+1)) (fr:List Env):
  n7 ((aA cx u).at fr) (e+1):=by
 intro k dk S h
 have h:u.DC k dk=some S:=h
 rw[hu] at h
 have h:(if k=1 then some (NM e dk) else if k=2 then some (NN e dk) else none)=some S:=h
 refine⟨λas ob hc=>?_,?_⟩
 .have hc:cx.cs k as ob:=hc
  rw[oE] at hc
  rcases hc with⟨_,yS,c',lj,jp,pm,rO,_,rfl,_⟩|⟨_,yS,c',lj,jp,pm,rO,_,rfl,_⟩<;>exact⟨_,rfl⟩
 .intro Ff env ab σ s Ar ps vs P Q E i a hA R ha hi d hw kp
  have R':=rk (u:=u) (fr:=Ff) R (DM e)
  have KP:=wR (u:=u) (fr:=Ff) kp (DM e)
  have VZ:=rh (u:=u) (fr:=Ff) hA (DM e)
  by_cases k1:k=1
  .subst k1
   rw[if_pos rfl] at h
   cases h
   exact qk (cx:=aA cx (DM e)) (n:=e) (I:=mj) K1 C B.lim (λas ob q=>by
    have q:cx.cs 1 as ob:=q
    rw[oE] at q
    rcases q with⟨_,q⟩|⟨q,_⟩
    .exact q
    .cases q) (S:=NM e) (λdk ps hp K h=>NO G e h) Ff VZ R' ha hi d hw KP
  .rw[if_neg k1] at h
   by_cases k2:k=2
   .subst k2
    rw[if_pos rfl] at h
    cases h
    exact qk (cx:=aA cx (DM e)) (n:=e) (I:=mm) K2 C B.lim (λas ob q=>by
     have q:cx.cs 2 as ob:=q
     rw[oE] at q
     rcases q with⟨q,_⟩|⟨_,q⟩
     .cases q
     .exact q) (S:=NN e) (λdk ps hp K h=>NQ G e h) Ff VZ R' ha hi d hw KP
   .rw[if_neg k2] at h;cases h
theorem X9 (B:cF cx A) (G:GG cx A) (oE:cx.cs=IX) (K1:uN mj [30,31,32] (oR "_int2digits")) (K2:uN mm [31,32] (oR "_digits2int")) (e:Nat):∀ fr,bF ((aA cx (DM e)).at fr) e:=by
 induction e with
 |zero=>exact λfr=>yr B (tab:=[]) rfl (λø h=>by cases h) fr (λk dk S h=>by cases h) (A5 rfl) (A6 rfl)
 |succ e ih=>exact λfr=>yr B (tab:=[]) rfl (λø h=>by cases h) fr (s7 B G oE K1 K2 ih rfl fr) (A5 rfl) (A6 rfl)
theorem A7 {I:CI} {c T:Addr} {q:Str} {s8:Scope} (DB:ie cx I c T) (hk:s8.kind=.function) (IY:s8.names.lookup (nm 29)=some .cell) (hq:(q++".<locals>.")++nm 29=I.q) {env:Env} (he:s4 s8 (.ref c) q env) (fr:List Env) (n:Nat):i8 ((aA cx (jV I)).at (env::fr)) n:=by
 intro k t xs hs s9 sc ab σ s Ar P Q E ok hA O V hw R kp
 obtain⟨rfl,rfl⟩:=hs
 obtain⟨⟨o,ho⟩,hf⟩:=V
 have:s9=env:=(List.cons.inj (show env::fr=s9::o from ho)).1.symm
 subst this
 obtain⟨L,dy,f,rfl⟩:=he
 have Ya:ie ((aA cx (jV I)).at (newEnv s8 L mainGlobals dy (q++".<locals>.") f (.ref c) none builtinsNs::fr)) I c T:=⟨DB.tb,DB.code,DB.bm,DB.cs,DB.d0,DB.k0,DB.ann,DB.free,DB.mem⟩
 have O':=ew hk (L:=L) (dy:=dy) (qK:=q++".<locals>.") (f:=f) (code:=.ref c)
 refine yl Ya O' IY rfl ?_ hw R kp
 have:(newEnv s8 L mainGlobals dy (q++".<locals>.") f (.ref c) none builtinsNs).kindOf (nm 29)=some .cell:=IY
 unfold qualnameIn
 rw[this]
 exact hq
end
noncomputable def tx (n:Int):Str:=Str.ofString (toString n)
noncomputable def fy (x:String):ao:=toPSs 40 (am x) (match(cJ (aQ x)).1 with
 |.Try b _ _ _ _=>b
 |_=>[])
noncomputable def Gk:ao:=.cons (.whl (.cmp .LtE (.call (.glob 121 p0) (.cons (.loc 54 p0) .nil) p0) (.call (.glob 121 p0) (.cons (.loc 48 p0) .nil) p0) p0)
 (.cons (.expr (.meth (.loc 54 p0) .append p0 (.cons (.call (.glob 127 p0) (.cons (.call (.glob 111 p0) (.cons (.loc 55 p0) .nil) p0) .nil) p0) .nil) p0) p0) .nil) .nil p0) .nil
theorem A8:(fy "_law_read").er=Gk:=rfl
theorem D1:∃ p1 p2 p3 p4 p5,(cJ (aQ "_law_read")).1=.Try (fy "_law_read").sts [.ExceptHandler (some (.Name (nm 138) p1)) none [.Return (some (.Name (nm 54) p2)) p3] p4] [] [] p5:=⟨_,_,_,_,_,rfl⟩
noncomputable def uU:ao:=.cons (.assign (.name 54 p0) (.call (.glob 109 p0) (.cons (.loc 65 p0) (.cons (.loc 66 p0) .nil)) p0) p0) .nil
theorem yt:(fy "_law_split").er=uU:=rfl
theorem A9:∃ p1 p2 p3 p4 p5 p6 p7 p8 p9,(cJ (aQ "_law_split")).1=.Try (fy "_law_split").sts [.ExceptHandler (some (.Name (nm 137) p1)) (some (nm 67)) [.Return (some (.BinOp (.Constant (.str (Str.ofString "none")) 0 p2) .Add (.Call (.Name (nm 127) p6) [.Name (nm 67) p7] [] p8) p9)) p3] p4] [] [] p5:=⟨_,_,_,_,_,_,_,_,_,rfl⟩
noncomputable def yu (a:Addr) (S:iY):fX:=λfv ps hp K=>fv=.val (.ref a)/\S ps hp K
theorem wS {cx:Cx} {n:Nat} {cls:String} {a:Addr} {S:iY} (hf:∃ o fd,cx.h₀.get? a=some o/\o.data=.func fd) (h:bS cx n cls (.ref a) S) (u:Up) (fr:List Env) (L:Addr):XS ((aA cx u).at fr) n (yu a S) (FX ((aA cx u).at fr) cls L) where
 mono:=uK
 call:=λ{env ab σ s A fv f ps vs X Q E} hA hr R df d k=>by
  obtain⟨rfl,hX⟩:=hr
  have df:f=.ref a:=df
  subst df
  obtain⟨o,fd,h1,h2⟩:=hf
  refine⟨.inr (iJ (R.keep _ _ h1) h2),?_⟩
  refine h fr ⟨hA.hd,hA.fr,hA.depth,hA.units⟩ ((io (cx:=cx.at fr) (u:=u)).mp R) d hX λbr aj e h' tk q R' S' F'=>?_
  refine k br aj e h' tk q ((io (cx:=cx.at fr) (u:=u)).mpr R') S' ⟨1,?_⟩
  obtain⟨B,t,z⟩:=(F' L).p
  exact⟨B,t,z⟩
noncomputable def cO (A:Nat->Addr) (tab:List (Nat×Spec)):Up:={D:=sI A tab,DC:=λø ø=>none,XE:=λø=>none,XW:=λø ø ø=>False,SE:=λø ø ø=>False,SW:=λø ø ø=>False}
noncomputable def qo (cx:Cx) (A:Nat->Addr):Up:={cO A [(111,uG)] with
 SE:=λk t xs=>k=1/\t=(cJ (aQ "_law_read")).1/\xs=(cJ (aQ "_law_read")).2
 SW:=λø P σ=>cT (aA cx (cO A [(111,uG)])) (yu (A 111) KN) gq (fy "_law_read") (λbr=>match br.loc.get 54 with
   |some v=>P (.ret v) br
   |none=>False) σ}
noncomputable def lm (cx:Cx) (A:Nat->Addr):Up:={cO A [(109,qn 2)] with
 SE:=λk t xs=>k=1/\t=(cJ (aQ "_law_split")).1/\xs=(cJ (aQ "_law_split")).2
 SW:=λø P σ=>aF (aA cx (cO A [(109,qn 2)])) (fy "_law_split") P σ\/cT (aA cx (cO A [(109,qn 2)])) (yu (A 109) N6) gq (fy "_law_split") (λbr=>P (.ret (.str (Str.ofString "none"))) {br with loc:=[]}) σ}
section
variable {cx:Cx} {A:Nat->Addr}
theorem D3 (B:cF cx A) (G:GG cx A) {n:Nat} (h1:an cx n (.ref (A 111)) uG) (h2:bS cx n "StopIteration" (.ref (A 111)) KN) (hk:(am "_law_read").kind=.function) (F5:(fy "_law_read").ok (am "_law_read")=true) (Uf:kdOf (am "_law_read") 138=3) (Yb:kdOf (am "_law_read") 54=1)
  {c:Value} {q:Str} {env:Env} (he:s4 (am "_law_read") c q env) (fr:List Env):i8 ((aA cx (qo cx A)).at (env::fr)) n:=by
 intro k t xs hs s9 sc ab σ s Ar P Q E ok hA O V hw R kp
 obtain⟨rfl,rfl,rfl⟩:=hs
 obtain⟨p1,p2,p3,p4,p5,yR⟩:=D1
 rw[yR]
 have V':=V
 obtain⟨⟨o,ho⟩,hf⟩:=V
 have:s9=env:=(List.cons.inj (show env::fr=s9::o from ho)).1.symm
 subst this
 obtain⟨L,dy,f,rfl⟩:=he
 have O':=ew hk (L:=L) (dy:=dy) (qK:=q++".<locals>.") (f:=f) (code:=c)
 have C:bF ((aA cx (cO A [(111,uG)])).at (newEnv (am "_law_read") L mainGlobals dy (q++".<locals>.") f c none builtinsNs::fr)) n:=
  PD B (tab:=[(111,uG)]) rfl (λy hy=>by rcases ZF.mp hy with rfl|hy;exact⟨by decide,by decide,h1⟩;cases hy) (λø ø=>rfl) (λø=>rfl) (λø ø ø h=>h) _
 refine AC C (wS (B.fn 111 (by decide) (by decide)) h2 (cO A [(111,uG)]) _) lg G.g138 (rh hA _) O' V' F5 Uf Yb (by decide+kernel) (by rw[rc];exact hw) (rk R _) (s5 kp _)
theorem Ba (B:cF cx A) (G:GG cx A) {n:Nat} (h1:an cx n (.ref (A 109)) (qn 2)) (h2:bS cx n "ZeroDivisionError" (.ref (A 109)) N6) (hk:(am "_law_split").kind=.function) (F5:(fy "_law_split").ok (am "_law_split")=true) (Ug:kdOf (am "_law_split") 137=3) (Uh:kdOf (am "_law_split") 127=3) (Yc:kdOf (am "_law_split") 67=1)
  {c:Value} {q:Str} {env:Env} (he:s4 (am "_law_split") c q env) (fr:List Env):i8 ((aA cx (lm cx A)).at (env::fr)) n:=by
 intro k t xs hs s9 sc ab σ s Ar P Q E ok hA O V hw R kp
 obtain⟨rfl,rfl,rfl⟩:=hs
 obtain⟨p1,p2,p3,p4,p5,p6,p7,p8,p9,yR⟩:=A9
 rw[yR]
 have V':=V
 obtain⟨⟨o,ho⟩,hf⟩:=V
 have:s9=env:=(List.cons.inj (show env::fr=s9::o from ho)).1.symm
 subst this
 obtain⟨L,dy,f,rfl⟩:=he
 have O':=ew hk (L:=L) (dy:=dy) (qK:=q++".<locals>.") (f:=f) (code:=c)
 have C:bF ((aA cx (cO A [(109,qn 2)])).at (newEnv (am "_law_split") L mainGlobals dy (q++".<locals>.") f c none builtinsNs::fr)) n:=
  PD B (tab:=[(109,qn 2)]) rfl (λy hy=>by rcases ZF.mp hy with rfl|hy;exact⟨by decide,by decide,h1⟩;cases hy) (λø ø=>rfl) (λø=>rfl) (λø ø ø h=>h) _
 refine AD C (wS (B.fn 109 (by decide) (by decide)) h2 (cO A [(109,qn 2)]) _) lg G.g137 G.g127 (rh hA _) O' V' F5 Ug Uh Yc (by decide+kernel) (by rw[rc,kb];exact hw) (rk R _) (s5 kp _)
noncomputable def f8 (cg:List Int):Nat->List Int->Prop
 |pos,[]=>Ue cg pos
 |pos,v::vs=>∃ p',Nj cg pos=some (v,p')/\f8 cg p' vs
noncomputable def Gl:Spec:=λps hp K=>∃ aJ cg vs,ps=[.ref aJ]/\hp[aJ]? =some (.list (aa cg))/\cg.length<=1000/\vs.length<=cg.length/\(∀ v∈vs,v.natAbs.log2<1920)/\f8 cg 0 vs/\2<=aJ/\2<=hp.length/\
 ∀ aE i,aq hp aE->hp.length<=i->aE[i]? =some (.list (d8 (vs.map tx)))->K (.ref i) aE
noncomputable abbrev Yd:PE:=.cmp .LtE (.call (.glob 121 p0) (.cons (.loc 54 p0) .nil) p0) (.call (.glob 121 p0) (.cons (.loc 48 p0) .nil) p0) p0
noncomputable abbrev Oa:ao:=.cons (.expr (.meth (.loc 54 p0) .append p0 (.cons (.call (.glob 127 p0) (.cons (.call (.glob 111 p0) (.cons (.loc 55 p0) .nil) p0) .nil) p0) .nil) p0) p0) .nil
theorem Gm (k:Nat) (S:Spec):(aA cx (cO A [(k,S)])).D (A k)=some S:=if_pos rfl
theorem Gn (G:GG (aA cx (cO A [(111,uG)])) A) {hp:List PO} {aJ:Nat} {cg:List Int} (ht:cg.length<=1000) (l2:2<=aJ) (h2:2<=hp.length) (oZ:aJ<hp.length) {X:St->Prop} (hX:∀ l H v,l.get 54=some v->X {loc:=l,ce:=[],hp:=H}=X {loc:=[(54,v)],ce:=[],hp:=H}):
  ∀ (vs:List Int) (l:Loc) (H:List PO) (pos:Nat) (done:List Str),f8 cg pos vs->(∀ v∈vs,v.natAbs.log2<1920)->l.get 54=some (.ref hp.length)->l.get 48=some (.ref aJ)->l.get 55=some (.ref (hp.length+1))->
   H[aJ]? =some (.list (aa cg))->H[hp.length]? =some (.list (d8 done))->H[hp.length+1]? =some (.lit aJ pos)->done.length+vs.length<=cg.length->aq hp H->
   (∀ H',aq hp H'->H'[hp.length]? =some (.list (d8 (done++vs.map tx)))->X {loc:=[(54,.ref hp.length)],ce:=[],hp:=H'})->
   iZ (iB (aA cx (cO A [(111,uG)])) Yd) (aF (aA cx (cO A [(111,uG)])) Oa) (cT (aA cx (cO A [(111,uG)])) (yu (A 111) KN) gq Oa) X (vs.length+1) {loc:=l,ce:=[],hp:=H}
 |vs,l,H,pos,done,hr,Kv,Go,I9,Ui,hL,hN,hI,hd,gr,kk=>by
  have Fc:done.length<=cg.length:=Zu (aaq _ _) hd
  have ld:(d8 done).length=done.length:=ZI ..
  repeat walk_at "o"
  refine cq hN (Zt (by rw[ld];exact f6 (Zu Fc ht) rfl) ?_)
  repeat walk_at "o"
  refine cq hL (Zt (by rw[ar];exact f6 ht rfl) ?_)
  refine Zt (decide_eq_true (by rw[ld,ar];exact aaf.mpr Fc)) ?_
  have iw:hp.length≠aJ:=aam oZ
  have n1:hp.length+1≠aJ:=aam (ZZ oZ)
  have n2:hp.length+1≠hp.length:=Nat.succ_ne_self _
  have g1:∀ o,aq hp (H.set (hp.length+1) o):=λo=>gr.set (Nat.le_succ _) (Nat.le_succ_of_le h2) λq e=>by rw[hI] at e;cases e
  cases vs with
  |nil=>
   refine Or.inl (Or.inl ?_)
   refine ax Go (Zt (e7 hN trivial) ?_)
   refine ax (G.g _ _ rfl) ?_
   refine Or.inl ?_
   refine ax (G.g _ _ rfl) ?_
   refine Or.inr ?_
   refine ax Ui ?_
   refine Zt rfl ⟨hp.length+1,aJ,pos,cg,rfl,hI,hL,aaO n1,hr,?_⟩
   show X _
   rw[hX _ _ _ Go]
   exact kk _ (g1 _) (by rw[List.map_nil,ZV];exact az hN n2)
  |cons v vs=>
   obtain⟨p',aE,hr⟩:=hr
   rw[ZL] at hd ⊢
   refine Or.inr ?_
   refine ax Go (Zt (e7 hN trivial) ?_)
   refine ax (G.g _ _ rfl) ?_
   refine ax (G.g _ _ rfl) ?_
   refine ax Ui ?_
   refine bP (Gm 111 uG) ⟨hp.length+1,aJ,pos,cg,v,p',rfl,hI,hL,aaO n1,aE,?_⟩
   have Uj:=az (o':=.lit aJ p') (j:=hp.length+1) hN n2
   refine Zt (Kv v (.head _)) ?_
   refine cq Uj (Zt (by rw[ld];exact f6 (Zu Fc ht) rfl) ?_)
   refine Zt rfl ?_
   rw[show d8 done++[PV.str (Str.ofString (toString v))]=d8 (done++[tx v]) from km done (tx v)]
   exact Gn G ht l2 h2 oZ hX vs l _ p' (done++[tx v]) hr (λx hx=>Kv x (.tail _ hx)) Go I9 Ui (az (az hL n1) iw) (d9 Uj _) (az (d9 hI _) (aaO n2)) (by rw[Zw,List.length_singleton,aaA,aao 1];exact hd) ((g1 _).set (ZA _) h2 λq e=>by rw[Uj] at e;cases e)
    λH' g' h'=>kk H' g' (by rw[h',ZH];rfl)
theorem D4 {P:ba} {σ:St} (h:cT (aA cx (cO A [(111,uG)])) (yu (A 111) KN) gq Gk (λbr=>match br.loc.get 54 with
   |some v=>P (.ret v) br
   |none=>False) σ):(aA cx (qo cx A)).SW 1 P σ:=by
 rw[<-A8,mS] at h
 exact h
theorem Ob (G:GG cx A) (Ye:∀ i j,101<=i->i<=120->101<=j->j<=120->A i=A j->i=j) {ps:List PV} {hp:List PO} {K:PV->List PO->Prop} (h:Gl ps hp K):
  bc (aA cx (qo cx A)) (am "_law_read") [48] [] [] (aQ "_law_read") ps hp K:=by
 obtain⟨aJ,cg,vs,rfl,hl,ht,hv,Kv,hr,l2,h2,k⟩:=h
 have oZ:=(Zv.mp hl).1
 have G1:=eY G (qo cx A)
 refine gI rfl oV (l:=[(48,.ref aJ)]) rfl ?_
 refine Zt (ZM _) ?_
 refine ax (G1.g _ _ rfl) ?_
 refine e7 (ac hl _) ?_
 refine Zt ⟨rfl,rfl,rfl⟩ ?_
 refine D4 ?_
 refine Or.inl ?_
 have e1:(hp++[PO.list []]).length=hp.length+1:=by rw[Zw];rfl
 refine⟨_,Gn (hp:=hp) (eY G _) ht l2 h2 oZ (λl H v e=>by dsimp only;rw[e];rfl) vs _ _ 0 [] hr Kv rfl rfl (congrArg (λz=>some (PV.ref z)) e1) (ac (ac hl _) _) (ac (af _ _) _) (by rw[<-e1];exact af _ _) (by rw[abi,aau];exact hv) ((aq.push _ _).trans (.push _ _)) λH' g' h'=>k H' _ g' (ZA _) h'⟩
end
noncomputable def spS:Spec:=λps hp K=>∃ (a b:Int) (N:Nat),ps=[.int a,.int b]/\N<=2000/\a.natAbs<2^N/\b.natAbs<2^N/\2<=hp.length/\fV hp/\
 (b=0->∀ aE,aq hp aE->K (.str (Str.ofString "none")) aE)/\
 (b≠0->(a.fdiv b).natAbs.log2<1920/\(a.fmod b).natAbs.log2<1920/\∀ aE i,aq hp aE->hp.length<=i->aE[i]? =some (.list (d8 [tx (a.fdiv b),tx (a.fmod b)]))->K (.ref i) aE)
theorem lp {id i:Nat} {H:List PO} {xs:List PV} {v:PV} (h:H[id]? =some (.tup xs)) (hv:xs[i]? =some v):bw (.tupi id i) H=some (some (v,.tupi id (i+1),H)):=by
 rw[bw,h];dsimp only;rw[hv]
theorem kr {id n:Nat} {H:List PO} {xs:List PV} (h:H[id]? =some (.tup xs)) (hn:n=xs.length):bw (.tupi id n) H=some none:=by
 rw[bw,h];dsimp only;rw[aaR (by exact la [_,_] [] [.e .v0 .v1] (.l .v1 .v0) (.f [1,0,1]) rfl hn)]
section
variable {cx:Cx} {A:Nat->Addr}
theorem Bb {P:ba} {σ:St} (h:aF (aA cx (cO A [(109,qn 2)])) uU P σ\/cT (aA cx (cO A [(109,qn 2)])) (yu (A 109) N6) gq uU (λbr=>P (.ret (.str (Str.ofString "none"))) {br with loc:=[]}) σ):(aA cx (lm cx A)).SW 1 P σ:=by
 rw[<-yt,mS,dW] at h
 exact h
theorem Oc (G:GG cx A) {ps:List PV} {hp:List PO} {K:PV->List PO->Prop} (h:spS ps hp K):
  bc (aA cx (lm cx A)) (am "_law_split") [65,66] [] [] (aQ "_law_split") ps hp K:=by
 obtain⟨a,b,N,rfl,hN,ha,hb,h2,T,k0,k1⟩:=h
 refine gI rfl nP (l:=[(66,.int b),(65,.int a)]) rfl ?_
 have G1:=eY G (lm cx A)
 have G:=eY G (cO A [(109,qn 2)])
 refine Zt ⟨rfl,rfl,rfl⟩ ?_
 refine Bb ?_
 by_cases z:b=0
 .subst z
  refine Or.inr (Or.inl (Zt rfl ?_))
  refine ax (G.g _ _ rfl) ?_
  exact Or.inr ⟨rfl,a,rfl,k0 rfl _ (.refl _)⟩
 .refine Or.inl ?_
  obtain⟨s1,s2,k1⟩:=k1 z
  refine ax (G.g _ _ rfl) ?_
  refine bP (Gm 109 _) (AX (c:=2) z hN ha hb h2 T λH t g gt ht=>?_)
  refine ax (G1.g _ _ rfl) ?_
  refine ax (G1.g _ _ rfl) ?_
  refine Zt rfl ?_
  refine G7 ht ?_
  refine Zt (λø=>?_) (λq=>nomatch q)
  refine Zt rfl ?_
  refine E9 ht ?_
  refine Exists.intro 3 ?_
  refine qT (lp ht rfl) ?_
  refine Zt (λø=>?_) (λq=>nomatch q)
  refine ax (G1.g _ _ rfl) ?_
  refine Zt s1 (Zt (ZM _) ?_)
  refine qT (lp ht rfl) ?_
  refine Zt (λø=>?_) (λq=>nomatch q)
  refine ax (G1.g _ _ rfl) ?_
  refine Zt s2 (Zt (by decide:(1:Nat)<=1000000) ?_)
  refine mO (kr ht rfl) ?_
  exact k1 _ _ (g.trans (.push _ _)) (Zu gt (Zx (Zv.mp ht).1)) (af _ _)
end
noncomputable def uV (v:Nat):List Nat:=if 4096<=v then[v/4096%64,v/64%64,v%64] else if 64<=v then[v/64%64,v%64] else[v%64]
noncomputable def fL (v:Nat):List Nat:=if 4096<=v then[64+v/4096%64,64+v/64%64,v%64] else if 64<=v then[64+v/64%64,v%64] else[v%64]
noncomputable def cr:List Nat->List Nat
 | []=>[]
 |v::r=>fL v++cr r
noncomputable def ks:Nat->List Nat->List Nat
 |_,[]=>[]
 |i,o::r=>(o+128*(i%2))::ks (i+1) r
noncomputable def fj (vs:List Nat):List Nat:=ks 0 (cr vs)
theorem Bc (v:Nat):(fL v).length<=3:=by unfold fL;split<;>(try split)<;>simp
theorem Bd (i:Nat) (u v:List Nat):ks i (u++v)=ks i u++ks (i+u.length) v:=by
 induction u generalizing i with
 |nil=>rfl
 |cons o u ih=>rw[aap,ks,ks,ih,ZL,aap,aaA,aao 1]
theorem kt (i:Nat) (u:List Nat):(ks i u).length=u.length:=by
 induction u generalizing i with
 |nil=>rfl
 |cons o u ih=>exact congrArg Nat.succ (ih _)
theorem lr (vs:List Nat):(cr vs).length<=3*vs.length:=by
 induction vs with
 |nil=>exact ZA 0
 |cons v r ih=>rw[cr,Zw,aao];exact aac ih (Bc v)
theorem qp (u v:List Nat):cr (u++v)=cr u++cr v:=by
 induction u with
 |nil=>rfl
 |cons x u ih=>rw[aap,cr,cr,ih,ZH]
noncomputable def Ja:Spec:=λps hp K=>∃ bT vs,ps=[.ref bT]/\hp[bT]? =some (.list (aa (ah vs)))/\vs.length<=100/\(∀ v∈vs,v<64^3)/\2<=bT/\2<=hp.length/\∀ aE i,aq hp aE->hp.length<=i->aE[i]? =some (.list (aa (ah (fj vs))))->K (.ref i) aE
theorem ta {id i:Nat} {H:List PO} {xs:List PV} {v:PV} (h:H[id]? =some (.list xs)) (hv:xs[i]? =some v):bw (.enm id i) H=some (some (.ref H.length,.enm id (i+1),H++[.tup [.int i,v]])):=by
 rw[bw,h];dsimp only;rw[hv]
theorem wT {id n:Nat} {H:List PO} {xs:List PV} (h:H[id]? =some (.list xs)) (hn:n=xs.length):bw (.enm id n) H=some none:=by
 rw[bw,h];dsimp only;rw[aaR (by exact la [_,_] [] [.e .v0 .v1] (.l .v1 .v0) (.f [1,0,1]) rfl hn)]
section
variable {cx:Cx} {A:Nat->Addr}
noncomputable abbrev Od:ca:=.cons (.bop .Or (.cons (.cmp .Eq (.loc 50 p0) (.int 0 p0) p0) (.cons (.cmp .GtE (.cel 49 p0) (.bin .Pow (.int 64 p0) (.loc 50 p0) p0) p0) .nil)) p0) .nil
noncomputable abbrev KQ:PE:=.bin .Mod (.bin .FloorDiv (.cel 49 p0) (.bin .Pow (.int 64 p0) (.loc 50 p0) p0) p0) (.int 64 p0) p0
theorem Oe:bl 64<=7:=dL (by decide)
theorem Gp {e:Nat} (he:e<=2):(bl 64:Int)*((e:Nat):Int)<=134217728:=by
 rw[<-aaB]
 exact aaf.mpr (Zu (Nat.mul_le_mul Oe he) (by decide))
theorem Jb (v e:Nat):((v:Int).fdiv (64^(e:Int).toNat)).fmod 64=((v/64^e%64:Nat):Int):=by
 rw[ZO,show(64:Int)^e=((64^e:Nat):Int) from(Int.natCast_pow 64 e).symm,eX,show(64:Int)=((64:Nat):Int) from rfl,cA]
theorem jq {K:List PV->St->Prop} {H:List PO} {ce:List (Nat×Nat)} {fi bA v e i n:Nat} {aD:List PV} (kc:look ce 49=some fi) (hc:H[fi]? =some (.cell (some (.int (v:Nat))))) (ht:H[bA]? =some (.tup [.int 2,.int 1,.int 0])) (hi:[PV.int 2,.int 1,.int 0][i]? =some (.int (e:Nat))) (he:e<=2) (ha:aD.length<=2)
  (kT:(e=0\/64^e<=v)->∀ l,bh (aN (.name 50 p0)) (cu cx Od) (aZ cx KQ) K n (.tupi bA (i+1)) (aD++[.int (v/64^e%64:Nat)]) {loc:=l,ce:=ce,hp:=H})
  (kF: ¬ (e=0\/64^e<=v)->∀ l,bh (aN (.name 50 p0)) (cu cx Od) (aZ cx KQ) K n (.tupi bA (i+1)) aD {loc:=l,ce:=ce,hp:=H}) (l:Loc):
  bh (aN (.name 50 p0)) (cu cx Od) (aZ cx KQ) K (n+1) (.tupi bA i) aD {loc:=l,ce:=ce,hp:=H}:=by
 have el:(e=0\/64^e<=v)->aZ cx KQ (λp cn=>aV aD.length/\bh (aN (.name 50 p0)) (cu cx Od) (aZ cx KQ) K n (.tupi bA (i+1)) (aD++[p]) cn) {loc:=l.set 50 (.int (e:Nat)),ce:=ce,hp:=H}:=λq=>by
  refine lQ kc (bG hc ?_)
  refine Zt (ZP e) (Zt (Gp he) ?_)
  refine Zt ?_ (Zt ?_ ?_)
  .rw[ZO];exact Int.ne_of_gt (Int.pow_pos (by decide))
  .rw[ZO]
   exact Zu (dL (n:=13) (ZW (Z3 (by decide) he) (by decide))) (by decide)
  refine Zt (by decide) ?_
  rw[Jb]
  exact Zt (f6 ha rfl) (kT q _)
 refine qT (lp ht hi) ?_
 refine Zt (λq=>?_) (λq0=>?_)
 .exact gY q (Zt (λø=>el (.inl (aaI (eq_of_beq q)))) λq=>nomatch q)
 .refine lQ kc (bG hc ?_)
  refine Zt (ZP e) (Zt (Gp he) ?_)
  have ez:e≠0:=λz=>by subst z;cases q0
  have V8:(64:Int)^(e:Int).toNat=((64^e:Nat):Int):=by rw[ZO];exact(Int.natCast_pow 64 e).symm
  refine Zt (λq=>?_) (λq=>?_)
  .have q1:=of_decide_eq_true q
   rw[V8] at q1
   exact gY q (Zt (λø=>el (.inr (aaf.mp q1))) λq=>nomatch q)
  .have q1:=of_decide_eq_false q
   rw[V8] at q1
   exact Zt (λq=>nomatch q) λø=>Zt (λq=>nomatch q) λø=>kF (λz=>z.elim ez λz=>q1 (aaf.mpr z)) _
theorem Jc (G:GG cx A) {K:List PV->St->Prop} {H:List PO} {ce:List (Nat×Nat)} {fi bA v:Nat} (kc:look ce 49=some fi) (hc:H[fi]? =some (.cell (some (.int (v:Nat))))) (ht:H[bA]? =some (.tup [.int 2,.int 1,.int 0])) (hv:v<64^3) (k:∀ l,K (aa (ah (uV v))) {loc:=l,ce:=ce,hp:=H}):
  ∃ n,bh (aN (.name 50 p0)) (cu cx Od) (aZ cx KQ) K n (.tupi bA 0) [] {loc:=[],ce:=ce,hp:=H}:=by
 unfold uV at k
 have m0:v/64^0%64=v%64:=by rw[Nat.pow_zero,Nat.div_one]
 refine⟨4,jq (e:=2) kc hc ht rfl (by decide) (Zz rfl) (λc2=>?_) (λc2=>?_) _⟩
 .have c2:4096<=v:=c2.elim (λq=>nomatch q) id
  rw[if_pos c2] at k
  refine jq (e:=1) kc hc ht rfl (by decide) (Zz rfl) (λø=>?_) (λc1=>absurd (.inr (show 64<=v by exact la [_] [] [.l (.n 4096) .v0] (.l (.n 64) .v0) (.f [1,1]) rfl c2)) c1)
  refine jq (e:=0) kc hc ht rfl (by decide) (Zz rfl) (λø l=>?_) (λc1=>absurd (.inl rfl) c1)
  rw[m0]
  exact mO (kr ht rfl) (k _)
 .have c2: ¬ 4096<=v:=λq=>c2 (.inr q)
  rw[if_neg c2] at k
  refine jq (e:=1) kc hc ht rfl (by decide) (Zz rfl) (λc1=>?_) (λc1=>?_)
  .have c1:64<=v:=c1.elim (λq=>nomatch q) id
   rw[if_pos c1] at k
   refine jq (e:=0) kc hc ht rfl (by decide) (Zz rfl) (λø l=>?_) (λc1=>absurd (.inl rfl) c1)
   rw[m0]
   exact mO (kr ht rfl) (k _)
  .rw[if_neg λq=>c1 (.inr q)] at k
   refine jq (e:=0) kc hc ht rfl (by decide) (Zz rfl) (λø l=>?_) (λc1=>absurd (.inl rfl) c1)
   rw[m0]
   exact mO (kr ht rfl) (k _)
end
section
variable {cx:Cx} {A:Nat->Addr}
theorem D5 {xs ys:List PV} {lo hi st:Option Int} {ix:List Nat} (h:sliceRange (sliceBounds lo hi st xs.length).1 (sliceBounds lo hi st xs.length).2.1 (sliceBounds lo hi st xs.length).2.2=ix) (h2:ix.filterMap (xs[.]?)=ys):cG xs lo hi st=ys:=by
 unfold cG
 rw[h];exact h2
theorem wU (a:PV):cG [a] none (some (-1)) none=[]/\cG [a] (some (-1)) none none=[a]:=⟨D5 (ix:=[]) (by show sliceRange (sliceBounds none (some (-1)) none 1).1 (sliceBounds none (some (-1)) none 1).2.1 (sliceBounds none (some (-1)) none 1).2.2=_;decide) rfl,D5 (ix:=[0]) (by show sliceRange (sliceBounds (some (-1)) none none 1).1 (sliceBounds (some (-1)) none none 1).2.1 (sliceBounds (some (-1)) none none 1).2.2=_;decide) rfl⟩
theorem tc (a b:PV):cG [a,b] none (some (-1)) none=[a]/\cG [a,b] (some (-1)) none none=[b]:=⟨D5 (ix:=[0]) (by show sliceRange (sliceBounds none (some (-1)) none 2).1 (sliceBounds none (some (-1)) none 2).2.1 (sliceBounds none (some (-1)) none 2).2.2=_;decide) rfl,D5 (ix:=[1]) (by show sliceRange (sliceBounds (some (-1)) none none 2).1 (sliceBounds (some (-1)) none none 2).2.1 (sliceBounds (some (-1)) none none 2).2.2=_;decide) rfl⟩
theorem td (a b c:PV):cG [a,b,c] none (some (-1)) none=[a,b]/\cG [a,b,c] (some (-1)) none none=[c]:=⟨D5 (ix:=[0,1]) (by show sliceRange (sliceBounds none (some (-1)) none 3).1 (sliceBounds none (some (-1)) none 3).2.1 (sliceBounds none (some (-1)) none 3).2.2=_;decide) rfl,D5 (ix:=[2]) (by show sliceRange (sliceBounds (some (-1)) none none 3).1 (sliceBounds (some (-1)) none none 3).2.1 (sliceBounds (some (-1)) none none 3).2.2=_;decide) rfl⟩
theorem Of (G:GG cx A) {K:List PV->St->Prop} {H:List PO} {ce:List (Nat×Nat)} {fx:Nat} {xs:List Nat} (hr:H[fx]? =some (.list (aa (ah xs)))) (hs:xs.length<=1000) (k:∀ l,K (aa (ah (xs.map (64+.)))) {loc:=l,ce:=ce,hp:=H}):
  ∃ n,bh (aN (.name 51 p0)) (cu cx .nil) (aZ cx (.bin .Add (.int 64 p0) (.loc 51 p0) p0)) K n (.lst fx 0) [] {loc:=[],ce:=ce,hp:=H}:=by
 refine c9 xs.length (λi=>.lst fx i) (λi aD σ=>∃ l,σ={loc:=l,ce:=ce,hp:=H}/\aD=aa (ah ((xs.take i).map (64+.)))) ?_ ?_ ⟨[],rfl,rfl⟩
 .rintro i aD σ hi ⟨l,rfl,rfl⟩
  obtain⟨x,hx⟩:=dM rfl hi
  refine⟨.int (x:Nat),_,dz hr (bJ hx),λagain dZ=>?_⟩
  refine Zt (λø=>?_) (λq=>nomatch q)
  refine Zt ?_ (dZ _ _ ⟨_,rfl,?_⟩)
  .rw[ar,aG,ZI,Z6]
   exact Zu (aaQ ..) (Zu hs (by decide))
  .rw[aaj,hx,Option.toList_some,ZT]
   exact cR _ (64+x)
 .rintro aD σ ⟨l,rfl,rfl⟩
  exact⟨eN hr (by rw[ar,aG]),by rw[aay];exact k l⟩
theorem Jd (G:GG cx A) {K:List PV->St->Prop} {hp H:List PO} {ce:List (Nat×Nat)} {fx:Nat} {xs:List Nat} (hr:H[fx]? =some (.list (aa (ah xs)))) (hs:xs.length<=1000) (hx:∀ x∈xs,x<1000) (gr:aq hp H) (k:∀ l H',aq hp H'->K (aa (ah (ks 0 xs))) {loc:=l,ce:=ce,hp:=H'}):
  ∃ n,bh (aN (.tup [(53,p0),(52,p0)] 0 p0)) (λQ=>Q true) (aZ cx (.bin .Add (.loc 52 p0) (.bin .Mult (.int 128 p0) (.bin .Mod (.loc 53 p0) (.int 2 p0) p0) p0) p0)) K n (.enm fx 0) [] {loc:=[],ce:=ce,hp:=H}:=by
 refine c9 xs.length (λi=>.enm fx i) (λi aD σ=>∃ l H',σ={loc:=l,ce:=ce,hp:=H'}/\aD=aa (ah (ks 0 (xs.take i)))/\H'[fx]? =some (.list (aa (ah xs)))/\aq hp H') ?_ ?_ ⟨[],H,rfl,rfl,hr,gr⟩
 .rintro i aD σ hi ⟨l,H',rfl,rfl,hr,gr⟩
  obtain⟨x,hx⟩:=dM rfl hi
  have hm:(i:Int).fmod 2=((i%2:Nat):Int):=cA i 2
  have b2:bl ((i%2:Nat):Int)<=2:=gu (aaJ (Z5 i (by decide)) (by decide))
  refine⟨_,_,ta hr (bJ hx),λagain dZ=>?_⟩
  refine j6 (af _ _) (Zt rfl ?_)
  refine Zt (λø=>?_) (λq=>nomatch q)
  refine Zt (by decide) ?_
  rw[hm]
  refine Zt (eB (dL (x:=128) (n:=8) (by decide)) b2 (by decide)) ?_
  refine Zt ?_ (dZ _ _ ⟨_,_,rfl,?_,ac hr _,gr.trans (.push _ _)⟩)
  .rw[ar,aG,kt,Z6]
   exact Zu (aaQ ..) (Zu hs (by decide))
  .rw[aaj,hx,Option.toList_some,Bd,Z6,aau,Nat.min_eq_left (Zx hi),ks,ks,<-cR,abc,aaB]
   rfl
 .rintro aD σ ⟨l,H',rfl,rfl,hr,gr⟩
  exact⟨wT hr (by rw[ar,aG]),by rw[aay];exact k l H' gr⟩
theorem D6 (v:Nat):∃ u w,cG (aa (ah (uV v))) none (some (-1)) none=aa (ah u)/\cG (aa (ah (uV v))) (some (-1)) none none=aa (ah w)/\u.map (64+.)++w=fL v/\u.length<=2/\w.length<=1/\(uV v).length<=3:=by
 unfold uV fL
 by_cases h:4096<=v
 .rw[if_pos h,if_pos h]
  exact⟨[v/4096%64,v/64%64],[v%64],(td _ _ _).1,(td _ _ _).2,rfl,by simp,by simp,by simp⟩
 .rw[if_neg h,if_neg h]
  by_cases h2:64<=v
  .rw[if_pos h2,if_pos h2]
   exact⟨[v/64%64],[v%64],(tc _ _).1,(tc _ _).2,rfl,by simp,by simp,by simp⟩
  .rw[if_neg h2,if_neg h2]
   exact⟨[],[v%64],(wU _).1,(wU _).2,rfl,by simp,by simp,by simp⟩
theorem D7 (v:Nat):∀ x∈fL v,x<128:=by
 intro x hx
 unfold fL at hx
 split at hx
 .simp at hx;exact la [_,_] [] [.r (.e .v0 (.a (.n 64) (.r (.d .v1 4096) 64))) (.r (.e .v0 (.a (.n 64) (.r (.d .v1 64) 64))) (.e .v0 (.r .v1 64)))] (.t .v0 (.n 128)) (.k true (.r (.d .v1 4096) 64) (.k true (.d .v1 4096) (.k true (.d (.d .v1 4096) 64) (.k true (.r (.d .v1 64) 64) (.k true (.d .v1 64) (.k true (.d (.d .v1 64) 64) (.k true (.r .v1 64) (.o 0 (.f [0,1,0,0,0,0,0,0,0,0,0,0,0,0,0,0,0,0,0,0,1,0,1]) (.o 0 (.f [0,1,0,0,0,0,0,0,0,0,0,0,1,0,0,0,0,0,0,0,0,0,1]) (.f [0,1,0,0,1,0,0,0,0,0,0,0,0,0,0,0,0,0,0,0,0,0,1])))))))))) rfl hx
 .split at hx
  .simp at hx;exact la [_,_] [] [.r (.e .v0 (.a (.n 64) (.r (.d .v1 64) 64))) (.e .v0 (.r .v1 64))] (.t .v0 (.n 128)) (.k true (.r (.d .v1 64) 64) (.k true (.d .v1 64) (.k true (.d (.d .v1 64) 64) (.k true (.r .v1 64) (.o 0 (.f [0,1,0,0,0,0,0,0,0,0,0,0,1,0,1]) (.f [0,1,0,0,1,0,0,0,0,0,0,0,0,0,1])))))) rfl hx
  .simp at hx;exact la [_,_] [] [.e .v0 (.r .v1 64)] (.t .v0 (.n 128)) (.k true (.r .v1 64) (.f [0,0,1,0,0,1,1])) rfl hx
theorem n9 (vs:List Nat):∀ x∈cr vs,x<128:=by
 induction vs with
 |nil=>exact nofun
 |cons v r ih=>exact λx h=>(Z1.mp h).elim (D7 v x) (ih x)
noncomputable def Yf (vs:List Nat) (bT:Nat) (hp:List PO) (i:Nat) (σ:St):Prop:=∀ C:Prop,(∀ (l:Loc) (H:List PO) (w:Option PV),σ={loc:=l,ce:=[(49,hp.length)],hp:=H}->l.get 48=some (.ref (hp.length+1))->H[hp.length]? =some (.cell w)->H[bT]? =some (.list (aa (ah vs)))->H[hp.length+1]? =some (.list (aa (ah (cr (vs.take i)))))->aq hp H->C)->C
theorem Je (X u w y:List Nat) (h:u++w=y):aa (ah X)++(aa (ah u)++aa (ah w))=aa (ah (X++y)):=by
 subst h
 unfold aa ah
 rw[ZT,ZT,ZT,ZT]
theorem Og (G:GG cx A) {ps:List PV} {hp:List PO} {K:PV->List PO->Prop} (h:Ja ps hp K):
  bc cx (am "_law_tape") [47] [49] [] (aQ "_law_tape") ps hp K:=by
 obtain⟨bT,vs,rfl,hn,hl,hv,n2,h2,k⟩:=h
 refine⟨rfl,?_⟩
 rw[<-dW,oU]
 refine(?_:aF cx nN (cW K) {loc:=[(47,.ref bT)],ce:=[(49,hp.length)],hp:=hp++[.cell none]})
 have Oh:=(Zv.mp hn).1
 have e1:(hp++[PO.cell none]).length=hp.length+1:=by rw[Zw];rfl
 have Yg:hp.length≠bT:=aam Oh
 have V9:hp.length≠hp.length+1:=Z7 (Z0 _)
 have Yh:hp.length+1≠bT:=aam (ZZ Oh)
 refine Zt (ZM _) ?_
 refine il (ac (ac hn _) _) ?_
 refine fI vs.length (λi=>.lst bT i) (Yf vs bT hp) ?_ ?_ λC c=>c _ _ _ rfl (congrArg (λz=>some (PV.ref z)) e1) (ac (af _ _) _) (ac (ac hn _) _) (by rw[<-e1];exact af _ _) ((aq.push _ _).trans (.push _ _))
 .intro i σ hi I
  refine I _ λl H w e I9 hc hN hT gr=>?_
  subst e
  obtain⟨v,Uk⟩:=dM rfl hi
  refine⟨_,_,dz hN (bJ Uk),λagain dZ=>?_⟩
  have Yi:v<64^3:=hv _ (ZE Uk)
  have hC:=d9 hc (.cell (some (.int (v:Nat))))
  have Ul:=az (o':=.cell (some (.int (v:Nat)))) hN Yg
  have PY:=az (o':=.cell (some (.int (v:Nat)))) hT V9
  have KJ:=gr.set (o:=.cell (some (.int (v:Nat)))) (ZA _) h2 λq e=>by rw[hc] at e;cases e
  refine gX hc ?_
  generalize H.set hp.length (.cell (some (.int (v:Nat))))=H1 at*
  refine Zt rfl ?_
  refine Zt (by decide:(3:Nat)<=1000000) ?_
  refine E9 (af _ _) ?_
  refine Jc (ce:=[(49,hp.length)]) (fi:=hp.length) (v:=v) G rfl (ac hC _) (af _ _) Yi λl'=>?_
  obtain⟨u,w',e1,e2,e3,q1,q2,q3⟩:=D6 v
  have s1:aV (aa (ah (uV v))).length:=by rw[ar,aG];exact f6 q3 rfl
  refine ax I9 ?_
  refine Zt (e7 (ac (ac PY _) _) trivial) ?_
  refine Zt rfl ?_
  refine pD (af _ _) (Zt (λq=>nomatch q) (Zt s1 ?_))
  rw[e1]
  refine il (af _ _) ?_
  refine Of G (af _ _) (Zu q1 (by decide)) λTd=>?_
  refine pD (ac (ac (af _ _) _) _) (Zt (λq=>nomatch q) (Zt s1 ?_))
  rw[e2]
  have lT:(aa (ah (cr (vs.take i)))).length<=300:=by
   rw[ar,aG]
   refine Zu (lr _) (aa3 3 (Zu ?_ hl))
   rw[Z6]
   exact aaQ ..
  have l1:(aa (ah (u.map (64+.)))).length+(aa (ah w')).length<=3:=by rw[ar,aG,ar,aG,ZI];exact aac q1 q2
  refine lS (ac (af _ _) _) (af _ _) (Zt (f6 l1 rfl) ?_)
  refine Le (ac (ac (ac (ac (ac (ac PY _) _) _) _) _) _) (af _ _) (Zt (f6 (aac lT (by rw[Zw];exact l1)) rfl) ?_)
  rw[Je _ _ _ _ e3,<-show cr (vs.take (i+1))=cr (vs.take i)++fL v by rw[aaj,Uk,Option.toList_some,qp,cr,cr,ZV]]
  exact dZ _ λC c=>c _ _ _ rfl I9 (az (ac (ac (ac (ac (ac (ac hC _) _) _) _) _) _) (aaO V9)) (az (ac (ac (ac (ac (ac (ac Ul _) _) _) _) _) _) Yh) (d9 (ac (ac (ac (ac (ac (ac PY _) _) _) _) _) _) _)
   (((((((KJ.trans (.push _ _)).trans (.push _ _)).trans (.push _ _)).trans (.push _ _)).trans (.push _ _)).trans (.push _ _)).set (Nat.le_succ _) (Nat.le_succ_of_le h2) λq e=>by rw[ac (ac (ac (ac (ac (ac PY _) _) _) _) _) _] at e;cases e)
 .intro σ I
  refine I _ λl H w e I9 hc hN hT gr=>?_
  subst e
  rw[aay] at hT
  refine⟨eN hN (by rw[ar,aG]),?_⟩
  refine Zt G.en (Zt rfl ?_)
  refine ax I9 ?_
  refine e7 hT ?_
  refine Jd (hp:=hp) G hT (Zu (lr vs) (Zu (aa3 3 hl) (by decide))) (λx hx=>aaJ (n9 vs x hx) (by decide)) gr λl' H' g'=>?_
  exact k _ _ (g'.trans (.push _ _)) g'.le (af _ _)
end
noncomputable abbrev d5:=Nat->Nat->Int
noncomputable def gv (M:d5) (i:Nat):List Int:=(List.range 5).map (M i)
noncomputable def eH (M:d5) (i j:Nat) (v:Int):d5:=λa b=>if a=i/\b=j then v else M a b
theorem ku (M:d5) (i:Nat):(aa (gv M i)).length=5:=by simp [aa,gv]
theorem wV (M:d5) (i:Nat) {j:Nat} (h:j<5):(aa (gv M i))[j]? =some (.int (M i j)):=by
 rw[gL]
 unfold gv
 rw[Z9,List.getElem?_range h]
 rfl
theorem Be (M:d5) (i:Nat) {j:Nat} (h:j<5) (v:Int):(aa (gv M i)).set j (.int v)=aa (gv (eH M i j v) i):=by
 rw[h8]
 congr 1
 unfold gv eH
 apply List.ext_getElem
 .simp
 .intro n h1 h2
  simp at h1
  rw[List.getElem_set]
  simp
  by_cases q:j=n
  .subst q;simp
  .rw[if_neg q,if_neg λz=>q z.symm]
theorem uW (M:d5) {i i':Nat} (h:i'≠i) (j:Nat) (v:Int):gv (eH M i j v) i'=gv M i':=by
 unfold gv eH
 apply List.map_congr_left
 intro n _
 rw[if_neg λq=>h q.1]
structure ci (H:List PO) (t:Nat) (rs:List Nat) (M:d5):Prop where
 len:rs.length=5
 nd:rs.Nodup
 hd:H[t]? =some (.list (rs.map .ref))
 row:∀ i,i<5->H[rs.getD i 0]? =some (.list (aa (gv M i)))
theorem ci.refs {H:List PO} {t:Nat} {rs:List Nat} {M:d5} (m:ci H t rs M) {i:Nat} (h:i<5):(rs.map PV.ref)[i]? =some (.ref (rs.getD i 0)):=by
 rw[Z9,ZC,ZB (by rw[m.len];exact h)];rfl
theorem ci.mem {H:List PO} {t:Nat} {rs:List Nat} {M:d5} (m:ci H t rs M) {i:Nat} (h:i<5):rs.getD i 0∈rs:=by
 rw[ZC,ZB (by rw[m.len];exact h)]
 exact List.getElem_mem _
theorem ci.keep {H H':List PO} {t:Nat} {rs:List Nat} {M:d5} (m:ci H t rs M) (k:∀ (i:Nat) o,(i=t\/i∈rs)->H[i]? =some o->H'[i]? =some o):ci H' t rs M:=
 ⟨m.len,m.nd,k _ _ (.inl rfl) m.hd,λi h=>k _ _ (.inr (m.mem h)) (m.row i h)⟩
theorem ci.push {H:List PO} {t:Nat} {rs:List Nat} {M:d5} (m:ci H t rs M) (o:PO):ci (H++[o]) t rs M:=m.keep λø ø ø e=>ac e o
theorem ci.grow {H H':List PO} {t:Nat} {rs:List Nat} {M:d5} (m:ci H t rs M) (g:aq H H') (ht:2<=t) (hr:∀ r∈rs,2<=r):ci H' t rs M:=
 m.keep λi o h e=>g.keep i o (by rcases h with rfl|h;exact ht;exact hr i h) e
theorem Bf {rs:List Nat} (nd:rs.Nodup) {i j:Nat} (hi:i<rs.length) (hj:j<rs.length) (h:rs.getD i 0=rs.getD j 0):i=j:=by
 rw[ZC,ZC,ZB hi,ZB hj] at h
 exact(List.getElem?_inj hi nd).mp ((ZB hi).trans ((congrArg some h).trans (ZB hj).symm))
theorem ci.set {H:List PO} {t:Nat} {rs:List Nat} {M:d5} (m:ci H t rs M) {i j:Nat} (hi:i<5) (hj:j<5) (ht:t∉rs) (v:Int):ci (H.set (rs.getD i 0) (.list ((aa (gv M i)).set j (.int v)))) t rs (eH M i j v):=by
 refine⟨m.len,m.nd,az m.hd λq=>ht (by rw[<-q];exact m.mem hi),λa ha=>?_⟩
 by_cases q:a=i
 .subst q
  rw[Be M a hj]
  exact d9 (m.row a ha) _
 .rw[uW M q]
  exact az (m.row a ha) λz=>q (Bf m.nd (by rw[m.len];exact ha) (by rw[m.len];exact hi) z.symm)
theorem ci.other {H:List PO} {t:Nat} {rs:List Nat} {M:d5} (m:ci H t rs M) {x:Nat} (h1:x≠t) (h2:x∉rs) (o:PO):ci (H.set x o) t rs M:=
 m.keep λi o' h e=>az e λq=>by
  subst q
  rcases h with h|h
  .exact h1 h
  .exact h2 h
noncomputable def fk (b:Nat):List Nat:=[b+1,b+3,b+5,b+7,b+9]
theorem te (b:Nat):(fk b).Nodup:=by simp [fk]
section
variable {cx:Cx} {A:Nat->Addr}
noncomputable def Yj (v:Int) (ce:List (Nat×Nat)) (hp H:List PO) (i:Nat) (aD:List PV) (σ:St):Prop:=∀ C:Prop,(∀ (l:Loc) (H':List PO),σ={loc:=l,ce:=ce,hp:=H'}->aD=((fk H.length).take i).map .ref->aq hp H'->aq H H'->(∀ (i:Nat) o,H[i]? =some o->H'[i]? =some o)->H'.length=H.length+2*i->(∀ a,a<i->H'[H.length+(2*a+1)]? =some (.list (aa (gv (λø ø=>v) 0))))->C)->C
theorem uX (n i:Nat) (h:i<5):((fk n).take i).map PV.ref++[.ref (n+(2*i+1))]=((fk n).take (i+1)).map PV.ref:=by
 rcases i with _|_|_|_|_|i<;>first|rfl|exact absurd (Nat.lt_of_add_lt_add_right (n:=5) (m:=0) h) (Nat.not_lt_zero _)
theorem Bg (n i:Nat) (h:i<5):(fk n).getD i 0=n+(2*i+1):=by
 rcases i with _|_|_|_|_|i<;>first|rfl|exact absurd (Nat.lt_of_add_lt_add_right (n:=5) (m:=0) h) (Nat.not_lt_zero _)
theorem wW (G:GG cx A) {v:Int} {K:List PV->St->Prop} {hp H:List PO} {ce:List (Nat×Nat)} (gr:aq hp H)
  (k:∀ l H',aq hp H'->aq H H'->(∀ (i:Nat) o,H[i]? =some o->H'[i]? =some o)->H'.length=H.length+10->(∀ i,i<5->H'[(fk H.length).getD i 0]? =some (.list (aa (gv (λø ø=>v) i))))->K ((fk H.length).map .ref) {loc:=l,ce:=ce,hp:=H'}):
  ∃ n,bh (aN (.name 73 p0)) (cu cx .nil) (aZ cx (.bin .Mult (.list (.cons (.int v p0) .nil) p0) (.int 5 p0) p0)) K n (.rng 0 1 5 0) [] {loc:=[],ce:=ce,hp:=H}:=by
 refine c9 5 (λi=>.rng 0 1 5 i) (Yj v ce hp H) ?_ ?_ λC c=>c [] H rfl rfl gr (.refl _) (λø ø e=>e) rfl λa ha=>nomatch ha
 .intro i aD σ hi I
  refine I _ λl H' e ea g1 g2 kp cb uY=>?_
  subst e;subst ea
  refine⟨_,_,dY hi,λagain dZ=>?_⟩
  refine Zt (λø=>?_) (λq=>nomatch q)
  refine Zt (by decide:(1:Nat)<=1000000) ?_
  refine E8 (af _ _) (Zt (by decide) (Zt (by decide:(5:Nat)<=1000000) (Zt (by decide) ?_)))
  refine Zt ?_ ?_
  .rw[ZI,Z6]
   exact Zu (aaQ ..) (by decide:(5:Nat)<=1000000)
  have Oi:(H'++[PO.list [PV.int v]]).length=H.length+(2*i+1):=by rw[Zw,cb];rfl
  refine dZ _ _ λC c=>c _ (H'++[PO.list [PV.int v]]++[PO.list (aa (gv (λø ø=>v) 0))]) rfl ?_ ((g1.trans (.push _ _)).trans (.push _ _)) ((g2.trans (.push _ _)).trans (.push _ _)) (λi o e=>ac (ac (kp i o e) _) _) ?_ λa ha=>?_
  .show _++[PV.ref (H'++[PO.list [PV.int v]]).length]=_
   rw[Oi];exact uX _ i hi
  .rw[Zw,Oi];rfl
  .rcases aav (Nat.le_of_lt_succ ha) with q|q
   .exact ac (ac (uY a q) _) _
   .subst q
    rw[<-Oi]
    exact af _ _
 .intro aD σ I
  refine I _ λl H' e ea g1 g2 kp cb uY=>?_
  subst e;subst ea
  exact⟨dj,k l H' g1 g2 kp cb λi hi=>by rw[Bg _ i hi];exact uY i hi⟩
end
theorem Jf (c:Char):c.toNat<0x110000:=by
 have:=c.valid
 simp only[UInt32.isValidChar,Nat.isValidChar] at this
 show c.val.toNat<_
 exact la [_] [] [.r (.t .v0 (.n 55296)) (.a (.t (.n 57343) .v0) (.t .v0 (.n 1114112)))] (.t .v0 (.n 1114112)) (.o 0 (.f [1,1]) (.f [1,0,1])) rfl this
theorem dO (s:String):PyData.strOk (Str.ofString s)=true:=by
 unfold PyData.strOk
 rw[Str.ofString_eq_toList]
 simp only[List.all_toArray,ZU,aal,decide_eq_true_eq]
 rintro x ⟨c,_,rfl⟩
 exact Jf c
theorem D8 (l:List Str):(∀ s∈l,PyData.strOk s=true)->vr (d8 l):=by
 induction l with
 |nil=>exact λø=>trivial
 |cons s l ih=>exact λh=>⟨h s (.head _),ih λx hx=>h x (.tail _ hx)⟩
theorem th (a b:List Str) (ha:a≠[]):oI (d8 a) (d8 b)=some (!decide (a=b)):=by
 unfold oI
 have:cS (d8 a)=none:=by
  cases a with
  |nil=>exact absurd rfl ha
  |cons s l=>rfl
 rw[this,ia,ia]
theorem Bh (d b r:Int) (hb:b≠0):(d*b+r.fmod b).fdiv b=d/\(d*b+r.fmod b).fmod b=r.fmod b:=by
 have h1:(r.fmod b).fdiv b=0:=by
  have e:=aaW (r.fmod b) b
  rw[Int.fmod_fmod] at e
  have:b*(r.fmod b).fdiv b=0:=by exact la [] [_,_] [.E (.a .V0 .V1) .V1] (.E .V0 .n0) (.o 0 (.f [1,1]) (.f [1,0,1])) rfl e
  rcases Int.mul_eq_zero.mp this with q|q
  .exact absurd q hb
  .exact q
 refine⟨?_,?_⟩
 .rw[Int.add_comm,Int.add_mul_fdiv_right _ _ hb,h1];exact la [] [_] [] (.E (.a .n0 .V0) .V0) (.o 0 (.f [1]) (.f [1])) rfl
 .rw[Int.add_comm,Int.add_mul_fmod_self_right,Int.fmod_fmod]
theorem Bi {a b:Int} {n:Nat} (ha:a.natAbs<2^n) (hb:b.natAbs<2^n):(a*b).natAbs<2^(2*n):=by
 rw[Int.natAbs_mul,Nat.two_mul,Nat.pow_add]
 exact Nat.mul_lt_mul_of_lt_of_le ha (Zx hb) (ZW (ZM _) hb)
theorem qq {a b c d:Int} {n:Nat} (ha:a.natAbs<2^n) (hb:b.natAbs<2^n) (hc:c.natAbs<2^n) (hd:d.natAbs<2^n):(a*b-c*d).natAbs<2^(2*n+1):=by
 have h1:=Bi ha hb
 have h2:=Bi hc hd
 rw[Nat.pow_succ]
 generalize 2^(2*n)=X at*
 exact la [_] [_,_] [.t (.b .V0) .v0,.t (.b .V1) .v0] (.t (.b (.s .V0 .V1)) (.M .v0 2)) (.k true (.b .V1) (.o 0 (.k true (.b .V0) (.o 0 (.k true (.b (.s .V0 .V1)) (.o 0 (.f [0,1,0,1,0,0,0,0,1,0,2,1]) (.f [0,1,0,0,0,1,1,0,0,1,1,1]))) (.k true (.b (.s .V0 .V1)) (.o 0 (.f [0,1,0,0,0,1,0,0,1,0,2,1]) (.f [0,1,0,1,0,0,1,0,0,1,1,1]))))) (.k true (.b .V0) (.o 0 (.k true (.b (.s .V0 .V1)) (.o 0 (.f [0,1,0,1,0,0,1,0,0,1,1,1]) (.f [0,1,0,0,0,1,0,0,1,0,2,1]))) (.k true (.b (.s .V0 .V1)) (.o 0 (.f [0,1,0,0,0,1,1,0,0,1,1,1]) (.f [0,1,0,1,0,0,0,0,1,0,2,1]))))))) rfl h1 h2
theorem D9 {a b:Int} {n:Nat} (hb:b.natAbs<2^n) (h:b≠0):(a.fmod b).natAbs<2^n:=by
 refine ZD ?_ (Zx hb)
 rcases Int.lt_or_gt_of_ne h with h|h
 .rw[<-wP (a:=a) (b:=b)]
  have h1:=aaN (-a) (show 0< -b by exact la [] [_] [.T .V0 .n0] (.T .n0 (.g .V0)) (.f [1,1]) rfl h)
  have h2:=Int.fmod_lt_of_pos (-a) (show 0< -b by exact la [] [_] [.T .V0 .n0] (.T .n0 (.g .V0)) (.f [1,1]) rfl h)
  exact la [] [_,_] [.L .n0 .V0,.T .V0 (.g .V1)] (.t (.b (.g .V0)) (.b .V1)) (.k true (.b (.g .V0)) (.o 0 (.k true (.b .V1) (.o 0 (.f [0,0,1,0,0,0,1,1]) (.f [1,0,0,0,1,0,1,2,1]))) (.k true (.b .V1) (.o 0 (.f [0,0,1,0,0,1,1]) (.f [1,0,0,0,1,0,1,0,1]))))) rfl h1 h2
 .have h1:=aaN a h
  have h2:=Int.fmod_lt_of_pos a h
  exact la [] [_,_] [.L .n0 .V0,.T .V0 .V1] (.t (.b .V0) (.b .V1)) (.k true (.b .V0) (.o 0 (.k true (.b .V1) (.o 0 (.f [1,0,0,0,1,0,1,0,1]) (.f [0,0,1,0,0,1,1]))) (.k true (.b .V1) (.o 0 (.f [1,0,0,0,1,0,1,2,1]) (.f [0,0,1,0,0,0,1,1]))))) rfl h1 h2
noncomputable def wX (T:Nat->d5):Nat->Int
 |0=>1
 |k+1=>T k k k
noncomputable def Oj (T:Nat->d5) (k i j:Nat):Int:=T k k k*T k i j-T k i k*T k k j
structure uZ (P L:List Nat) (q:Int) (T:Nat->d5):Prop where
 lo:∀ k i j,k<2->k<j->j<=i->i<5->T (k+1) i j=Oj T k i j/\T (k+1) j i=Oj T k i j
 hi:∀ k i j,2<=k->k<4->k<j->j<=i->i<5->T (k+1) i j=gM P L q i j k/\T (k+1) j i=gM P L q i j k/\(wX T k≠0->Oj T k i j=gM P L q i j k*wX T k)
 bd:∀ k i j,k<5->i<5->j<5->(T k i j).natAbs<2^400
theorem Ok {P L:List Nat} {q:Int} {T:Nat->d5} (h:uZ P L q T) {k:Nat} (hk:k<4):(wX T k).natAbs<2^400:=by
 cases k with
 |zero=>show(1:Int).natAbs<_;exact Nat.one_lt_two_pow (by decide)
 |succ k=>exact h.bd k k k (by exact la [_] [] [.t (.a .v0 .n1) (.n 4)] (.t .v0 (.n 5)) (.f [1,1]) rfl hk) (by exact la [_] [] [.t (.a .v0 .n1) (.n 4)] (.t .v0 (.n 5)) (.f [1,1]) rfl hk) (by exact la [_] [] [.t (.a .v0 .n1) (.n 4)] (.t .v0 (.n 5)) (.f [1,1]) rfl hk)
noncomputable def tj (H:List PO) (t:Nat) (rs:List Nat) (k:Nat) (T:d5):Prop:=∃ M,ci H t rs M/\∀ a b,k<=a->a<5->k<=b->b<5->M a b=T a b
noncomputable def toS:Spec:=λps hp K=>∃ bA rs aS aJ q dr P L T,ps=[.ref bA,.ref aS,.ref aJ,.int q,.int (dr:Nat)]/\tj hp bA rs 0 (T 0)/\bA∉rs/\2<=bA/\(∀ r∈rs,2<=r)/\hp[aS]? =some (.list (aa (ah P)))/\hp[aJ]? =some (.list (aa (ah L)))/\
 Tree P/\eD L/\q.natAbs<=4/\2<=aS/\2<=aJ/\dr<2^400/\uZ P L q T/\2<=hp.length/\fV hp/\∀ aE,aq hp aE->K (.bool true) aE
structure Gq (hp H0:List PO) (bA:Nat) (rs:List Nat) (aS aJ ig:Nat) (fs:List Nat):Prop where
 t2:2<=bA
 r2:∀ r∈rs,2<=r
 f2:hp.length<=ig
 fs2:∀ r∈fs,hp.length<=r
 ff:ig∉fs
 d1:bA∉fs
 d2:∀ r∈rs,r∉fs
 d3:aS∉fs
 d4:aJ∉fs
 p2:2<=aS
 l2:2<=aJ
structure mq (hp:List PO) (P L:List Nat) (q:Int) (dr:Nat) (T:Nat->d5) (k bA:Nat) (rs:List Nat) (aS aJ ig:Nat) (fs:List Nat) (F:d5) (l:Loc) (H:List PO):Prop where
 mt:tj H bA rs k (T k)
 mf:ci H ig fs F
 hP:H[aS]? =some (.list (aa (ah P)))
 hL:H[aJ]? =some (.list (aa (ah L)))
 gr:aq hp H
 l76:l.get 76=some (.ref bA)
 l58:l.get 58=some (.ref aS)
 l70:l.get 70=some (.ref aJ)
 l27:l.get 27=some (.int q)
 l89:l.get 89=some (.int (dr:Nat))
 l66:l.get 66=some (.int (wX T k))
 l50:l.get 50=some (.int (k:Nat))
 l90:l.get 90=some (.ref ig)
theorem tj.push {H:List PO} {t:Nat} {rs:List Nat} {k:Nat} {T:d5} (m:tj H t rs k T) (o:PO):tj (H++[o]) t rs k T:=by
 obtain⟨M,a,b⟩:=m;exact⟨M,a.push o,b⟩
section
variable {cx:Cx} {A:Nat->Addr} {P L:List Nat} {q:Int} {dr:Nat} {T:Nat->d5}
variable {hp H0:List PO} {bA aS aJ k ig:Nat} {rs fs:List Nat}
theorem mq.push {F:d5} {l:Loc} {H:List PO} (m:mq hp P L q dr T k bA rs aS aJ ig fs F l H) (o:PO):mq hp P L q dr T k bA rs aS aJ ig fs F l (H++[o]):=
 ⟨m.mt.push o,m.mf.push o,ac m.hP o,ac m.hL o,m.gr.trans (.push _ _),m.l76,m.l58,m.l70,m.l27,m.l89,m.l66,m.l50,m.l90⟩
theorem mq.sl {F:d5} {l:Loc} {H:List PO} (m:mq hp P L q dr T k bA rs aS aJ ig fs F l H) {y:Nat} (v:PV) (h:y∉[76,58,70,27,89,66,50,90]):mq hp P L q dr T k bA rs aS aJ ig fs F (l.set y v) H:=by
 have g:∀ x,x∈[76,58,70,27,89,66,50,90]->(l.set y v).get x=l.get x:=λx hx=>by rw[Loc.get_set,if_neg (λe:x=y=>h (e▸hx))]
 exact⟨m.mt,m.mf,m.hP,m.hL,m.gr,(g _ (by decide)).trans m.l76,(g _ (by decide)).trans m.l58,(g _ (by decide)).trans m.l70,(g _ (by decide)).trans m.l27,(g _ (by decide)).trans m.l89,(g _ (by decide)).trans m.l66,(g _ (by decide)).trans m.l50,(g _ (by decide)).trans m.l90⟩
theorem mq.grow {F:d5} {l:Loc} {H H':List PO} (S:Gq hp H0 bA rs aS aJ ig fs) (h2:2<=hp.length) (m:mq hp P L q dr T k bA rs aS aJ ig fs F l H) (g:aq H H'):mq hp P L q dr T k bA rs aS aJ ig fs F l H':=
 ⟨m.mt.imp λø=>And.imp_left λa=>a.grow g S.t2 S.r2,m.mf.grow g (Zu h2 S.f2) λr hr=>Zu h2 (S.fs2 r hr),g.keep _ _ S.p2 m.hP,g.keep _ _ S.l2 m.hL,m.gr.trans g,m.l76,m.l58,m.l70,m.l27,m.l89,m.l66,m.l50,m.l90⟩
theorem mq.set {F:d5} {l:Loc} {H:List PO} (S:Gq hp H0 bA rs aS aJ ig fs) (h2:2<=hp.length) (m:mq hp P L q dr T k bA rs aS aJ ig fs F l H) {i j:Nat} (hi:i<5) (hj:j<5) (v:Int):
  mq hp P L q dr T k bA rs aS aJ ig fs (eH F i j v) l (H.set (fs.getD i 0) (.list ((aa (gv F i)).set j (.int v)))):=
 have ri:=m.mf.mem hi
 ⟨m.mt.imp λø=>And.imp_left λa=>a.other (λz=>S.d1 (z▸ri)) (λz=>S.d2 _ z ri) _,m.mf.set hi hj S.ff v,az m.hP (λz=>S.d3 (z▸ri)),az m.hL (λz=>S.d4 (z▸ri)),m.gr.set (S.fs2 _ ri) (Zu h2 (S.fs2 _ ri)) (λq e=>by rw[m.mf.row i hi] at e;cases e),
  m.l76,m.l58,m.l70,m.l27,m.l89,m.l66,m.l50,m.l90⟩
theorem rm {n:Nat} (h:n<5):n<=1000000:=f6 (Zx h) rfl
theorem wY (h2:2<=hp.length) {H:List PO} {l:Loc} {Q:ba} {i j:Nat} {F:d5} {v:Int} (hi:i<5) (hj:j<5) (S:Gq hp H0 bA rs aS aJ ig fs) (I:mq hp P L q dr T k bA rs aS aJ ig fs F l H)
  (l43:l.get 43=some (.int (i:Nat))) (l77:l.get 77=some (.int (j:Nat))) (PZ:l.get 53=some (.int v)) (ck:∀ H',mq hp P L q dr T k bA rs aS aJ ig fs (eH (eH F i j v) j i v) l H'->Q .next {loc:=l,ce:=[],hp:=H'}):
  aF cx Db Q {loc:=l,ce:=[],hp:=H}:=by
 refine ax PZ ?_
 refine ax I.l90 ?_
 refine ax l43 ?_
 refine ay I.mf.hd (I.mf.refs hi) (rm hi) ?_
 refine ax l77 ?_
 refine jJ (I.mf.row i hi) (by rw[ku];exact hj) (rm hj) ?_
 rw[ZO]
 have I:=I.set S h2 hi hj v
 refine ax PZ ?_
 refine ax I.l90 ?_
 refine ax l77 ?_
 refine ay I.mf.hd (I.mf.refs hj) (rm hj) ?_
 refine ax l43 ?_
 refine jJ (I.mf.row j hj) (by rw[ku];exact hi) (rm hi) ?_
 rw[ZO]
 exact ck _ (I.set S h2 hj hi v)
theorem P0 {x:Int} (h:x.natAbs<2^400):x.natAbs.log2<1920:=by
 by_cases x0:x.natAbs=0
 .rw[x0];decide
 .exact ZD ((Nat.log2_lt x0).mpr h) (by decide)
theorem Jg {W R:Int} (hW:W.natAbs<2^(2*400+1)) (hR:R.natAbs<2^400):(W+R).natAbs<2^(2*400+2):=by
 have:R.natAbs<2^(2*400+1):=ZD hR (Z3 (by decide) (by decide))
 rw[Nat.pow_succ 2 (2*400+1)]
 generalize 2^(2*400+1)=X at*
 exact la [_] [_,_] [.t (.b .V0) .v0,.t (.b .V1) .v0] (.t (.b (.a .V0 .V1)) (.M .v0 2)) (.k true (.b .V1) (.o 0 (.k true (.b .V0) (.o 0 (.k true (.b (.a .V0 .V1)) (.o 0 (.f [0,1,0,1,0,0,1,0,0,1,1,1]) (.f [0,1,0,0,0,1,0,0,1,0,2,1]))) (.k true (.b (.a .V0 .V1)) (.o 0 (.f [0,1,0,0,0,1,1,0,0,1,1,1]) (.f [0,1,0,1,0,0,0,0,1,0,2,1]))))) (.k true (.b .V0) (.o 0 (.k true (.b (.a .V0 .V1)) (.o 0 (.f [0,1,0,1,0,0,0,0,1,0,2,1]) (.f [0,1,0,0,0,1,1,0,0,1,1,1]))) (.k true (.b (.a .V0 .V1)) (.o 0 (.f [0,1,0,0,0,1,0,0,1,0,2,1]) (.f [0,1,0,1,0,0,1,0,0,1,1,1]))))))) rfl hW this
theorem tU (a b:Int):vr (d8 [tx a,tx b]):=⟨dO _,dO _,trivial⟩
theorem Ol {a b:Int} {N:Nat} {hp:List PO} {K:PV->List PO->Prop} (hN:N<=2000) (ha:a.natAbs<2^N) (hb:b.natAbs<2^N) (h2:2<=hp.length) (T:fV hp) (k0:b=0->∀ aE,aq hp aE->K (.str (Str.ofString "none")) aE)
  (k1:b≠0->(a.fdiv b).natAbs.log2<1920/\(a.fmod b).natAbs.log2<1920/\∀ aE i,aq hp aE->hp.length<=i->aE[i]? =some (.list (d8 [tx (a.fdiv b),tx (a.fmod b)]))->K (.ref i) aE):spS [.int a,.int b] hp K:=⟨a,b,N,rfl,hN,ha,hb,h2,T,k0,k1⟩
theorem wZ (G:GG cx A) (pb:cx.D (A 119)=some Du) (pd:cx.D (A 117)=some spS) (hT:Tree P) (hL:eD L) (hq:q.natAbs<=4) {H:List PO} {l:Loc} {Q:ba} {i j:Nat} {F:d5} {W R D:Int} (hk:k<4) (hi:i<5) (hj:j<5) (h2:2<=hp.length) (tb:fV hp)
  (S:Gq hp H0 bA rs aS aJ ig fs) (I:mq hp P L q dr T k bA rs aS aJ ig fs F l H) (l43:l.get 43=some (.int (i:Nat))) (l77:l.get 77=some (.int (j:Nat))) (PZ:l.get 53=some (.int W)) (Wa:l.get 91=some (.int R))
  (hD:gM P L q i j k=D) (Om:D.natAbs<2^400) (hW:W.natAbs<2^(2*400+1)) (hR:R.natAbs<2^400) (hB:(wX T k).natAbs<2^400) (Yk:wX T k≠0->W=D*wX T k) (Yl:wX T k≠0->R=(dr:Int).fmod (wX T k))
  (ck:∀ l' H',l'.get 43=l.get 43->mq hp P L q dr T k bA rs aS aJ ig fs (eH (eH F i j D) j i D) l' H'->Q .next {loc:=l',ce:=[],hp:=H'}):
  aF cx MB (λf ae=>match f with|.next=>aF cx Db Q ae|f=>Q f ae) {loc:=l,ce:=[],hp:=H}:=by
 have Um:=I.l66
 repeat walk_at "o"
 refine ax I.l50 ?_
 refine ax I.l58 ?_
 refine ax I.l70 ?_
 refine ax I.l27 ?_
 refine bP pb ⟨i,j,k,aS,aJ,q,P,L,rfl,I.hP,I.hL,hT,hL,hi,hj,hk,hq,S.p2,S.l2,Zu h2 I.gr.le,λH1 g1=>?_⟩
 rw[hD]
 have I1:=(I.grow S h2 g1).sl (y:=79) (.int D) (by decide)
 have Ym:(wX T k).natAbs<2^(2*400+2):=ZD hB (Z3 (by decide) (by decide))
 have Oo:∀ H2,aq H1 H2->aF cx MA (λf ae=>match f with|PF.next=>aF cx Db Q ae|f=>Q f ae) {loc:=l.set 79 (.int D),ce:=[],hp:=H2}:=λH2 g2=>
  wY h2 hi hj S ((I1.grow S h2 g2).sl (y:=53) (.int D) (by decide)) l43 l77 rfl λH' I'=>ck _ _ rfl I'
 refine ax (G.g _ _ rfl) ?_
 refine ax PZ ?_
 refine ax Wa ?_
 refine ax Um ?_
 refine bP pd (Ol (N:=2*400+2) (by decide) (Jg hW hR) Ym (Zu h2 I1.gr.le) (I1.gr.tabs tb) (λzb H2 g2=>?_) λzb=>?_)
 .refine ax Um ?_
  refine gZ (by rw[zb];rfl) ?_
  exact Zt (λq=>nomatch q) λø=>Oo H2 g2
 .have Un:=Yl zb
  obtain⟨q1,q2⟩:=Bh D (wX T k) dr zb
  rw[<-Un,<-Yk zb] at q1 q2
  refine⟨by rw[q1];exact P0 Om,by rw[q2];exact P0 hR,λH2 i2 g2 Zj Wb=>?_⟩
  rw[q1,q2] at Wb
  refine ax Um ?_
  refine gY (bne_iff_ne.mpr zb) ?_
  refine ax (G.g _ _ rfl) ?_
  refine Zt (P0 Om) ?_
  refine ax (G.g _ _ rfl) ?_
  refine ax Wa ?_
  refine Zt (P0 hR) ?_
  refine Zt (by decide:(2:Nat)<=1000000) ?_
  refine y7 (w:=d8 [tx D,tx R]) (ac Wb _) (af _ _) ?_
  refine Zt (tU D R) (Zt (tU D R) ?_)
  refine gZ (by rw[decide_eq_true rfl];rfl) ?_
  exact Oo _ (g2.trans (aq.push _ _))
theorem Bj (G:GG cx A) (pb:cx.D (A 119)=some Du) (pd:cx.D (A 117)=some spS) (O:uZ P L q T) (hT:Tree P) (hL:eD L) (hq:q.natAbs<=4) (Jh:dr<2^400) {H:List PO} {l:Loc} {Q:ba} {i j:Nat} {F:d5} (hk:k<4) (Ea:k<j) (rL:j<=i) (hi:i<5)
  (h2:2<=hp.length) (tb:fV hp) (S:Gq hp H0 bA rs aS aJ ig fs) (I:mq hp P L q dr T k bA rs aS aJ ig fs F l H) (l43:l.get 43=some (.int (i:Nat))) (l77:l.get 77=some (.int (j:Nat)))
  (ck:∀ l' H',l'.get 43=l.get 43->mq hp P L q dr T k bA rs aS aJ ig fs (eH (eH F i j (T (k+1) i j)) j i (T (k+1) j i)) l' H'->Q .next {loc:=l',ce:=[],hp:=H'}):
  aF cx Fz Q {loc:=l,ce:=[],hp:=H}:=by
 obtain⟨M,mt,hM⟩:=I.mt
 have Bk:j<5:=ZW rL hi
 have jZ:k<5:=aaJ hk (by decide)
 have ki:k<=i:=Zu (Zx Ea) rL
 have xJ:∀ a b,k<=a->a<5->k<=b->b<5->(aa (gv M a))[b]? =some (.int (T k a b)):=λa b x1 x2 x3 x4=>by rw[wV M a x4,hM a b x1 x2 x3 x4]
 have bd:∀ {a b},a<5->b<5->bl (T k a b)<=400:=λha hb=>dL (O.bd k _ _ jZ ha hb)
 have i5:=rm hi
 have j5:=rm Bk
 have k5:=rm jZ
 have l50:=I.l50
 have l76:=I.l76
 repeat walk_at "o"
 refine ay mt.hd (mt.refs jZ) k5 ?_
 refine ax l50 ?_
 refine ay (mt.row k jZ) (xJ k k (ZA _) jZ (ZA _) jZ) k5 ?_
 repeat walk_at "o"
 refine ay mt.hd (mt.refs hi) i5 ?_
 repeat walk_at "o"
 refine ay (mt.row i hi) (xJ i j ki hi (Zx Ea) Bk) j5 ?_
 refine Zt (eB (bd jZ jZ) (bd hi Bk) (by decide)) ?_
 repeat walk_at "o"
 refine ay mt.hd (mt.refs hi) i5 ?_
 repeat walk_at "o"
 refine ay (mt.row i hi) (xJ i k ki hi (ZA _) jZ) k5 ?_
 repeat walk_at "o"
 refine ay mt.hd (mt.refs jZ) k5 ?_
 repeat walk_at "o"
 refine ay (mt.row k jZ) (xJ k j (ZA _) jZ (Zx Ea) Bk) j5 ?_
 refine Zt (eB (bd hi jZ) (bd jZ Bk) (by decide)) ?_
 have I1:mq hp P L q dr T k bA rs aS aJ ig fs F (l.set 53 (.int (Oj T k i j))) H:=I.sl (y:=53) _ (by decide)
 repeat walk_at "o"
 by_cases z:k<2
 .refine gZ (decide_eq_false λz'=>absurd (aak.mp z') (Nat.not_lt.mpr (Nat.le_of_lt_succ z))) ?_
  obtain⟨a,b⟩:=O.lo k i j z Ea rL hi
  rw[a,b] at ck
  exact wY h2 hi Bk S I1 l43 l77 rfl λH' I'=>ck _ _ rfl I'
 .refine gY (decide_eq_true (aak.mpr (Nat.lt_of_not_le λz'=>z (aa1 z')))) ?_
  obtain⟨h1,S4,h3⟩:=O.hi k i j (Nat.le_of_not_lt z) hk Ea rL hi
  have Om:(gM P L q i j k).natAbs<2^400:=by rw[<-h1];exact O.bd (k+1) i j (Nat.succ_lt_succ hk) hi Bk
  have Wc:(Oj T k i j).natAbs<2^(2*400+1):=qq (O.bd k k k jZ jZ jZ) (O.bd k i j jZ hi Bk) (O.bd k i k jZ hi jZ) (O.bd k k j jZ jZ Bk)
  have hB:=Ok O hk
  rw[h1,S4] at ck
  have l66:=I.l66
  have l89:=I.l89
  repeat walk_at "o"
  by_cases zb:wX T k=0
  .refine gZ (by rw[zb];rfl) ?_
   refine ax l89 ?_
   exact wZ (R:=((dr:Nat):Int)) G pb pd hT hL hq hk hi Bk h2 tb S (I1.sl (y:=91) _ (by decide)) l43 l77 rfl rfl rfl Om Wc Jh hB h3 (λn=>absurd zb n) λl' H' e I'=>ck _ _ e I'
  .refine gY (bne_iff_ne.mpr zb) ?_
   repeat walk_at "o"
   refine Zt zb ?_
   exact wZ (R:=(dr:Int).fmod (wX T k)) G pb pd hT hL hq hk hi Bk h2 tb S (I1.sl (y:=91) _ (by decide)) l43 l77 rfl rfl rfl Om Wc (D9 hB zb) hB h3 (λø=>rfl) λl' H' e I'=>ck _ _ e I'
end
noncomputable def pe (T:d5) (k i j:Nat) (F:d5):Prop:=∀ a b,k<a->k<b->(a<i\/(a=i/\b<j))->b<=a->F a b=T a b/\F b a=T b a
theorem pe.step {T:d5} {k i j:Nat} {F:d5} (h:pe T k i j F) (rL:j<=i):pe T k i (j+1) (eH (eH F i j (T i j)) j i (T j i)):=by
 intro a b ha hb ze Ji
 unfold eH
 by_cases q:a=i/\b=j
 .obtain⟨rfl,rfl⟩:=q
  by_cases q2:a=b
  .subst q2;simp
  .simp [q2]
 .have h1: ¬ (a=i/\b=j):=q
  have h2: ¬ (b=j/\a=i):=λz=>q ⟨z.2,z.1⟩
  have h3: ¬ (a=j/\b=i):=by exact la [_,_,_,_] [] [.l .v0 .v1,.l .v2 .v3,.n (.a (.e .v3 .v1) (.e .v2 .v0))] (.n (.a (.e .v3 .v0) (.e .v2 .v1))) (.o 0 (.o 0 (.f [1,1,0,1]) (.f [1,0,1,0,0,0,1])) (.o 0 (.f [1,0,1,1]) (.f [1,1,0,0,0,0,1]))) rfl rL Ji q
  have h4: ¬ (b=i/\a=j):=by exact la [_,_,_,_] [] [.l .v0 .v1,.l .v2 .v3,.n (.a (.e .v3 .v1) (.e .v2 .v0))] (.n (.a (.e .v2 .v1) (.e .v3 .v0))) (.o 0 (.o 0 (.f [1,1,0,0,0,1]) (.f [1,0,1,0,1])) (.o 0 (.f [1,0,1,0,0,1]) (.f [1,1,0,0,1]))) rfl rL Ji q
  rw[if_neg h3,if_neg h1,if_neg h2,if_neg h4]
  exact h a b ha hb (by exact la [_,_,_,_] [] [.r (.t .v0 .v1) (.a (.e .v0 .v1) (.t .v2 (.a .v3 .n1))),.n (.a (.e .v0 .v1) (.e .v2 .v3))] (.r (.t .v0 .v1) (.a (.e .v0 .v1) (.t .v2 .v3))) (.o 0 (.o 0 (.f [1,1]) (.o 0 (.f [1,1]) (.o 2 (.f [1,1]) (.f [0,0,1,1])))) (.o 2 (.f [1,1]) (.o 3 (.o 0 (.f [1,0,1]) (.f [1,0,0,1])) (.o 0 (.f [1,1]) (.f [1,0,1]))))) rfl ze q) Ji
theorem pe.row {T:d5} {k i:Nat} {F:d5} (h:pe T k i (i+1) F):pe T k (i+1) (k+1) F:=λa b ha hb ze Ji=>h a b ha hb (by exact la [_,_,_,_] [] [.t .v0 .v1,.r (.t .v2 (.a .v3 .n1)) (.a (.e .v2 (.a .v3 .n1)) (.t .v1 (.a .v0 .n1))),.l .v1 .v2] (.r (.t .v2 .v3) (.a (.e .v2 .v3) (.t .v1 (.a .v3 .n1)))) (.o 0 (.o 1 (.o 0 (.f [1,0,0,0,1]) (.f [1,1])) (.f [1,1,1])) (.f [1,0,0,0,1])) rfl hb ze Ji) Ji
section
variable {cx:Cx} {A:Nat->Addr} {P L:List Nat} {q:Int} {dr:Nat} {T:Nat->d5}
variable {hp H0:List PO} {bA aS aJ k ig:Nat} {rs fs:List Nat}
noncomputable def Yn (hp:List PO) (P L:List Nat) (q:Int) (dr:Nat) (T:Nat->d5) (k bA:Nat) (rs:List Nat) (aS aJ ig:Nat) (fs:List Nat) (i t:Nat) (σ:St):Prop:=∀ C:Prop,(∀ l H F,σ={loc:=l,ce:=[],hp:=H}->mq hp P L q dr T k bA rs aS aJ ig fs F l H->l.get 43=some (.int (i:Nat))->pe (T (k+1)) k i (k+1+t) F->C)->C
theorem Jj (G:GG cx A) (pb:cx.D (A 119)=some Du) (pd:cx.D (A 117)=some spS) (O:uZ P L q T) (hT:Tree P) (hL:eD L) (hq:q.natAbs<=4) (Jh:dr<2^400) (hk:k<4) (tb:fV hp) (h2:2<=hp.length)
  {H:List PO} {l:Loc} {Q:ba} {i:Nat} {F:d5} (Yo:k<i) (hi:i<5) (S:Gq hp H0 bA rs aS aJ ig fs) (I:mq hp P L q dr T k bA rs aS aJ ig fs F l H) (l43:l.get 43=some (.int (i:Nat))) (D:pe (T (k+1)) k i (k+1) F)
  (ck:∀ l' H' F',mq hp P L q dr T k bA rs aS aJ ig fs F' l' H'->pe (T (k+1)) k i (i+1) F'->Q .next {loc:=l',ce:=[],hp:=H'}):
  aF cx FA Q {loc:=l,ce:=[],hp:=H}:=by
 have l50:=I.l50
 repeat walk_at "o"
 refine Zt (by show(((k+1:Nat):Int)).natAbs<=_;exact f6 hk rfl) (Zt (by show(((i+1:Nat):Int)).natAbs<=_;exact f6 hi rfl) ?_)
 have en:((i:Int)+1-((k:Int)+1)).toNat=i-k:=by exact la [_,_] [] [] (.e (.t (.s (.a (.c .v0) .n1) (.a (.c .v1) .n1))) (.s .v0 .v1)) (.o 0 (.k true (.s .v0 .v1) (.o 0 (.f [0,1,0,1]) (.k true (.t (.s (.a (.c .v0) .n1) (.a (.c .v1) .n1))) (.o 0 (.f [1,0,0,0,1,0,1]) (.f [0,0,1,0,1,0,1]))))) (.k true (.t (.s (.a (.c .v0) .n1) (.a (.c .v1) .n1))) (.o 0 (.k true (.s .v0 .v1) (.o 0 (.f [0,0,1,0,1,0,1]) (.f [1,0,0,0,1,0,1]))) (.f [0,1,0,1])))) rfl
 rw[en]
 refine eR (af _ _) ?_
 refine fI (i-k) (λt=>.rng ((k:Int)+1) 1 (i-k) t) (Yn hp P L q dr T k bA rs aS aJ ig fs i) ?_ ?_ λC c=>c _ _ F rfl (I.push _) l43 D
 .intro t σ ht J
  refine J _ λl H F e I l43 D=>?_
  subst e
  refine⟨_,_,dY ht,λagain dZ=>?_⟩
  rw[show(k:Int)+1+(t:Int)*1=((k+1+t:Nat):Int) by exact la [_,_] [] [] (.E (.a (.a (.c .v0) .n1) (.M (.c .v1) 1)) (.c (.a (.a .v0 .n1) .v1))) (.o 0 (.f [1]) (.f [1])) rfl]
  exact Bj (i:=i) (j:=k+1+t) G pb pd O hT hL hq Jh hk (ZD (Z0 k) (aaq _ _)) (by exact la [_,_,_] [] [.t .v0 (.s .v1 .v2)] (.l (.a (.a .v2 .n1) .v0) .v1) (.k true (.s .v1 .v2) (.o 0 (.f [0,1,0,1]) (.f [0,1,0,1,1]))) rfl ht) hi h2 tb S (I.sl (y:=77) _ (by decide)) l43 rfl λl' H' e I'=>dZ _ λC c=>c _ _ _ rfl I' (e.trans l43) (D.step (by exact la [_,_,_] [] [.t .v0 (.s .v1 .v2)] (.l (.a (.a .v2 .n1) .v0) .v1) (.k true (.s .v1 .v2) (.o 0 (.f [0,1,0,1]) (.f [0,1,0,1,1]))) rfl ht))
 .intro σ J
  refine J _ λl H F e I l43 D=>?_
  subst e
  exact⟨dj,ck _ _ F I ((show k+1+(i-k)=i+1 by exact la [_,_] [] [.t .v0 .v1] (.e (.a (.a .v0 .n1) (.s .v1 .v0)) (.a .v1 .n1)) (.o 0 (.k true (.s .v1 .v0) (.o 0 (.f [0,0,1,0,1]) (.f [1,0,0,1]))) (.k true (.s .v1 .v0) (.o 0 (.f [0,1,0,1,1]) (.f [0,1,0,1])))) rfl Yo)▸D)⟩
noncomputable def Yp (hp:List PO) (P L:List Nat) (q:Int) (dr:Nat) (T:Nat->d5) (k bA:Nat) (rs:List Nat) (aS aJ ig:Nat) (fs:List Nat) (t:Nat) (σ:St):Prop:=∀ C:Prop,(∀ l H F,σ={loc:=l,ce:=[],hp:=H}->mq hp P L q dr T k bA rs aS aJ ig fs F l H->pe (T (k+1)) k (k+1+t) (k+1) F->C)->C
theorem Eb (G:GG cx A) (pb:cx.D (A 119)=some Du) (pd:cx.D (A 117)=some spS) (O:uZ P L q T) (hT:Tree P) (hL:eD L) (hq:q.natAbs<=4) (Jh:dr<2^400) (hk:k<4) (tb:fV hp) (h2:2<=hp.length)
  {H:List PO} {l:Loc} {Q:ba} {F:d5} (S:Gq hp H0 bA rs aS aJ ig fs) (I:mq hp P L q dr T k bA rs aS aJ ig fs F l H)
  (ck:∀ l' H' F',mq hp P L q dr T k bA rs aS aJ ig fs F' l' H'->(∀ a b,k+1<=a->a<5->k+1<=b->b<5->F' a b=T (k+1) a b)->aF cx Mz Q {loc:=l',ce:=[],hp:=H'}):
  aF cx FC Q {loc:=l,ce:=[],hp:=H}:=by
 have l50:=I.l50
 repeat walk_at "o"
 refine Zt (by show(((k+1:Nat):Int)).natAbs<=_;exact f6 hk rfl) (Zt (by decide) ?_)
 have en:((5:Int)-((k:Int)+1)).toNat=4-k:=by exact la [_] [] [] (.e (.t (.s (.n 5) (.a (.c .v0) .n1))) (.s (.n 4) .v0)) (.o 0 (.k true (.s (.n 4) .v0) (.o 0 (.f [0,1,0,1]) (.k true (.t (.s (.n 5) (.a (.c .v0) .n1))) (.o 0 (.f [1,0,0,0,1,0,1]) (.f [0,0,1,0,1,0,1]))))) (.k true (.t (.s (.n 5) (.a (.c .v0) .n1))) (.o 0 (.k true (.s (.n 4) .v0) (.o 0 (.f [0,0,1,0,1,0,1]) (.f [1,0,0,0,1,0,1]))) (.f [0,1,0,1])))) rfl
 rw[en]
 refine eR (af _ _) ?_
 refine fI (4-k) (λt=>.rng ((k:Int)+1) 1 (4-k) t) (Yp hp P L q dr T k bA rs aS aJ ig fs) ?_ ?_ λC c=>c _ _ F rfl (I.push _) λa b ha hb ze Ji=>by exact la [_,_,_] [_,_,_,_] [.t .v0 .v1,.t .v0 .v2,.r (.t .v1 (.a (.a .v0 .n1) .n0)) (.a (.e .v1 (.a (.a .v0 .n1) .n0)) (.t .v2 (.a .v0 .n1)))] (.a (.E .V0 .V1) (.E .V2 .V3)) (.o 0 (.f [1,0,1]) (.f [1,0,0,1])) rfl ha hb ze
 .intro t σ ht J
  refine J _ λl H F e I D=>?_
  subst e
  refine⟨_,_,dY ht,λagain dZ=>?_⟩
  rw[show(k:Int)+1+(t:Int)*1=((k+1+t:Nat):Int) by exact la [_,_] [] [] (.E (.a (.a (.c .v0) .n1) (.M (.c .v1) 1)) (.c (.a (.a .v0 .n1) .v1))) (.o 0 (.f [1]) (.f [1])) rfl]
  exact Jj (i:=k+1+t) G pb pd O hT hL hq Jh hk tb h2 (ZD (Z0 k) (aaq _ _)) (by exact la [_,_] [] [.t .v0 (.s (.n 4) .v1)] (.t (.a (.a .v1 .n1) .v0) (.n 5)) (.k true (.s (.n 4) .v1) (.o 0 (.f [0,1,0,1]) (.f [0,1,0,1,1]))) rfl ht) S (I.sl (y:=43) _ (by decide)) rfl D λl' H' F' I2 D2=>dZ _ λC c=>c _ _ _ rfl I2 D2.row
 .intro σ J
  refine J _ λl H F e I D=>?_
  subst e
  refine⟨dj,ck _ _ F I λa b ha Yq hb TG=>?_⟩
  by_cases z:b<=a
  .exact(D a b (by exact la [_,_] [] [.l (.a .v0 .n1) .v1] (.t .v0 .v1) (.f [1,1]) rfl ha) (by exact la [_,_] [] [.l (.a .v0 .n1) .v1] (.t .v0 .v1) (.f [1,1]) rfl hb) (by exact la [_,_,_] [] [.t .v0 (.n 5)] (.r (.t .v0 (.a (.a .v1 .n1) (.s (.n 4) .v1))) (.a (.e .v0 (.a (.a .v1 .n1) (.s (.n 4) .v1))) (.t .v2 (.a .v1 .n1)))) (.k true (.s (.n 4) .v1) (.o 0 (.f [0,0,1,1,1]) (.f [1,0,0,1,1]))) rfl Yq) z).1
  .exact(D b a (by exact la [_,_] [] [.l (.a .v0 .n1) .v1] (.t .v0 .v1) (.f [1,1]) rfl hb) (by exact la [_,_] [] [.l (.a .v0 .n1) .v1] (.t .v0 .v1) (.f [1,1]) rfl ha) (by exact la [_,_,_] [] [.t .v0 (.n 5)] (.r (.t .v0 (.a (.a .v1 .n1) (.s (.n 4) .v1))) (.a (.e .v0 (.a (.a .v1 .n1) (.s (.n 4) .v1))) (.t .v2 (.a .v1 .n1)))) (.k true (.s (.n 4) .v1) (.o 0 (.f [0,0,1,1,1]) (.f [1,0,0,1,1]))) rfl TG) (by exact la [_,_] [] [.n (.l .v0 .v1)] (.l .v1 .v0) (.f [1,1]) rfl z)).2
noncomputable def Yr (hp:List PO) (P L:List Nat) (q:Int) (dr:Nat) (T:Nat->d5) (aS aJ t:Nat) (σ:St):Prop:=∀ C:Prop,(∀ bA rs l H,σ={loc:=l,ce:=[],hp:=H}->tj H bA rs t (T t)->2<=bA->(∀ r∈rs,2<=r)->H[aS]? =some (.list (aa (ah P)))->H[aJ]? =some (.list (aa (ah L)))->aq hp H->
  l.get 76=some (.ref bA)->l.get 58=some (.ref aS)->l.get 70=some (.ref aJ)->l.get 27=some (.int q)->l.get 89=some (.int (dr:Nat))->l.get 66=some (.int (wX T t))->C)->C
theorem qr {n r:Nat} (h:r∈fk n):n<r/\r<n+10:=by
 simp only[fk,ZF,aaG,or_false] at h
 omega
theorem Ec {H:List PO} {t:Nat} {rs:List Nat} {M:d5} (m:ci H t rs M):∀ r∈rs,r<H.length:=λr hr=>by
 obtain⟨i,hi,rfl⟩:=List.getElem_of_mem hr
 have:=(Zv.mp (m.row i (m.len▸hi))).1
 rw[ZC,ZB hi] at this
 exact this
theorem Op (G:GG cx A) (pb:cx.D (A 119)=some Du) (pd:cx.D (A 117)=some spS) {ps:List PV} {K:PV->List PO->Prop} (h:toS ps hp K):
  bc cx (am "_law_taken_out") [76,58,70,27,89] [] [] (aQ "_law_taken_out") ps hp K:=by
 obtain⟨bA,rs,aS,aJ,q,dr,P,L,T,rfl,mt,dt,t2,r2,hP,nK,hT,hL,hq,p2,l2,Jh,O,h2,tb,k⟩:=h
 refine gI rfl jN (l:=[(89,.int (dr:Nat)),(27,.int q),(70,.ref aJ),(58,.ref aS),(76,.ref bA)]) rfl ?_
 repeat walk_at "o"
 refine Zt (by decide) ?_
 refine eR (af _ _) ?_
 refine fI 4 (λt=>.rng 0 1 4 t) (Yr hp P L q dr T aS aJ) ?_ ?_ λC c=>c bA rs _ _ rfl (mt.push _) t2 r2 (ac hP _) (ac nK _) (.push _ _) rfl rfl rfl rfl rfl rfl
 .intro k σ hk J
  refine J _ λbA rs l H e mt t2 r2 hP nK gr l76 l58 l70 l27 l89 l66=>?_
  subst e
  refine⟨_,_,nW hk,λagain dZ=>?_⟩
  refine Zt rfl ?_
  repeat walk_at "o"
  refine Zt (by decide) ?_
  refine eR (af _ _) ?_
  refine wW G (v:=0) (hp:=hp) (gr.trans (.push _ _)) λlc H' g1 g2 kp cb uY=>?_
  have pL:(H++[PO.rng 0 1 (Int.toNat 5)]).length=H.length+1:=Zw ..
  have qF:∀ {r},r∈fk (H++[PO.rng 0 1 (Int.toNat 5)]).length->H.length<r/\r<H'.length:=λhr=>by
   have:=qr hr
   have cb:H'.length=(H++[PO.rng 0 1 (Int.toNat 5)]).length+10:=cb
   exact la [_,_,_,_] [] [.e .v0 (.a .v1 .n1),.t .v0 .v2,.t .v2 (.a .v0 (.n 10)),.e .v3 (.a .v0 (.n 10))] (.a (.t .v1 .v2) (.t .v2 .v3)) (.o 0 (.f [1,0,0,0,1,1]) (.f [1,1,0,1])) rfl pL this.1 this.2 cb
  have Uo:(fk (H++[PO.rng 0 1 (Int.toNat 5)]).length).length=5:=rfl
  have Uq:=te (H++[PO.rng 0 1 (Int.toNat 5)]).length
  generalize fk (H++[PO.rng 0 1 (Int.toNat 5)]).length=fs at*
  obtain⟨M,mM,hM⟩:=id mt
  have KP:∀ (i:Nat) o,H[i]? =some o->(H'++[PO.list (fs.map .ref)])[i]? =some o:=λi o e=>ac (kp i o (ac e _)) _
  have no:∀ {r:Nat},r<H.length->r∉fs:=λh z=>Nat.lt_asymm h (qF z).1
  have Ur:∀ {i:Nat} {o:PO},H[i]? =some o->i<H.length:=λe=>(Zv.mp e).1
  have S:Gq hp H bA rs aS aJ H'.length fs:=
   ⟨t2,r2,g1.le,λr hr=>Zu gr.le (Zx (qF hr).1),λz=>aaw _ (qF z).2,no (Ur mM.hd),λr hr=>no (Ec mM r hr),no (Ur hP),no (Ur nK),p2,l2⟩
  have I:mq hp P L q dr T k bA rs aS aJ H'.length fs (λø ø=>0) ((l.set 50 (.int (k:Nat))).set 90 (.ref H'.length)) (H'++[PO.list (fs.map .ref)]):=
   ⟨⟨M,mM.keep λi o ø e=>KP i o e,hM⟩,⟨Uo,Uq,af _ _,λi hi=>ac (uY i hi) _⟩,KP _ _ hP,KP _ _ nK,g1.trans (.push _ _),l76,l58,l70,l27,l89,l66,rfl,rfl⟩
  refine Eb G pb pd O hT hL hq Jh hk tb h2 S I λl' H2 F' I2 hF=>?_
  obtain⟨M2,Us,pa⟩:=I2.mt
  have jZ:k<5:=ZZ hk
  refine ax I2.l76 ?_
  refine ax I2.l50 ?_
  refine ay Us.hd (Us.refs jZ) (rm jZ) ?_
  refine ax I2.l50 ?_
  refine ay (Us.row k jZ) ((wV M2 k jZ).trans (by rw[pa k k (ZA _) jZ (ZA _) jZ])) (rm jZ) ?_
  refine ax I2.l90 ?_
  exact dZ _ λC c=>c H'.length fs _ _ rfl ⟨F',I2.mf,hF⟩ (Zu h2 S.f2) (λr hr=>Zu h2 (S.fs2 r hr)) I2.hP I2.hL I2.gr rfl I2.l58 I2.l70 I2.l27 I2.l89 rfl
 .intro σ J
  refine J _ λbA rs l H e mt t2 r2 hP nK gr l76 l58 l70 l27 l89 l66=>?_
  subst e
  exact⟨dj,k _ gr⟩
end
noncomputable def eI (P Kd:List Nat) (cP k:Nat):List Nat:=fb k (Kd.getD k 0) ((bs P cP 0).count k)
noncomputable def aP (P Kd:List Nat) (cP:Nat):List Nat:=eI P Kd cP 1++eI P Kd cP 2++[49]++eI P Kd cP 3++eI P Kd cP 4
noncomputable def fY (n:Nat):List (Nat×Nat):=[(69,n),(70,n+1),(34,n+2),(42,n+3),(74,n+4)]
structure Kinds (Kd:List Nat):Prop where
 len:Kd.length=5
 le:∀ v∈Kd,v<=4
structure kM (hp:List PO) (aS cX aJ:Nat) (P Kd L:List Nat) (sh:Nat) (nv wv:Option PV) (H:List PO):Prop where
 c69:H[hp.length]? =some (.cell (some (.ref cX)))
 c70:H[hp.length+1]? =some (.cell (some (.ref aJ)))
 c34:H[hp.length+2]? =some (.cell (some (.int (sh:Nat))))
 c42:H[hp.length+3]? =some (.cell nv)
 c74:H[hp.length+4]? =some (.cell wv)
 hP:H[aS]? =some (.list (aa (ah P)))
 hK:H[cX]? =some (.list (aa (ah Kd)))
 hL:H[aJ]? =some (.list (aa (ah L)))
 gr:aq hp H
 p2:2<=aS
 k2:2<=cX
 l2:2<=aJ
 pl:aS<hp.length
 kl:cX<hp.length
 ll:aJ<hp.length
theorem kM.grow {hp:List PO} {aS cX aJ:Nat} {P Kd L:List Nat} {sh:Nat} {nv wv:Option PV} {H H':List PO} (m:kM hp aS cX aJ P Kd L sh nv wv H) (h2:2<=hp.length) (g:aq H H'):kM hp aS cX aJ P Kd L sh nv wv H':=
 ⟨g.keep _ _ h2 m.c69,g.keep _ _ (ZY h2) m.c70,g.keep _ _ (ZY h2) m.c34,g.keep _ _ (ZY h2) m.c42,g.keep _ _ (ZY h2) m.c74,g.keep _ _ m.p2 m.hP,g.keep _ _ m.k2 m.hK,g.keep _ _ m.l2 m.hL,m.gr.trans g,m.p2,m.k2,m.l2,m.pl,m.kl,m.ll⟩
theorem kM.set74 {hp:List PO} {aS cX aJ:Nat} {P Kd L:List Nat} {sh:Nat} {nv wv:Option PV} {H:List PO} (m:kM hp aS cX aJ P Kd L sh nv wv H) (h2:2<=hp.length) (w:Option PV):kM hp aS cX aJ P Kd L sh nv w (H.set (hp.length+4) (.cell w)):=
 ⟨az m.c69 (by exact la [_] [] [] (.n (.e (.a .v0 (.n 4)) .v0)) (.f [0,1]) rfl),az m.c70 (by exact la [_] [] [] (.n (.e (.a .v0 (.n 4)) (.a .v0 .n1))) (.f [0,1]) rfl),az m.c34 (by exact la [_] [] [] (.n (.e (.a .v0 (.n 4)) (.a .v0 .n2))) (.f [0,1]) rfl),az m.c42 (by exact la [_] [] [] (.n (.e (.a .v0 (.n 4)) (.a .v0 (.n 3)))) (.f [0,1]) rfl),d9 m.c74 _,az m.hP (by have:=m.pl;exact la [_,_] [] [.t .v0 .v1] (.n (.e (.a .v1 (.n 4)) .v0)) (.f [1,0,1]) rfl this),az m.hK (by have:=m.kl;exact la [_,_] [] [.t .v0 .v1] (.n (.e (.a .v1 (.n 4)) .v0)) (.f [1,0,1]) rfl this),az m.hL (by have:=m.ll;exact la [_,_] [] [.t .v0 .v1] (.n (.e (.a .v1 (.n 4)) .v0)) (.f [1,0,1]) rfl this),m.gr.set (by exact la [_] [] [] (.l .v0 (.a .v0 (.n 4))) (.f [1]) rfl) (by exact la [_] [] [] (.l .n2 (.a .v0 (.n 4))) (.f [1]) rfl) (λq e=>by rw[m.c74] at e;cases e),m.p2,m.k2,m.l2,m.pl,m.kl,m.ll⟩
theorem kM.set42 {hp:List PO} {aS cX aJ:Nat} {P Kd L:List Nat} {sh:Nat} {nv wv:Option PV} {H:List PO} (m:kM hp aS cX aJ P Kd L sh nv wv H) (h2:2<=hp.length) (w:Option PV):kM hp aS cX aJ P Kd L sh w wv (H.set (hp.length+3) (.cell w)):=
 ⟨az m.c69 (by exact la [_] [] [] (.n (.e (.a .v0 (.n 3)) .v0)) (.f [0,1]) rfl),az m.c70 (by exact la [_] [] [] (.n (.e (.a .v0 (.n 3)) (.a .v0 .n1))) (.f [0,1]) rfl),az m.c34 (by exact la [_] [] [] (.n (.e (.a .v0 (.n 3)) (.a .v0 .n2))) (.f [0,1]) rfl),d9 m.c42 _,az m.c74 (by exact la [_] [] [] (.n (.e (.a .v0 (.n 3)) (.a .v0 (.n 4)))) (.f [1]) rfl),az m.hP (by have:=m.pl;exact la [_,_] [] [.t .v0 .v1] (.n (.e (.a .v1 (.n 3)) .v0)) (.f [1,0,1]) rfl this),az m.hK (by have:=m.kl;exact la [_,_] [] [.t .v0 .v1] (.n (.e (.a .v1 (.n 3)) .v0)) (.f [1,0,1]) rfl this),az m.hL (by have:=m.ll;exact la [_,_] [] [.t .v0 .v1] (.n (.e (.a .v1 (.n 3)) .v0)) (.f [1,0,1]) rfl this),m.gr.set (by exact la [_] [] [] (.l .v0 (.a .v0 (.n 3))) (.f [1]) rfl) (by exact la [_] [] [] (.l .n2 (.a .v0 (.n 3))) (.f [1]) rfl) (λq e=>by rw[m.c42] at e;cases e),m.p2,m.k2,m.l2,m.pl,m.kl,m.ll⟩
theorem kM.setO {hp:List PO} {aS cX aJ:Nat} {P Kd L:List Nat} {sh:Nat} {nv wv:Option PV} {H:List PO} (m:kM hp aS cX aJ P Kd L sh nv wv H) (h2:2<=hp.length) {i:Nat} {o:PO} (hi:hp.length+5<=i) (hc:∀ q,H[i]? ≠some (.code q)):kM hp aS cX aJ P Kd L sh nv wv (H.set i o):=
 ⟨az m.c69 (by exact la [_,_] [] [.l (.a .v0 (.n 5)) .v1] (.n (.e .v1 .v0)) (.f [1,0,1]) rfl hi),az m.c70 (by exact la [_,_] [] [.l (.a .v0 (.n 5)) .v1] (.n (.e .v1 (.a .v0 .n1))) (.f [1,0,1]) rfl hi),az m.c34 (by exact la [_,_] [] [.l (.a .v0 (.n 5)) .v1] (.n (.e .v1 (.a .v0 .n2))) (.f [1,0,1]) rfl hi),az m.c42 (by exact la [_,_] [] [.l (.a .v0 (.n 5)) .v1] (.n (.e .v1 (.a .v0 (.n 3)))) (.f [1,0,1]) rfl hi),az m.c74 (by exact la [_,_] [] [.l (.a .v0 (.n 5)) .v1] (.n (.e .v1 (.a .v0 (.n 4)))) (.f [1,0,1]) rfl hi),az m.hP (by have:=m.pl;exact la [_,_,_] [] [.l (.a .v0 (.n 5)) .v1,.t .v2 .v0] (.n (.e .v1 .v2)) (.f [1,1,0,1]) rfl hi this),az m.hK (by have:=m.kl;exact la [_,_,_] [] [.l (.a .v0 (.n 5)) .v1,.t .v2 .v0] (.n (.e .v1 .v2)) (.f [1,1,0,1]) rfl hi this),az m.hL (by have:=m.ll;exact la [_,_,_] [] [.l (.a .v0 (.n 5)) .v1,.t .v2 .v0] (.n (.e .v1 .v2)) (.f [1,1,0,1]) rfl hi this),m.gr.set (by exact la [_,_] [] [.l (.a .v0 (.n 5)) .v1] (.l .v0 .v1) (.f [1,1]) rfl hi) (by exact la [_,_] [] [.l (.a .v0 (.n 5)) .v1] (.l .n2 .v1) (.f [1,1]) rfl hi) hc,m.p2,m.k2,m.l2,m.pl,m.kl,m.ll⟩
noncomputable def mT (l:List (List Nat)):List PV:=l.map λw=>.str (S w)
noncomputable def Jk:PE:=.call (.glob 116 p0) (.cons (.loc 50 p0) (.cons (.sub (.cel 69 p0) (.loc 50 p0) p0) (.cons (.meth (.cel 74 p0) .count p0 (.cons (.loc 50 p0) .nil) p0) .nil))) p0
theorem fM {k kind t:Nat} (ht:t<=1):(fb k kind t).length<=2:=by
 rcases kind with _|_|_|_|n
 .exact Nat.le_succ 1
 .exact Nat.le_succ 1
 .exact ZA 2
 .exact Zu (Z8 aaV) (Nat.le_succ_of_le ht)
 .show(List.replicate t (if k<3 then[120,121] else[121,120]:List Nat)).flatten.length<=2
  rcases Nat.le_one_iff_eq_zero_or_eq_one.mp ht with rfl|rfl
  .exact ZM _
  .by_cases c:k<3
   .rw[if_pos c];exact ZA 2
   .rw[if_neg c];exact ZA 2
theorem u0 (l:List Nat) (k:Nat):(ah l).count (k:Int)=l.count k:=by
 induction l with
 |nil=>rfl
 |cons x r ih=>
  show((x:Int)::ah r).count (k:Int)=_
  rw[List.count_cons,List.count_cons,ih]
  by_cases q:x=k
  .subst q;simp
  .have: ¬ ((x:Int)=k):=by exact la [_,_] [] [.n (.e .v0 .v1)] (.n (.E (.c .v0) (.c .v1))) (.o 0 (.f [1,1]) (.f [1,0,1])) rfl q
   simp [q,this]
section
variable {cx:Cx} {A:Nat->Addr} {hp:List PO} {aS cX aJ:Nat} {P Kd L:List Nat} {sh:Nat} {nv:Option PV}
theorem Bl (l:List (List Nat)) (w:List Nat):mT l++[.str (S w)]=mT (l++[w]):=by unfold mT;rw[ZT];rfl
theorem qt (f:Nat->List Nat) (i:Nat):mT ((List.range i).map f)++[.str (S (f i))]=mT ((List.range (i+1)).map f):=by rw[Bl,List.range_succ,ZT];rfl
theorem Jl (G:GG cx A) (Bm:cx.D (A 116)=some ID) (h2:2<=hp.length) (hK:Kinds Kd) (hT:Tree P) {K:List PV->St->Prop} {H:List PO} {cI cP:Nat} (yk:∀ k,(bs P cP 0).count k<=1) (hn:cP<5) (m:kM hp aS cX aJ P Kd L sh nv (some (.ref cI)) H) (hw:H[cI]? =some (.list (aa (ah (bs P cP 0))))) (w2:2<=cI)
  (k:∀ l H',aq H H'->K (mT [eI P Kd cP 1,eI P Kd cP 2,eI P Kd cP 3,eI P Kd cP 4]) {loc:=l,ce:=[(69,hp.length),(74,hp.length+4)],hp:=H'}):
  ∃ n,bh (aN (.name 50 p0)) (cu cx .nil) (aZ cx Jk) K n (.rng 1 1 4 0) [] {loc:=[],ce:=[(69,hp.length),(74,hp.length+4)],hp:=H}:=by
 refine c9 4 (λi=>.rng 1 1 4 i) (λi aD σ=>∃ l H',σ={loc:=l,ce:=[(69,hp.length),(74,hp.length+4)],hp:=H'}/\aq H H'/\aD=mT ((List.range i).map λa=>eI P Kd cP (a+1))) ?_ ?_ ⟨[],H,rfl,.refl _,rfl⟩
 .rintro i aD σ hi ⟨l,H',rfl,g,rfl⟩
  refine⟨_,_,dY hi,λagain dZ=>?_⟩
  rw[show(1:Int)+(i:Int)*1=((i+1:Nat):Int) by exact la [_] [] [] (.E (.a .n1 (.M (.c .v0) 1)) (.c (.a .v0 .n1))) (.o 0 (.f [1]) (.f [1])) rfl]
  have m':=m.grow h2 g
  have Wd:i+1<5:=Nat.succ_lt_succ hi
  obtain⟨v,hv⟩:=dM hK.len Wd
  refine Zt (λø=>?_) (λq=>nomatch q)
  refine ax (G.g _ _ rfl) ?_
  refine bG m'.c69 ?_
  refine ay m'.hK (bJ hv) (rm Wd) ?_
  refine bG m'.c74 ?_
  refine Zt (e7 (g.keep _ _ w2 hw) trivial) ?_
  refine cq (g.keep _ _ w2 hw) (jI (bO _) ?_)
  rw[u0]
  refine bP Bm ⟨i+1,v,_,rfl,aaP (ZM _),hi,hK.le v (ZE hv),yk _,Zu h2 m'.gr.le,λaE g'=>Zt ?_ (dZ _ _ ⟨_,_,rfl,g.trans g',?_⟩)⟩
  .unfold mT
   rw[ZI,ZI,aaK]
   exact f6 (Zx hi) rfl
  .rw[<-eO hv]
   exact qt (λa=>eI P Kd cP (a+1)) i
 .rintro aD σ ⟨l,H',rfl,g,rfl⟩
  exact⟨dj,k _ _ g⟩
theorem qu (a b:List Nat):S a++S b=S (a++b):=by
 show(⟨a.toArray++b.toArray⟩:Str)=⟨(a++b).toArray⟩
 simp
noncomputable def Ys (hp:List PO) (aS cX aJ:Nat) (P Kd L:List Nat) (sh:Nat) (nv:Option PV) (bT cI bg:Nat) (q:Int) (N:PO) (t:Nat) (σ:St):Prop:=∀ C:Prop,(∀ l H wv,σ={loc:=l,ce:=fY hp.length,hp:=H}->kM hp aS cX aJ P Kd L sh nv wv H->H[bT]? =some N->H[cI]? =some (.list (mT ((List.range t).map (aP P Kd))))->l.get 72=some (.ref cI)->l.get 58=some (.ref aS)->l.get 71=some (.int (bg:Nat))->l.get 27=some (.int q)->C)->C
theorem ls {a b:List Nat} {m n:Nat} (ha:a.length<=m) (hb:b.length<=n) (h:m+n<=1000000):aV ((S a).length+(S b).length):=by rw[dX,dX];exact Zu (aac ha hb) h
theorem ii {a b:List Nat} {m n:Nat} (ha:a.length<=m) (hb:b.length<=n):(a++b).length<=m+n:=by rw[Zw];exact aac ha hb
theorem Bn (G:GG cx A) (tl:cx.D (A 115)=some lf) (Bm:cx.D (A 116)=some ID) (h2:2<=hp.length) (hK:Kinds Kd) (hT:Tree P) (yk:∀ cP,cP<5->∀ k,(bs P cP 0).count k<=1) {bg:Nat} {q:Int} {Q:ba} {H:List PO} {l:Loc} {cI bT:Nat} {N:PO} {wv:Option PV} (yn:hp.length+5<=bT) (Yt:bT≠cI) (hN:H[bT]? =some N)
  (m:kM hp aS cX aJ P Kd L sh nv wv H) (hw:H[cI]? =some (.list [])) (Jm:hp.length+5<=cI) (l72:l.get 72=some (.ref cI)) (l58:l.get 58=some (.ref aS)) (l71:l.get 71=some (.int (bg:Nat))) (l27:l.get 27=some (.int q))
  (k:∀ l' H' Yu,kM hp aS cX aJ P Kd L sh nv Yu H'->H'[bT]? =some N->H'[cI]? =some (.list (mT ((List.range 5).map (aP P Kd))))->l'.get 72=some (.ref cI)->l'.get 58=some (.ref aS)->l'.get 71=some (.int (bg:Nat))->l'.get 27=some (.int q)->aF cx Fx Q {loc:=l',ce:=fY hp.length,hp:=H'}):
  aF cx Fy Q {loc:=l,ce:=fY hp.length,hp:=H}:=by
 repeat walk_at "o"
 refine Zt (by decide) ?_
 refine eR (af _ _) ?_
 refine fI 5 (λt=>.rng 0 1 5 t) (Ys hp aS cX aJ P Kd L sh nv bT cI bg q N) ?_ ?_ λC c=>c l _ wv rfl (m.grow h2 (.push _ _)) (ac hN _) (ac hw _) l72 l58 l71 l27
 .intro cP σ hn I
  refine I _ λl H wv e m hN hw l72 l58 l71 l27=>?_
  subst e
  refine⟨_,_,nW hn,λagain dZ=>?_⟩
  repeat walk_at "o"
  refine bP tl (rb (f:=cP) (s:=0) m.hP hT hn (by decide) (Zu h2 m.gr.le) λH1 w g1 iA Jn=>?_)
  have m1:=m.grow h2 g1
  have Yv:=m.gr.le
  have n2:2<=bT:=Zu h2 (Zy yn)
  have w2:2<=cI:=Zu h2 (Zy Jm)
  have pF:hp.length+4<H.length:=(Zv.mp m.c74).1
  refine gX m1.c74 ?_
  have m2:=m1.set74 h2 (some (.ref w))
  have kR:=az (o':=.cell (some (.ref w))) Jn (Z7 (ZD pF iA))
  have Ut:=az (o':=.cell (some (.ref w))) (g1.keep _ _ w2 hw) (Z7 Jm)
  have Ul:=az (o':=.cell (some (.ref w))) (g1.keep _ _ n2 hN) (Z7 yn)
  have ww:2<=w:=Zu h2 (Zu Yv iA)
  generalize H1.set (hp.length+4) (.cell (some (.ref w)))=H2 at*
  refine Zt rfl ?_
  repeat walk_at "o"
  refine Zt (by decide) (Zt (by decide) ?_)
  refine eR (af _ _) ?_
  refine Jl G Bm h2 hK hT (yk cP hn) hn (m2.grow h2 (.push _ _)) (ac kR _) ww λl3 H3 g3=>?_
  have m3:=(m2.grow h2 (.push _ _)).grow h2 g3
  have Ed:=g3.keep _ _ w2 (ac Ut _)
  have Yw:=g3.keep _ _ n2 (ac Ul _)
  have pl:∀ k,(eI P Kd cP k).length<=2:=λk=>fM (yk cP hn k)
  refine ax l72 ?_
  refine Zt (e7 (ac Ed _) trivial) ?_
  refine ay (k:=0) (af _ _) rfl (by decide) ?_
  refine ay (k:=1) (af _ _) rfl (by decide) ?_
  refine Zt (ls (pl 1) (pl 2) (by decide)) ?_
  rw[qu]
  refine Zt (ls (b:=[49]) (ii (pl 1) (pl 2)) (ZA 1) (by decide)) ?_
  rw[show Str.ofString "1"=S [49] from rfl,qu]
  refine ay (k:=2) (af _ _) rfl (by decide) ?_
  refine Zt (ls (ii (b:=[49]) (ii (pl 1) (pl 2)) (ZA 1)) (pl 3) (by decide)) ?_
  rw[qu]
  refine ay (k:=3) (af _ _) rfl (by decide) ?_
  refine Zt (ls (ii (ii (b:=[49]) (ii (pl 1) (pl 2)) (ZA 1)) (pl 3)) (pl 4) (by decide)) ?_
  rw[qu]
  refine cq (ac Ed _) (Zt (by unfold mT;rw[ZI,ZI,aaK];exact f6 (Zx hn) rfl) ?_)
  refine dZ _ λC c=>c _ _ (some (.ref w)) rfl ((m3.grow h2 (.push _ _)).setO h2 Jm λq e=>by rw[ac Ed] at e;cases e) (az (ac Yw _) (aaO Yt)) ((d9 (ac Ed _) _).trans (congrArg (λz=>some (PO.list z)) (qt (aP P Kd) cP))) l72 l58 l71 l27
 .intro σ I
  refine I _ λl H wv e m hN hw l72 l58 l71 l27=>?_
  subst e
  exact⟨dj,k _ _ _ m hN hw l72 l58 l71 l27⟩
end
noncomputable def Oq:PE:=.sub (.cel 42 p0) (.bin .Add (.bin .Sub (.loc 78 p0) (.int 1 p0) p0) (.cel 34 p0) p0) p0
noncomputable def Ot:PE:=.bin .Pow (.int 2 p0) (.bin .Add (.bin .Sub (.loc 78 p0) (.int 1 p0) p0) (.cel 34 p0) p0) p0
noncomputable def Jo:PE:=.bin .Add (.bin .Add (.loc 85 p0) (.bin .Mult (.str (Str.ofString "-") p0) (.int 41 p0) p0) p0) (.loc 85 p0) p0
noncomputable def dB (W:List Nat) (sh:Nat):List Str:=W.map λe=>iq.getD (e-1+sh) Str.empty
noncomputable def f9 (W:List Nat) (sh:Nat):List Nat:=W.map λe=>2^(e-1+sh)
noncomputable def eJ (w:List Nat):List Nat:=w++List.replicate 41 45++w
theorem qv:iq.length=12:=rfl
section
variable {cx:Cx} {A:Nat->Addr} {hp:List PO} {aS cX aJ:Nat} {P Kd L:List Nat} {sh:Nat} {wv:Option PV}
theorem w5 {e sh:Nat} (h:0<e):(e:Int)-1+(sh:Int)=((e-1+sh:Nat):Int):=by exact la [_,_] [] [.t .n0 .v0] (.E (.a (.s (.c .v0) .n1) (.c .v1)) (.c (.a (.s .v0 .n1) .v1))) (.o 0 (.k true (.s .v0 .n1) (.o 0 (.f [0,1,0,1,1]) (.f [0,1,0,1]))) (.k true (.s .v0 .n1) (.o 0 (.f [0,0,1,1]) (.f [1,0,0,1])))) rfl h
theorem Bo {n:Nat} (h:n<12):(d8 iq)[n]? =some (.str (iq.getD n Str.empty)):=by
 unfold d8
 rw[Z9,ZC,ZB (by rw[qv];exact h)];rfl
theorem kv {W:List Nat} {n i:Nat} (h:W.length<=n) (hn:Nat.ble n 1000000=true):(W.take i).length<=1000000:=by rw[Z6];exact Zu (aaQ ..) (f6 h hn)
theorem Jp (G:GG cx A) (h2:2<=hp.length) (sW:sh<=8) {K:List PV->St->Prop} {H:List PO} {cI bT:Nat} {W:List Nat} (m:kM hp aS cX aJ P Kd L sh (some (.ref bT)) wv H) (hn:H[bT]? =some (.list (d8 iq))) (hW:H[cI]? =some (.list (aa (ah W)))) (pF:∀ e∈W,e<5/\0<e) (hs:W.length<=100)
  (k:∀ l,K (d8 (dB W sh)) {loc:=l,ce:=[(42,hp.length+3),(34,hp.length+2)],hp:=H}):
  ∃ n,bh (aN (.name 78 p0)) (cu cx .nil) (aZ cx Oq) K n (.lst cI 0) [] {loc:=[],ce:=[(42,hp.length+3),(34,hp.length+2)],hp:=H}:=by
 refine c9 W.length (λi=>.lst cI i) (λi aD σ=>∃ l,σ={loc:=l,ce:=[(42,hp.length+3),(34,hp.length+2)],hp:=H}/\aD=d8 (dB (W.take i) sh)) ?_ ?_ ⟨[],rfl,rfl⟩
 .rintro i aD σ hi ⟨l,rfl,rfl⟩
  obtain⟨e,he⟩:=dM rfl hi
  have oF:=pF e (ZE he)
  have hx:e-1+sh<12:=by exact la [_,_] [] [.l .v0 (.n 8),.t .v1 (.n 5)] (.t (.a (.s .v1 .n1) .v0) (.n 12)) (.k true (.s .v1 .n1) (.o 0 (.f [0,1,0,0,1,1]) (.f [0,1,0,1,1,1]))) rfl sW oF.1
  refine⟨.int (e:Nat),_,dz hW (bJ he),λagain dZ=>?_⟩
  refine Zt (λø=>?_) (λq=>nomatch q)
  refine bG m.c42 ?_
  refine bG m.c34 ?_
  refine mN (w5 oF.2) hn (Bo hx) (f6 (Zx hx) rfl) ?_
  refine Zt ?_ (dZ _ _ ⟨_,rfl,?_⟩)
  .unfold d8 dB;rw[ZI,ZI];exact kv hs rfl
  .rw[km,aaj,he]
   unfold dB
   rw[ZT];rfl
 .rintro aD σ ⟨l,rfl,rfl⟩
  exact⟨eN hW (by rw[ar,aG]),by rw[aay];exact k l⟩
theorem Jq (G:GG cx A) (h2:2<=hp.length) (sW:sh<=8) {K:List PV->St->Prop} {H:List PO} {cI:Nat} {nv:Option PV} {W:List Nat} (m:kM hp aS cX aJ P Kd L sh nv wv H) (hW:H[cI]? =some (.list (aa (ah W)))) (pF:∀ e∈W,e<5/\0<e) (hs:W.length<=100)
  (k:∀ l,K (aa (ah (f9 W sh))) {loc:=l,ce:=[(34,hp.length+2)],hp:=H}):
  ∃ n,bh (aN (.name 78 p0)) (cu cx .nil) (aZ cx Ot) K n (.lst cI 0) [] {loc:=[],ce:=[(34,hp.length+2)],hp:=H}:=by
 refine c9 W.length (λi=>.lst cI i) (λi aD σ=>∃ l,σ={loc:=l,ce:=[(34,hp.length+2)],hp:=H}/\aD=aa (ah (f9 (W.take i) sh))) ?_ ?_ ⟨[],rfl,rfl⟩
 .rintro i aD σ hi ⟨l,rfl,rfl⟩
  obtain⟨e,he⟩:=dM rfl hi
  have oF:=pF e (ZE he)
  have hx:e-1+sh<=100:=by exact la [_,_] [] [.l .v0 (.n 8),.t .v1 (.n 5)] (.l (.a (.s .v1 .n1) .v0) (.n 100)) (.k true (.s .v1 .n1) (.o 0 (.f [0,1,0,0,1,1]) (.f [0,1,0,1,1,1]))) rfl sW oF.1
  refine⟨.int (e:Nat),_,dz hW (bJ he),λagain dZ=>?_⟩
  refine Zt (λø=>?_) (λq=>nomatch q)
  refine bG m.c34 ?_
  refine Zt ?_ (Zt ?_ ?_)
  .rw[w5 oF.2];exact ZP _
  .rw[w5 oF.2];exact PL (by decide) hx
  rw[w5 oF.2,ZO,i7]
  refine Zt ?_ (dZ _ _ ⟨_,rfl,?_⟩)
  .rw[ar,aG];unfold f9;rw[ZI];exact kv hs rfl
  .rw[cR,aaj,he]
   unfold f9
   rw[ZT];rfl
 .rintro aD σ ⟨l,rfl,rfl⟩
  exact⟨eN hW (by rw[ar,aG]),by rw[aay];exact k l⟩
theorem Jr:Txt.mul (Str.ofString "-") 41=S (List.replicate 41 45):=by decide+kernel
theorem Js (G:GG cx A) {ce:List (Nat×Nat)} {K:List PV->St->Prop} {H:List PO} {cI:Nat} {a b:List Nat} (hW:H[cI]? =some (.list [.str (S a),.str (S b)])) (ha:a.length<=100) (hb:b.length<=100)
  (k:∀ l,K [.str (S (eJ a)),.str (S (eJ b))] {loc:=l,ce:=ce,hp:=H}):
  ∃ n,bh (aN (.name 85 p0)) (cu cx .nil) (aZ cx Jo) K n (.lst cI 0) [] {loc:=[],ce:=ce,hp:=H}:=by
 refine c9 2 (λi=>.lst cI i) (λi aD σ=>∃ l,σ={loc:=l,ce:=ce,hp:=H}/\aD=(mT ([a,b].map eJ)).take i) ?_ ?_ ⟨[],rfl,rfl⟩
 .rintro i aD σ hi ⟨l,rfl,rfl⟩
  obtain⟨w,hw,FU,e⟩:∃ w,[PV.str (S a),PV.str (S b)][i]? =some (.str (S w))/\w.length<=100/\(mT ([a,b].map eJ)).take (i+1)=(mT ([a,b].map eJ)).take i++[.str (S (eJ w))]:=by
   cases i with
   |zero=>exact⟨a,rfl,ha,rfl⟩
   |succ i=>obtain rfl:i=0:=Nat.lt_one_iff.mp (Nat.lt_of_succ_lt_succ hi);exact⟨b,rfl,hb,rfl⟩
  have Ou:(List.replicate 41 45).length<=41:=ZA _
  refine⟨_,_,dz hW hw,λagain dZ=>?_⟩
  refine Zt (λø=>?_) (λq=>nomatch q)
  refine Zt (by decide) (Zt (by decide) (Zt (by decide:(1:Nat)<=1000) ?_))
  rw[Jr]
  refine Zt (ls FU Ou (by decide)) ?_
  rw[qu]
  refine Zt (ls (ii FU Ou) FU (by decide)) ?_
  rw[qu]
  refine Zt ?_ (dZ _ _ ⟨_,rfl,e.symm⟩)
  rw[Z6]
  exact Zu (Nat.min_le_left ..) (f6 (Zx hi) rfl)
 .rintro aD σ ⟨l,rfl,rfl⟩
  exact⟨eN hW rfl,k l⟩
end
noncomputable def ir (P Kd:List Nat) (i j s:Nat):List Nat:=aP P Kd (if s=0 then i else j)
noncomputable def lu (W:List Nat) (sh:Nat):Str:=if W=[] then "0x0" else Txt.join (Str.ofString ", ") (dB W sh)
noncomputable def d6 (Kd L W:List Nat):Nat:=if W=[]\/(W.length=1/\2<Kd.getD (W.getD 0 0) 0) then bL L W else 1
structure lv (P Kd L:List Nat) (sh bg i j:Nat):Prop where
 fl:∃ ys,Cs 32 0 ((f9 (bs P i j) sh).sum:Nat) []=some ys/\aV ((ys.map (·.length)).sum+ys.length*2)/\Txt.join ", " ys=lu (bs P i j) sh
 told:qV (ir P Kd i j ((bg+j)%2)) (ir P Kd i j (1-(bg+j)%2)) ((bL L (bs P i j):Nat)-1+((bg+i+j)%3:Nat))=(bL L (bs P i j):Nat)
 bare:qV (ir P Kd i j (1-(bg+j)%2)) (ir P Kd i j ((bg+j)%2)) 0=(d6 Kd L (bs P i j):Nat)
 far:qV (eJ (aP P Kd i)) (eJ (aP P Kd j)) 30=if bs P i j=[] then 0 else 31
structure Ee (hp:List PO) (aS cX aJ bT:Nat) (P Kd L:List Nat) (sh:Nat) (wv:Option PV) (i j cI eW bA:Nat) (rs:List Nat) (M:d5) (H:List PO):Prop where
 m:kM hp aS cX aJ P Kd L sh (some (.ref bT)) wv H
 hw:H[cI]? =some (.list (mT ((List.range 5).map (aP P Kd))))
 wi:hp.length+5<=cI
 he:H[eW]? =some (.list (aa (ah (bs P i j))))
 ei:hp.length+5<=eW
 mt:ci H bA rs M
 ti:hp.length+5<=bA
 ri:∀ r∈rs,hp.length+5<=r
 tr:bA∉rs
 wr:∀ r∈rs,r≠cI
structure w6 (aS cI eW bA bg:Nat) (q:Int) (i j:Nat) (l:Loc):Prop where
 l72:l.get 72=some (.ref cI)
 l58:l.get 58=some (.ref aS)
 l71:l.get 71=some (.int (bg:Nat))
 l27:l.get 27=some (.int q)
 l43:l.get 43=some (.int (i:Nat))
 l77:l.get 77=some (.int (j:Nat))
 l59:l.get 59=some (.ref eW)
 l76:l.get 76=some (.ref bA)
theorem w6.set {aS cI eW bA bg:Nat} {q:Int} {i j:Nat} {l:Loc} (p:w6 aS cI eW bA bg q i j l) (x:Nat) (v:PV) (h:x∉[72,58,71,27,43,77,59,76]):w6 aS cI eW bA bg q i j (l.set x v):=by
 have go:∀ y∈[72,58,71,27,43,77,59,76],(l.set x v).get y=l.get y:=λy hy=>by rw[Loc.get_set,if_neg];rintro rfl;exact h hy
 exact⟨by rw[go _ (by decide)];exact p.l72,by rw[go _ (by decide)];exact p.l58,by rw[go _ (by decide)];exact p.l71,by rw[go _ (by decide)];exact p.l27,by rw[go _ (by decide)];exact p.l43,by rw[go _ (by decide)];exact p.l77,by rw[go _ (by decide)];exact p.l59,by rw[go _ (by decide)];exact p.l76⟩
theorem Ee.grow {hp:List PO} {aS cX aJ bT:Nat} {P Kd L:List Nat} {sh:Nat} {wv:Option PV} {i j cI eW bA:Nat} {rs:List Nat} {M:d5} {H H':List PO} (p:Ee hp aS cX aJ bT P Kd L sh wv i j cI eW bA rs M H) (h2:2<=hp.length) (g:aq H H'):Ee hp aS cX aJ bT P Kd L sh wv i j cI eW bA rs M H':=
 ⟨p.m.grow h2 g,g.keep _ _ (by have:=p.wi;exact la [_,_] [] [.l (.a .v0 (.n 5)) .v1] (.l .n2 .v1) (.f [1,1]) rfl this) p.hw,p.wi,g.keep _ _ (by have:=p.ei;exact la [_,_] [] [.l (.a .v0 (.n 5)) .v1] (.l .n2 .v1) (.f [1,1]) rfl this) p.he,p.ei,p.mt.grow g (by have:=p.ti;exact la [_,_] [] [.l (.a .v0 (.n 5)) .v1] (.l .n2 .v1) (.f [1,1]) rfl this) (λr hr=>by have:=p.ri r hr;exact la [_,_] [] [.l (.a .v0 (.n 5)) .v1] (.l .n2 .v1) (.f [1,1]) rfl this),p.ti,p.ri,p.tr,p.wr⟩
theorem tm (l:List Nat):(ah l).sum=((l.sum:Nat):Int):=IG l
section
variable {cx:Cx} {A:Nat->Addr} {hp:List PO} {aS cX aJ bT:Nat} {P Kd L:List Nat} {sh bg:Nat} {q:Int} {wv:Option PV} {i j cI eW bA:Nat} {rs:List Nat} {M:d5}
theorem Ef (G:GG cx A) (kw:cx.D (A 103)=some nT) (h2:2<=hp.length) (hK:Kinds Kd) (hL:eD L) (hT:Tree P) (hq:q.natAbs<=4) {Q:ba} {H:List PO} {l:Loc} (hi:i<5) (hj:j<5)
  (O:lv P Kd L sh bg i j) (p:Ee hp aS cX aJ bT P Kd L sh wv i j cI eW bA rs M H) (pl:w6 aS cI eW bA bg q i j l) (At:l.get 79=some (.int (bL L (bs P i j):Nat)))
  (k:∀ l',l'.get 80=some (.int (d6 Kd L (bs P i j):Nat))->l'.get 79=some (.int (bL L (bs P i j):Nat))->w6 aS cI eW bA bg q i j l'->∀ H',aq H H'->aF cx so Q {loc:=l',ce:=fY hp.length,hp:=H'}):
  aF cx Ft Q {loc:=l,ce:=fY hp.length,hp:=H}:=by
 have yv:=nZ hT hi hj
 have Gr:(bs P i j).length<=8:=w8 hi hj
 have he:=p.he
 have pm:=(p.grow h2 (.push H (.list []))).m
 have l59:=pl.l59
 have ck:∀ n,n=d6 Kd L (bs P i j)->aF cx so Q {loc:=l.set 80 (.int (n:Nat)),ce:=fY hp.length,hp:=H++[.list []]}:=λn e=>k (l.set 80 (.int (n:Nat))) (by rw[<-e];rfl) At (pl.set _ _ (by decide)) _ (.push _ _)
 unfold d6 at ck
 generalize bs P i j=W at*
 repeat walk_at "o"
 refine Zt (ZM _) ?_
 refine Qn (ac he _) (af _ _) (Qo (bO _) rfl ?_)
 cases W with
 |nil=>
  refine Zt (λø=>Zt (λø=>?_) (λq=>nomatch q)) (λq=>nomatch q)
  refine ax At ?_
  exact ck _ (if_pos (.inl rfl)).symm
 |cons e r=>
  refine Zt (λq=>nomatch q) (λø=>?_)
  refine ax (G.g _ _ rfl) ?_
  refine ax l59 ?_
  refine cq (ac he _) (Zt (by rw[ar,aG];exact f6 Gr rfl) ?_)
  cases r with
  |nil=>
   have Nm:=yv e (.head _)
   obtain⟨v,hv⟩:=dM hK.len Nm.1
   have ck:∀ n,n=(if[e]=[]\/([e].length=1/\2<v) then bL L [e] else 1)->aF cx so Q {loc:=l.set 80 (.int (n:Nat)),ce:=fY hp.length,hp:=H++[.list []]}:=λn z=>ck n (by rw[z,<-eO hv];rfl)
   refine gZ rfl ?_
   refine bG pm.c69 ?_
   refine ax l59 ?_
   refine ay (k:=0) (ac he _) rfl (by decide) ?_
   refine ay pm.hK (bJ hv) (rm Nm.1) ?_
   by_cases z:2<v
   .have z':decide ((2:Int)<(v:Int))=true:=decide_eq_true (aak.mpr z)
    refine gZ (by rw[z'];rfl) ?_
    refine gY rfl (gY rfl ?_)
    refine ax At ?_
    exact ck _ (if_pos (.inr ⟨rfl,z⟩)).symm
   .have z':decide ((2:Int)<(v:Int))=false:=decide_eq_false λq=>z (aak.mp q)
    refine gY (by rw[z'];rfl) ?_
    refine gZ z' ?_
    exact Zt (λq=>nomatch q) λø=>ck 1 (if_neg λq=>q.elim (λq=>nomatch q) λq=>z q.2).symm
  |cons b r=>
   have z':(((aa (ah (e::b::r))).length:Int)==1)=false:=beq_eq_false_iff_ne.mpr (by rw[ar,aG,ZL,ZL];exact la [_] [] [] (.n (.E (.c (.a (.a .v0 .n1) .n1)) .n1)) (.f [0,1]) rfl)
   refine gY (by rw[z'];rfl) ?_
   refine gZ z' ?_
   exact Zt (λq=>nomatch q) λø=>ck 1 (if_neg λq=>q.elim (λq=>nomatch q) λq=>nomatch q.1).symm
end
theorem Bp:∀ c<128,(Txt.lower (S [c])).length<=3:=by decide+kernel
theorem w7 (l:List Nat) (h:∀ c∈l,c<128) (i:Nat):l.getD i 0<128:=by
 rw[ZC]
 cases e:l[i]? with
 |none=>exact(by decide:0<128)
 |some v=>exact h v (ZE e)
theorem jr (k kind t:Nat):∀ c∈fb k kind t,c<128:=by
 have h1:=w7 [65,97,66,98,67,99,68,100] (by decide) (2*k-1-t)
 have h2:=w7 [109,110,111,112,115,116,117,118] (by decide) (k-1+4*t)
 have h3:∀ c∈(if k<3 then[120,121] else[121,120]:List Nat),c<128:=by split<;>decide
 rcases kind with _|_|_|_|n<;>intro c hc
 .rw[ZG.mp hc];exact h1
 .rw[ZG.mp hc];exact h2
 .exact(Z1.mp hc).elim (λq=>by rw[ZG.mp q];exact h1) λq=>by rw[ZG.mp q];exact h2
 .rw[List.eq_of_mem_replicate hc];decide
 .obtain⟨l,hl,jY⟩:=List.mem_flatten.mp hc
  rw[List.eq_of_mem_replicate hl] at jY
  exact h3 c jY
theorem kz (P Kd:List Nat) (n:Nat):∀ c∈aP P Kd n,c<128:=by
 intro c hc
 unfold aP eI at hc
 simp only[Z1,ZG] at hc
 rcases hc with(((h|h)|h)|h)|h
 .exact jr _ _ _ c h
 .exact jr _ _ _ c h
 .exact la [_] [] [.e .v0 (.n 49)] (.t .v0 (.n 128)) (.f [0,1,1]) rfl h
 .exact jr _ _ _ c h
 .exact jr _ _ _ c h
theorem qw {P Kd:List Nat} {n:Nat} (h:∀ k,(bs P n 0).count k<=1):(aP P Kd n).length<=9:=by
 unfold aP eI
 have p1:=fM (k:=1) (kind:=Kd.getD 1 0) (h 1)
 have p2:=fM (k:=2) (kind:=Kd.getD 2 0) (h 2)
 have p3:=fM (k:=3) (kind:=Kd.getD 3 0) (h 3)
 have p4:=fM (k:=4) (kind:=Kd.getD 4 0) (h 4)
 simp only[Zw,List.length_singleton]
 exact la [_,_,_,_] [] [.l .v0 .n2,.l .v1 .n2,.l .v2 .n2,.l .v3 .n2] (.l (.a (.a (.a (.a .v0 .v1) .n1) .v2) .v3) (.n 9)) (.f [1,1,1,1,1]) rfl p1 p2 p3 p4
section
variable {cx:Cx} {A:Nat->Addr} {hp:List PO} {aS cX aJ bT:Nat} {P Kd L:List Nat} {sh bg:Nat} {q:Int} {wv:Option PV} {i j cI eW bA:Nat} {rs:List Nat} {M:d5}
theorem tn (P Kd:List Nat):∀ n,n<5->(mT ((List.range 5).map (aP P Kd)))[n]? =some (.str (S (aP P Kd n)))
 |0,_|1,_|2,_|3,_|4,_=>rfl
theorem Bq (P Kd:List Nat) (i j:Nat):∀ s,s<2->[PV.str (S (aP P Kd i)),PV.str (S (aP P Kd j))][s]? =some (.str (S (ir P Kd i j s)))
 |0,_|1,_=>rfl
theorem tq {P Kd:List Nat} {n c:Nat} (h:c∈eJ (aP P Kd n)):c<128:=by
 unfold eJ at h
 rcases Z1.mp h with h|h
 .rcases Z1.mp h with h|h
  .exact kz _ _ _ c h
  .rw[List.eq_of_mem_replicate h];decide
 .exact kz _ _ _ c h
theorem u3 {a b:List Nat} {m:Int} {hp:List PO} {K:PV->List PO->Prop} (ha:a.length<=1000) (hb:b.length<=1000) (hx:∀ c∈a++b,c<128) (h2:2<=hp.length) (k:∀ aE,aq hp aE->K (.int (qV a b m)) aE):nT [.str (S a),.str (S b),.int m] hp K:=
 ⟨a,b,m,rfl,ha,hb,λc hc=>Bp c (hx c hc),h2,k⟩
theorem Eg (G:GG cx A) (kw:cx.D (A 103)=some nT) (h2:2<=hp.length) (yk:∀ cP,cP<5->∀ k,(bs P cP 0).count k<=1) {Q:ba} {H:List PO} {l:Loc} (hi:i<5) (hj:j<5) (hD:bL L (bs P i j)<=1000)
  (O:lv P Kd L sh bg i j) (p:Ee hp aS cX aJ bT P Kd L sh wv i j cI eW bA rs M H) (pl:w6 aS cI eW bA bg q i j l) (At:l.get 79=some (.int (bL L (bs P i j):Nat))) (Uu:l.get 80=some (.int (d6 Kd L (bs P i j):Nat)))
  (k:∀ l',l'.get 54=some (.int (bL L (bs P i j):Nat))->l'.get 83=some (.int (d6 Kd L (bs P i j):Nat))->l'.get 86=some (.int (if bs P i j=[] then 0 else 31))->l'.get 79=some (.int (bL L (bs P i j):Nat))->l'.get 80=some (.int (d6 Kd L (bs P i j):Nat))->w6 aS cI eW bA bg q i j l'->∀ H',aq H H'->aF cx Ib Q {loc:=l',ce:=fY hp.length,hp:=H'}):
  aF cx so Q {loc:=l,ce:=fY hp.length,hp:=H}:=by
 obtain⟨Zk,told,bare,far⟩:=O
 have P1:(bg+j)%2<2:=Z5 _ (by decide)
 have e1:((bg:Int)+(j:Int)).fmod 2=(((bg+j)%2:Nat):Int):=cA (bg+j) 2
 have e3:((bg:Int)+(i:Int)+(j:Int)).fmod 3=(((bg+i+j)%3:Nat):Int):=cA (bg+i+j) 3
 generalize (bg+j)%2=s at*
 generalize (bg+i+j)%3=x3 at*
 have e2:(1:Int)-(s:Int)=((1-s:Nat):Int):=(Int.natCast_sub (Nat.le_of_lt_succ P1)).symm
 have P2:=Bq P Kd i j
 have s6:s<=1000000:=f6 (Zx P1) rfl
 have s1:1-s<2:=aa1 (aa6 ..)
 have sl:∀ s,∃ n,n<5/\ir P Kd i j s=aP P Kd n:=λs=>by
  unfold ir
  split
  .exact⟨i,hi,rfl⟩
  .exact⟨j,hj,rfl⟩
 have ch:∀ s s',∀ c∈ir P Kd i j s++ir P Kd i j s',c<128:=λs s' c hc=>(Z1.mp hc).elim (λh=>kz _ _ _ c h) (λh=>kz _ _ _ c h)
 have wl:∀ n,n<5->(aP P Kd n).length<=9:=λn h=>qw (yk n h)
 have ln:∀ s,(ir P Kd i j s).length<=1000:=λs=>by
  obtain⟨n,h,e⟩:=sl s
  rw[e]
  exact Zu (wl n h) (by decide)
 have gH:=p.m.gr.le
 have CN:=Zu h2 gH
 have l72:=pl.l72
 have l43:=pl.l43
 have l77:=pl.l77
 have l71:=pl.l71
 repeat walk_at "o"
 refine ay p.hw (tn P Kd i hi) (rm hi) ?_
 repeat walk_at "o"
 refine ay p.hw (tn P Kd j hj) (rm hj) ?_
 refine Zt (by decide:(2:Nat)<=1000000) ?_
 repeat walk_at "o"
 refine Zt (by decide) ?_
 rw[e1]
 refine ax (G.g _ _ rfl) ?_
 refine ay (af _ _) (P2 s P1) s6 ?_
 refine mN e2 (af _ _) (P2 _ s1) (f6 (Zx s1) rfl) ?_
 repeat walk_at "o"
 refine Zt (by decide) ?_
 rw[e3]
 refine bP kw (u3 (ln _) (ln _) (ch _ _) (Zu CN (aq.push _ _).le) λH1 g1=>?_)
 rw[told]
 have Uv:=g1.keep _ _ CN (af H (.list [PV.str (S (aP P Kd i)),PV.str (S (aP P Kd j))]))
 have Uw:=(aq.push H (.list [PV.str (S (aP P Kd i)),PV.str (S (aP P Kd j))])).trans g1
 refine ax (G.g _ _ rfl) ?_
 refine mN e2 Uv (P2 _ s1) (f6 (Zx s1) rfl) ?_
 refine ay Uv (P2 s P1) s6 ?_
 refine bP kw (u3 (ln _) (ln _) (ch _ _) (Zu CN Uw.le) λH2 g2=>?_)
 rw[bare]
 have Ov:=g2.keep _ _ CN Uv
 refine Zt rfl ?_
 refine il Ov ?_
 refine Js G Ov (Zu (wl i hi) (by decide)) (Zu (wl j hj) (by decide)) λlc=>?_
 have We:∀ n,n<5->(eJ (aP P Kd n)).length<=1000:=λn hn=>Zu (ii (ii (wl n hn) (Z8 aaV)) (wl n hn)) (by decide)
 refine ax (G.g _ _ rfl) ?_
 refine ay (k:=0) (af _ _) rfl (by decide) ?_
 refine ay (k:=1) (af _ _) rfl (by decide) ?_
 refine bP kw (u3 (We i hi) (We j hj) (λc hc=>(Z1.mp hc).elim tq tq) (Zu CN ((Uw.trans g2).trans (.push _ _)).le) λH3 g3=>?_)
 rw[far]
 refine k _ ?_ ?_ ?_ ?_ ?_ ?_ _ (((Uw.trans g2).trans (.push _ _)).trans g3)
 .rfl
 .rfl
 .rfl
 .exact At
 .exact Uu
 .exact((((((pl.set _ _ (by decide)).set _ _ (by decide)).set _ _ (by decide)).set _ _ (by decide)).set _ _ (by decide)).set _ _ (by decide))
theorem Jt {n:Nat} (hn:n<=31):((n:Int)).natAbs.log2<1920:=ZW (Zu (Nat.log2_le_self n) hn) (by decide)
theorem Ux:∀ l:List Int,vr (aa l)
 | []=>trivial
 |_::r=>Ux r
theorem Fg (a b c:String):vr (d8 [Str.ofString a,Str.ofString b,Str.ofString c]):=⟨dO _,dO _,dO _,trivial⟩
theorem Wf (W:List Nat):oI (aa (ah W)) []=some (!decide (ah W=[])):=by
 unfold oI
 rw[bO];rfl
theorem Yx (a b c:Str):oI (d8 [a,b,c]) (d8 [a,b,c])=some false:=by
 rw[th [a,b,c] [a,b,c] (λq=>nomatch q),decide_eq_true rfl];rfl
theorem w0 {W:List Nat}:decide (ah W=[])=decide (W=[]):=by cases W<;>rfl
theorem Ju (G:GG cx A) (h2:2<=hp.length) (hq:q.natAbs<=4) {Q:ba} {H:List PO} {l:Loc} {d:Nat} (hi:i<5) (hj:j<5) (hD:d<=16)
  (p:Ee hp aS cX aJ bT P Kd L sh wv i j cI eW bA rs M H) (pl:w6 aS cI eW bA bg q i j l) (Go:l.get 54=some (.int (d:Nat)))
  (k:∀ H',(∀ x o,x∉rs->H[x]? =some o->H'[x]? =some o)->kM hp aS cX aJ P Kd L sh (some (.ref bT)) wv H'->H'[cI]? =some (.list (mT ((List.range 5).map (aP P Kd))))->ci H' bA rs (eH (eH M i j (q^d)) j i (q^d))->Q .next {loc:=l,ce:=fY hp.length,hp:=H'}):
  aF cx C9 Q {loc:=l,ce:=fY hp.length,hp:=H}:=by
 have ri:=p.mt.mem hi
 have rj:=p.mt.mem hj
 have Ow:=p.mt.set hi hj p.tr (q^d)
 have l76:=pl.l76
 have l43:=pl.l43
 have l77:=pl.l77
 have l27:=pl.l27
 have bq:=PL hq (Zu hD (by decide:16<=100))
 repeat walk_at "o"
 refine Zt (ZP d) (Zt bq ?_)
 rw[ZO]
 repeat walk_at "o"
 refine ay p.mt.hd (p.mt.refs hi) (rm hi) ?_
 repeat walk_at "o"
 refine jJ (p.mt.row i hi) (by rw[ku];exact hj) (rm hj) ?_
 rw[ZO]
 have m1:=p.m.setO h2 (o:=.list ((aa (gv M i)).set j (.int (q^d)))) (p.ri _ ri) λr e=>by rw[p.mt.row i hi] at e;cases e
 have iA:=az (o':=.list ((aa (gv M i)).set j (.int (q^d)))) p.hw (p.wr _ ri)
 have Yy:∀ x o,x∉rs->H[x]? =some o->(H.set (rs.getD i 0) (.list ((aa (gv M i)).set j (.int (q^d)))))[x]? =some o:=λx o hx e=>az e (λz=>hx (z▸ri))
 generalize H.set (rs.getD i 0) (.list ((aa (gv M i)).set j (.int (q^d))))=H1 at*
 repeat walk_at "o"
 refine Zt (ZP d) (Zt bq ?_)
 rw[ZO]
 repeat walk_at "o"
 refine ay Ow.hd (Ow.refs hj) (rm hj) ?_
 repeat walk_at "o"
 refine jJ (Ow.row j hj) (by rw[ku];exact hi) (rm hi) ?_
 rw[ZO]
 exact k _ (λx o hx e=>az (Yy x o hx e) λz=>hx (z▸rj)) (m1.setO h2 (p.ri _ rj) λr e=>by rw[Ow.row j hj] at e;cases e) (az iA (p.wr _ rj)) (Ow.set (i:=j) (j:=i) hj hi p.tr (q^d))
theorem Jv (G:GG cx A) (h2:2<=hp.length) (hq:q.natAbs<=4) {Q:ba} {H:List PO} {l:Loc} (hi:i<5) (hj:j<5) (hD:bL L (bs P i j)<=16) (hN:d6 Kd L (bs P i j)<=16)
  (p:Ee hp aS cX aJ bT P Kd L sh wv i j cI eW bA rs M H) (pl:w6 aS cI eW bA bg q i j l) (At:l.get 79=some (.int (bL L (bs P i j):Nat))) (Uu:l.get 80=some (.int (d6 Kd L (bs P i j):Nat)))
  (Go:l.get 54=some (.int (bL L (bs P i j):Nat))) (Yz:l.get 83=some (.int (d6 Kd L (bs P i j):Nat))) (Wg:l.get 86=some (.int (if bs P i j=[] then 0 else 31)))
  (k:∀ H',(∀ x o,2<=x->x∉rs->H[x]? =some o->H'[x]? =some o)->kM hp aS cX aJ P Kd L sh (some (.ref bT)) wv H'->H'[cI]? =some (.list (mT ((List.range 5).map (aP P Kd))))->ci H' bA rs (eH (eH M i j (q^bL L (bs P i j))) j i (q^bL L (bs P i j)))->Q .next {loc:=l,ce:=fY hp.length,hp:=H'}):
  aF cx Ib Q {loc:=l,ce:=fY hp.length,hp:=H}:=by
 have he:=p.he
 have l59:=pl.l59
 generalize hd:bL L (bs P i j)=d at*
 generalize hn:d6 Kd L (bs P i j)=n at*
 have ld:((d:Int)).natAbs.log2<1920:=Jt (Zu hD (by decide))
 have ln:((n:Int)).natAbs.log2<1920:=Jt (Zu hN (by decide))
 obtain⟨c,hc,lc⟩:∃ c:Nat,(c:Int)=(if bs P i j=[] then 0 else 31)/\c<=31:=by
  by_cases z:bs P i j=[]
  .exact⟨0,by rw[if_pos z];rfl,by decide⟩
  .exact⟨31,by rw[if_neg z];rfl,by decide⟩
 rw[<-hc] at Wg
 have g3:∀ a b c:PO,aq H (H++[a]++[b]++[c]):=λø ø ø=>((aq.push _ _).trans (.push _ _)).trans (.push _ _)
 refine ax (G.g _ _ rfl) ?_
 refine ax Go (Zt ld ?_)
 refine ax (G.g _ _ rfl) ?_
 refine ax Yz (Zt ln ?_)
 refine ax (G.g _ _ rfl) ?_
 refine ax Wg (Zt (Jt lc) ?_)
 refine Zt (by decide:(3:Nat)<=1000000) ?_
 refine ax (G.g _ _ rfl) ?_
 refine ax At (Zt ld ?_)
 refine ax (G.g _ _ rfl) ?_
 refine ax Uu (Zt ln ?_)
 refine ax l59 ?_
 refine Zt (by decide:(0:Nat)<=1000000) ?_
 refine y7 (ac (ac he _) _) (af _ _) ?_
 refine y8 (Wf _) (Zt (Ux _) (Zt trivial ?_))
 rw[w0]
 have ck:∀ s:String,Str.ofString (toString ((c:Nat):Int))=Str.ofString s->(And (aV 3) (push (.list [.str (Str.ofString (toString ((d:Nat):Int))),.str (Str.ofString (toString ((n:Nat):Int))),.str (Str.ofString s)]) (λbv ae=>xA .NotEq (.ref H.length) bv (λv=>oJ v (λt aw=>(t=true->aF cx Mk (λf ae=>(match f with|.next=>aF cx C9 Q ae|f=>Q f ae)) aw)/\(t=false->aF cx .nil (λf ae=>(match f with|.next=>aF cx C9 Q ae|f=>Q f ae)) aw))) ae)
   {loc:=l,ce:=fY hp.length,hp:=H++[PO.list [.str (Str.ofString (toString ((d:Nat):Int))),.str (Str.ofString (toString ((n:Nat):Int))),.str (Str.ofString (toString ((c:Nat):Int)))]]++[.list []]})):=λs e=>by
  rw[e]
  refine Zt (by decide:(3:Nat)<=1000000) ?_
  refine y7 (v:=d8 [Str.ofString (toString ((d:Nat):Int)),Str.ofString (toString ((n:Nat):Int)),Str.ofString s]) (w:=d8 [Str.ofString (toString ((d:Nat):Int)),Str.ofString (toString ((n:Nat):Int)),Str.ofString s]) (ac (ac (af _ _) _) _) (af _ _) ?_
  rw[Yx]
  refine Zt (Fg _ _ _) (Zt (Fg _ _ _) (Zt (λq=>nomatch q) λø=>?_))
  exact Ju G h2 hq hi hj hD (p.grow h2 (g3 _ _ _)) pl Go λH' a b c e=>k H' (λx o KI hx ex=>a x o hx ((g3 _ _ _).keep _ _ KI ex)) b c e
 by_cases z:bs P i j=[]
 .rw[if_pos z] at hc
  refine gZ (by rw[decide_eq_true z];rfl) ?_
  exact ck "0" (by rw[hc];rfl)
 .rw[if_neg z] at hc
  refine gY (by rw[decide_eq_false z];rfl) ?_
  exact ck "31" (by rw[hc];rfl)
end
theorem tu (i:Nat):(iq.getD i Str.empty).length<=20:=by
 by_cases h:i<12
 .exact(by decide+kernel:∀ i<12,(iq.getD i Str.empty).length<=20) i h
 .rw[ZC,aaR (by rw[qv];exact la [_] [] [.n (.t .v0 (.n 12))] (.l (.n 12) .v0) (.f [1,1]) rfl h)]
  exact ZM _
theorem qx (sh:Nat) (W:List Nat):((dB W sh).map (λx=>x.length)).sum<=20*W.length:=by
 induction W with
 |nil=>exact ZA 0
 |cons e W ih=>exact Zu (Z8 (aaS ..)) (Zu (Z8 (aao ..)) (aac ih (tu (e-1+sh))))
section
variable {cx:Cx} {A:Nat->Addr} {hp:List PO} {aS cX aJ bT:Nat} {P Kd L:List Nat} {sh bg:Nat} {q:Int} {wv:Option PV} {i j cI bA:Nat} {rs:List Nat} {M:d5}
theorem Br (G:GG cx A) (tv:cx.D (A 110)=some FS) (kw:cx.D (A 103)=some nT) (h2:2<=hp.length) (hK:Kinds Kd) (hL:eD L) (hT:Tree P) (hq:q.natAbs<=4) (sW:sh<=8) (yk:∀ cP,cP<5->∀ k,(bs P cP 0).count k<=1) {Q:ba} {H:List PO} {l:Loc} {eW:Nat} (hi:i<5) (hj:j<5) (hD:bL L (bs P i j)<=16) (hN:d6 Kd L (bs P i j)<=16)
  (O:lv P Kd L sh bg i j) (p:Ee hp aS cX aJ bT P Kd L sh wv i j cI eW bA rs M H) (pl:w6 aS cI eW bA bg q i j l) (Nd:l.get 41=some (.str (lu (bs P i j) sh)))
  (k:∀ l' H',(∀ x o,2<=x->x∉rs->H[x]? =some o->H'[x]? =some o)->w6 aS cI eW bA bg q i j l'->kM hp aS cX aJ P Kd L sh (some (.ref bT)) wv H'->H'[cI]? =some (.list (mT ((List.range 5).map (aP P Kd))))->ci H' bA rs (eH (eH M i j (q^bL L (bs P i j))) j i (q^bL L (bs P i j)))->Q .next {loc:=l',ce:=fY hp.length,hp:=H'}):
  aF cx Fu Q {loc:=l,ce:=fY hp.length,hp:=H}:=by
 have yv:=nZ hT hi hj
 have Gr:(bs P i j).length<=8:=w8 hi hj
 obtain⟨ys,hf,hs,YA⟩:=O.fl
 have l59:=pl.l59
 repeat walk_at "o"
 refine Zt rfl ?_
 repeat walk_at "o"
 refine il p.he ?_
 refine Jq G h2 sW p.m p.he yv (Zu Gr (by decide)) λlc=>?_
 refine cq (af _ _) (jI (bO _) ?_)
 rw[tm]
 have g2:=aq.push H (.list (aa (ah (f9 (bs P i j) sh))))
 refine bP tv ⟨_,ys,rfl,hf,hs,Zu h2 (p.m.gr.trans g2).le,λH3 g3=>?_⟩
 rw[YA]
 refine ax Nd ?_
 refine gZ (bne_self_eq_false _) ?_
 have p3:=p.grow h2 (g2.trans g3)
 repeat walk_at "o"
 refine Zt rfl ?_
 repeat walk_at "o"
 refine il p3.he ?_
 refine uH (cx:=cx) (ce:=[(70,hp.length+1)]) (W:=bs P i j) (aJ:=aJ) (L:=L) G rfl p3.m.c70 p3.m.hL p3.he (λe he=>by rw[hL.len];exact(yv e he).1) (Zu Gr (by decide)) (by rw[hL.len];decide) λlc=>?_
 refine cq (af _ _) (jI (bO _) ?_)
 rw[tm]
 have p4:=p3.grow h2 (.push H3 (.list (aa (ah (fK L (bs P i j))))))
 refine Ef G kw h2 hK hL hT hq hi hj O p4 (pl.set _ _ (by decide)) rfl λl5 a1 a2 YB H5 g5=>?_
 have p5:=p4.grow h2 g5
 refine Eg G kw h2 yk hi hj (Zu hD (by decide)) O p5 YB a2 a1 λl6 b1 b2 b3 b4 b5 Wh H6 g6=>?_
 exact Jv G h2 hq hi hj hD hN (p5.grow h2 g6) Wh b4 b5 b1 b2 b3 λH7 c0 c1 c2 c3=>k _ _ (λx o KI hx e=>c0 x o KI hx ((((g2.trans g3).trans ((aq.push _ _).trans g5)).trans g6).keep _ _ KI e)) Wh c1 c2 c3
theorem Eh (G:GG cx A) (tl:cx.D (A 115)=some lf) (tv:cx.D (A 110)=some FS) (kw:cx.D (A 103)=some nT) (h2:2<=hp.length) (hK:Kinds Kd) (hL:eD L) (hT:Tree P) (hq:q.natAbs<=4) (sW:sh<=8) (yk:∀ cP,cP<5->∀ k,(bs P cP 0).count k<=1) {Q:ba} {H:List PO} {l:Loc} (hi:i<5) (hj:j<5) (hD:bL L (bs P i j)<=16) (hN:d6 Kd L (bs P i j)<=16)
  (O:lv P Kd L sh bg i j) (m:kM hp aS cX aJ P Kd L sh (some (.ref bT)) wv H) (n2:2<=bT) (hn:H[bT]? =some (.list (d8 iq)))
  (hw:H[cI]? =some (.list (mT ((List.range 5).map (aP P Kd))))) (wi:hp.length+5<=cI) (mt:ci H bA rs M) (ti:hp.length+5<=bA) (ri:∀ r∈rs,hp.length+5<=r) (tr:bA∉rs) (wr:∀ r∈rs,r≠cI)
  (l72:l.get 72=some (.ref cI)) (l58:l.get 58=some (.ref aS)) (l71:l.get 71=some (.int (bg:Nat))) (l27:l.get 27=some (.int q)) (l43:l.get 43=some (.int (i:Nat))) (l77:l.get 77=some (.int (j:Nat))) (l76:l.get 76=some (.ref bA))
  (k:∀ l' H' eW,(∀ x o,2<=x->x∉rs->H[x]? =some o->H'[x]? =some o)->w6 aS cI eW bA bg q i j l'->kM hp aS cX aJ P Kd L sh (some (.ref bT)) wv H'->H'[cI]? =some (.list (mT ((List.range 5).map (aP P Kd))))->ci H' bA rs (eH (eH M i j (q^bL L (bs P i j))) j i (q^bL L (bs P i j)))->Q .next {loc:=l',ce:=fY hp.length,hp:=H'}):
  aF cx Fv Q {loc:=l,ce:=fY hp.length,hp:=H}:=by
 have yv:=nZ hT hi hj
 have Gr:(bs P i j).length<=8:=w8 hi hj
 have Wi:hp.length+5<=H.length:=(Zv.mp m.c74).1
 have z2:∀ {x:Nat},hp.length+5<=x->2<=x:=λh=>Zu h2 (Zy h)
 repeat walk_at "o"
 refine bP tl (rb m.hP hT hi hj (z2 Wi) λH1 eW g1 YC Jn=>?_)
 have p1:Ee hp aS cX aJ bT P Kd L sh wv i j cI eW bA rs M H1:=⟨m.grow h2 g1,g1.keep _ _ (z2 wi) hw,wi,Jn,Zu Wi YC,mt.grow g1 (z2 ti) (λr hr=>z2 (ri r hr)),ti,ri,tr,wr⟩
 have Uy:w6 aS cI eW bA bg q i j (l.set 59 (.ref eW)):=⟨l72,l58,l71,l27,l43,l77,rfl,l76⟩
 have kk:∀ l' H',(∀ x o,2<=x->x∉rs->H1[x]? =some o->H'[x]? =some o)->w6 aS cI eW bA bg q i j l'->kM hp aS cX aJ P Kd L sh (some (.ref bT)) wv H'->H'[cI]? =some (.list (mT ((List.range 5).map (aP P Kd))))->ci H' bA rs (eH (eH M i j (q^bL L (bs P i j))) j i (q^bL L (bs P i j)))->Q .next {loc:=l',ce:=fY hp.length,hp:=H'}:=λl' H' c0=>k l' H' eW λx o h1 h3 e=>c0 x o h1 h3 (g1.keep _ _ h1 e)
 refine Zt (ZM _) ?_
 refine y7 (ac Jn _) (af _ _) (y8 (Wf _) (Zt (Ux _) (Zt trivial ?_)))
 rw[w0]
 have p2:=p1.grow h2 (.push H1 (.list []))
 by_cases z:bs P i j=[]
 .refine gZ (by rw[decide_eq_true z];rfl) ?_
  exact Br G tv kw h2 hK hL hT hq sW yk hi hj hD hN O p2 (Uy.set 41 (.str "0x0") (by decide)) (by unfold lu;rw[if_pos z];rfl) λl' H' c0=>kk l' H' λx o h1 h3 e=>c0 x o h1 h3 (ac e _)
 .refine gY (by rw[decide_eq_false z];rfl) ?_
  have l59:=Uy.l59
  refine Zt trivial ?_
  refine Zt rfl ?_
  refine il (ac Jn _) ?_
  refine Jp G h2 sW p2.m (ac (g1.keep _ _ n2 hn) _) p2.he yv (Zu Gr (by decide)) λlc=>?_
  refine cq (af _ _) (y6 (ia _) (Zt ?_ ?_))
  .have rS:=qx sh (bs P i j)
   have YD:(dB (bs P i j) sh).length=(bs P i j).length:=ZI ..
   rw[YD]
   exact Zu (aac rS (Nat.mul_le_mul Gr (ZA 2))) (Zu (Nat.add_le_add_right (aa3 20 Gr) _) (by decide))
  .exact Br G tv kw h2 hK hL hT hq sW yk hi hj hD hN O (p2.grow h2 (.push _ (.list (d8 (dB (bs P i j) sh))))) (Uy.set 41 (.str (Txt.join (Str.ofString ", ") (dB (bs P i j) sh))) (by decide)) (by unfold lu;rw[if_neg z];rfl) λl' H' c0=>kk l' H' λx o h1 h3 e=>c0 x o h1 h3 (ac (ac e _) _)
end
noncomputable def yw:List (Nat×Nat):=[(1,0),(2,0),(2,1),(3,0),(3,1),(3,2),(4,0),(4,1),(4,2),(4,3)]
noncomputable def i9:List (Nat×Nat):=(0,0)::yw
noncomputable def yx (p:Nat×Nat):PO:=.tup [.int (p.1:Nat),.int (p.2:Nat)]
noncomputable def mr (P:bu) (σ:St):Prop:=∀ (aE:List PO) (i:Nat) (rs:List Nat),aq σ.hp aE->(∀ (j:Nat) o,σ.hp[j]? =some o->aE[j]? =some o)->aE[i]? =some (.list (rs.map .ref))->σ.hp.length<=i->rs.length=10->(∀ r∈rs,σ.hp.length<=r)->(∀ t p,yw[t]? =some p->aE[rs.getD t 0]? =some (yx p))->P (.ref i) {σ with hp:=aE}
structure w9 (P Kd L:List Nat) (sh bg:Nat):Prop where
 ct:∀ cP,cP<5->∀ k,(bs P cP 0).count k<=1
 pr:∀ p∈i9,bL L (bs P p.1 p.2)<=16/\d6 Kd L (bs P p.1 p.2)<=16/\lv P Kd L sh bg p.1 p.2
noncomputable def lw (P L:List Nat) (q:Int):d5:=λa b=>if a=b then 1 else q^bL L (bs P (max a b) (min a b))
noncomputable def Gs (P L:List Nat) (q:Int) (M:d5) (p:Nat×Nat):d5:=eH (eH M p.1 p.2 (q^bL L (bs P p.1 p.2))) p.2 p.1 (q^bL L (bs P p.1 p.2))
theorem Bs (P L:List Nat) (q:Int):∀ a b,a<5->b<5->i9.foldl (Gs P L q) (λø ø=>1) a b=lw P L q a b:=by
 intro a b ha hb
 rcases Ks ha with rfl|rfl|rfl|rfl|rfl<;>rcases Ks hb with rfl|rfl|rfl|rfl|rfl<;>first|rfl|exact Int.pow_zero q
noncomputable def mH:Spec:=λps hp K=>∃ aS cX aJ P Kd L sh bg q,ps=[.ref aS,.ref cX,.ref aJ,.int (sh:Nat),.int (bg:Nat),.int q]/\hp[aS]? =some (.list (aa (ah P)))/\hp[cX]? =some (.list (aa (ah Kd)))/\hp[aJ]? =some (.list (aa (ah L)))/\
 Tree P/\Kinds Kd/\eD L/\q.natAbs<=4/\sh<=8/\2<=aS/\2<=cX/\2<=aJ/\2<=hp.length/\w9 P Kd L sh bg/\
 ∀ aE bA rs,aq hp aE->tj aE bA rs 0 (lw P L q)->bA∉rs->hp.length<=bA->(∀ r∈rs,hp.length<=r)->K (.ref bA) aE
section
variable {cx:Cx} {A:Nat->Addr}
theorem Jw (Ox:cx.XE 0=some eV) (Oy:cx.XW 0=mr) {Q:bu} {σ:St} (h:mr Q σ):aZ cx (.ext 0 eV) Q σ:=Zt Ox (by rw[Oy];exact h)
theorem Uz (hp:List PO) (a b c d e:PO):hp++[a,b,c,d,e]=hp++[a]++[b]++[c]++[d]++[e]:=by
 rw[ZH,ZH,ZH,ZH];rfl
theorem Bt {hp:List PO} {aS cX aJ sh:Nat} {P Kd L:List Nat} (hP:hp[aS]? =some (.list (aa (ah P)))) (P4:hp[cX]? =some (.list (aa (ah Kd)))) (nK:hp[aJ]? =some (.list (aa (ah L)))) (p2:2<=aS) (k2:2<=cX) (l2:2<=aJ):
  kM hp aS cX aJ P Kd L sh none none (hp++[.cell (some (.ref cX)),.cell (some (.ref aJ)),.cell (some (.int (sh:Nat))),.cell none,.cell none]):=by
 have lt:∀ {i:Nat} {o:PO},hp[i]? =some o->i<hp.length:=λe=>(Zv.mp e).1
 have kp:∀ (i:Nat) o,hp[i]? =some o->∀ a b c d e,(hp++[a]++[b]++[c]++[d]++[e])[i]? =some o:=λi o e ø ø ø ø ø=>ac (ac (ac (ac (ac e _) _) _) _) _
 have e1:∀ a:PO,(hp++[a]).length=hp.length+1:=λø=>Zw ..
 have e2:∀ a b:PO,(hp++[a]++[b]).length=hp.length+2:=λa b=>by rw[Zw,e1];rfl
 have e3:∀ a b c:PO,(hp++[a]++[b]++[c]).length=hp.length+3:=λa b c=>by rw[Zw,e2];rfl
 have e4:∀ a b c d:PO,(hp++[a]++[b]++[c]++[d]).length=hp.length+4:=λa b c d=>by rw[Zw,e3];rfl
 rw[Uz]
 exact⟨ac (ac (ac (ac (af _ _) _) _) _) _,ac (ac (ac (by rw[<-e1 (.cell (some (.ref cX)))];exact af _ _) _) _) _,ac (ac (by rw[<-e2 (.cell (some (.ref cX))) (.cell (some (.ref aJ)))];exact af _ _) _) _,ac (by rw[<-e3 (.cell (some (.ref cX))) (.cell (some (.ref aJ))) (.cell (some (.int (sh:Nat))))];exact af _ _) _,
  by rw[<-e4 (.cell (some (.ref cX))) (.cell (some (.ref aJ))) (.cell (some (.int (sh:Nat)))) (.cell none)];exact af _ _,kp _ _ hP _ _ _ _ _,kp _ _ P4 _ _ _ _ _,kp _ _ nK _ _ _ _ _,((((aq.push _ _).trans (.push _ _)).trans (.push _ _)).trans (.push _ _)).trans (.push _ _),p2,k2,l2,lt hP,lt P4,lt nK⟩
noncomputable def UA (hp:List PO) (aS cX aJ bT cI bA Oz:Nat) (P Kd L:List Nat) (sh bg:Nat) (q:Int) (wv:Option PV) (rs:List Nat) (xs:List PV) (t:Nat) (σ:St):Prop:=∀ C:Prop,(∀ l H,σ={loc:=l,ce:=fY hp.length,hp:=H}->kM hp aS cX aJ P Kd L sh (some (.ref bT)) wv H->H[bT]? =some (.list (d8 iq))->H[cI]? =some (.list (mT ((List.range 5).map (aP P Kd))))->ci H bA rs ((i9.take t).foldl (Gs P L q) (λø ø=>1))->
  H[Oz]? =some (.list xs)->(∀ (t:Nat) p,i9[t]? =some p->∃ r:Nat,xs[t]? =some (PV.ref r)/\2<=r/\r∉rs/\H[r]? =some (yx p))->l.get 72=some (.ref cI)->l.get 58=some (.ref aS)->l.get 71=some (.int (bg:Nat))->l.get 27=some (.int q)->l.get 76=some (.ref bA)->C)->C
theorem Bu:∀ p∈i9,p.1<5/\p.2<5:=by decide
theorem Bv (G:GG cx A) (tl:cx.D (A 115)=some lf) (tv:cx.D (A 110)=some FS) (kw:cx.D (A 103)=some nT) (Ox:cx.XE 0=some eV) (Oy:cx.XW 0=mr) {hp:List PO} {K:PV->List PO->Prop} {aS cX aJ bT cI bA:Nat} {P Kd L:List Nat} {sh bg:Nat} {q:Int} {wv:Option PV} {rs:List Nat}
  (hT:Tree P) (hK:Kinds Kd) (hL:eD L) (hq:q.natAbs<=4) (sW:sh<=8) (h2:2<=hp.length) (O:w9 P Kd L sh bg) (k:∀ aE bA rs,aq hp aE->tj aE bA rs 0 (lw P L q)->bA∉rs->hp.length<=bA->(∀ r∈rs,hp.length<=r)->K (.ref bA) aE)
  {l:Loc} {H:List PO} (m:kM hp aS cX aJ P Kd L sh (some (.ref bT)) wv H) (hn:H[bT]? =some (.list (d8 iq))) (n2:2<=bT) (nr:bT∉rs) (hw:H[cI]? =some (.list (mT ((List.range 5).map (aP P Kd))))) (wi:hp.length+5<=cI) (mt:ci H bA rs (λø ø=>1)) (ti:hp.length+5<=bA) (tr:bA∉rs) (ri:∀ r∈rs,hp.length+5<=r) (rl:∀ r∈rs,r<H.length) (wr:∀ r∈rs,r≠cI)
  (l72:l.get 72=some (.ref cI)) (l58:l.get 58=some (.ref aS)) (l71:l.get 71=some (.int (bg:Nat))) (l27:l.get 27=some (.int q)) (l76:l.get 76=some (.ref bA)):
  aF cx Fw (cW K) {loc:=l,ce:=fY hp.length,hp:=H}:=by
 have UB:=Zu h2 m.gr.le
 refine Zt (by decide:(2:Nat)<=1000000) ?_
 refine Zt (by decide:(1:Nat)<=1000000) ?_
 refine Jw Ox Oy λH6 ix ts g6 Wj hx Zl zL TL UC=>?_
 have YE:=Wj _ _ (af (H++[PO.tup [PV.int 0,PV.int 0]]) (.list [PV.ref H.length]))
 have YF:=Wj _ _ (ac (af H (.tup [PV.int 0,PV.int 0])) (.list [PV.ref H.length]))
 refine lS YE hx (Zt (by rw[ZI,zL];exact Zz rfl) ?_)
 generalize hX:[PV.ref H.length]++ts.map PV.ref=xs
 have uO:11=xs.length:=by rw[<-hX,Zw,ZI,zL];rfl
 have e2:(H++[PO.tup [PV.int 0,PV.int 0]]++[PO.list [PV.ref H.length]]).length=H.length+2:=by rw[Zw,Zw];rfl
 have lh:H.length+2<=H6.length:=e2▸(show(H++[PO.tup [PV.int 0,PV.int 0]]++[PO.list [PV.ref H.length]]).length<=H6.length from g6.le)
 have no:∀ {r:Nat},H.length<=r->r∉rs:=λh z=>Nat.not_lt.mpr h (rl _ z)
 have eQ:∀ (t:Nat) p,i9[t]? =some p->∃ r:Nat,xs[t]? =some (PV.ref r)/\2<=r/\r∉rs/\(H6++[PO.list xs])[r]? =some (yx p):=by
  intro t p aE
  cases t with
  |zero=>
   cases aE
   exact⟨H.length,by rw[<-hX];rfl,UB,no (ZA _),ac YF _⟩
  |succ t=>
   have aE:yw[t]? =some p:=aE
   have YG:t<ts.length:=by rw[zL];exact(Zv.mp aE).1
   obtain⟨r,hr⟩:=dM rfl YG
   have hg:H.length+2<=r:=e2▸(show(H++[PO.tup [PV.int 0,PV.int 0]]++[PO.list [PV.ref H.length]]).length<=r from TL r (ZE hr))
   refine⟨r,?_,Zu UB (Zy hg),no (Zy hg),ac (eO hr▸UC t p aE) _⟩
   rw[<-hX]
   show(ts.map PV.ref)[t]? =_
   rw[Z9,hr];rfl
 have gg:aq H (H6++[PO.list xs]):=(((aq.push H _).trans (.push _ _)).trans g6).trans (.push _ _)
 have z2:∀ {x:Nat},hp.length+5<=x->2<=x:=λh=>Zu h2 (Zy h)
 refine il (af _ _) ?_
 refine fI 11 (λt=>.lst H6.length t) (UA hp aS cX aJ bT cI bA H6.length P Kd L sh bg q wv rs xs) ?_ ?_ λC c=>c l _ rfl (m.grow h2 gg) (gg.keep _ _ n2 hn) (gg.keep _ _ (z2 wi) hw) (mt.grow gg (z2 ti) (λr hr=>z2 (ri r hr))) (af _ _) eQ l72 l58 l71 l27 l76
 .intro t σ ht J
  refine J _ λl H' e m hn hw mt Ko eQ l72 l58 l71 l27 l76=>?_
  subst e
  obtain⟨p,aE⟩:∃ p,i9[t]? =some p:=⟨_,ZB ht⟩
  obtain⟨r,hr,r2,rn,ho⟩:=eQ t p aE
  have yy:=ZE aE
  obtain⟨o1,o2,o3⟩:=O.pr p yy
  have hb:=Bu p yy
  have ho:H'[r]? =some (.tup [.int (p.1:Nat),.int (p.2:Nat)]):=ho
  refine⟨_,_,dz Ko hr,λagain dZ=>?_⟩
  refine j6 ho (Zt rfl ?_)
  refine Eh (P:=P) (Kd:=Kd) (L:=L) (sh:=sh) (bg:=bg) (q:=q) (i:=p.1) (j:=p.2) G tl tv kw h2 hK hL hT hq sW O.ct hb.1 hb.2 o1 o2 o3 m n2 hn hw wi mt ti ri tr wr l72 l58 l71 l27 rfl rfl l76 λl' Te eW kx OA m' Pr YH=>dZ _ λC c=>?_
  refine c l' Te rfl m' (kx _ _ n2 nr hn) Pr ?_ (kx _ _ (Zu UB (Zy lh)) (no (Zy lh)) Ko) (λt p e=>?_) OA.l72 OA.l58 OA.l71 OA.l27 OA.l76
  .rw[aaj,aE,List.foldl_append];exact YH
  .obtain⟨r,a,b,c,d⟩:=eQ t p e
   exact⟨r,a,b,c,kx _ _ b c d⟩
 .intro σ J
  refine J _ λl H' e m hn hw mt Ko eQ l72 l58 l71 l27 l76=>?_
  subst e
  refine⟨eN Ko uO,?_⟩
  refine ax l76 ?_
  exact k _ _ rs m.gr ⟨_,mt,λa b ø ha ø hb=>Bs P L q a b ha hb⟩ tr (Zy ti) λr hr=>Zy (ri r hr)
theorem Jx (G:GG cx A) (UD:cx.D (A 112)=some Nf) (tl:cx.D (A 115)=some lf) (Bm:cx.D (A 116)=some ID) (tv:cx.D (A 110)=some FS) (kw:cx.D (A 103)=some nT) (Ox:cx.XE 0=some eV) (Oy:cx.XW 0=mr)
  {ps:List PV} {hp:List PO} {K:PV->List PO->Prop} (h:mH ps hp K):
  bc cx (am "_law_table") [58,69,70,34,71,27] [69,70,34,42,74] [] (aQ "_law_table") ps hp K:=by
 obtain⟨aS,cX,aJ,P,Kd,L,sh,bg,q,rfl,hP,P4,nK,hT,hK,hL,hq,sW,p2,k2,l2,h2,O,k⟩:=h
 refine⟨rfl,?_⟩
 rw[<-dW,nQ]
 refine(?_:aF cx lY (cW K) {loc:=[(27,.int q),(71,.int (bg:Nat)),(58,.ref aS)],ce:=fY hp.length,hp:=hp++[.cell (some (.ref cX)),.cell (some (.ref aJ)),.cell (some (.int (sh:Nat))),.cell none,.cell none]})
 have m0:=Bt (sh:=sh) hP P4 nK p2 k2 l2
 generalize hp++[PO.cell (some (.ref cX)),.cell (some (.ref aJ)),.cell (some (.int (sh:Nat))),.cell none,.cell none]=H0 at*
 repeat walk_at "o"
 refine bP UD ⟨rfl,Zu h2 m0.gr.le,λH1 bT g1 OB Jn=>?_⟩
 have m1:=m0.grow h2 g1
 have YI:hp.length+5<=H0.length:=(Zv.mp m0.c74).1
 have Jy:=Zu YI OB
 have n2:2<=bT:=Zu h2 (Zy Jy)
 refine gX m1.c42 ?_
 have m2:=m1.set42 h2 (some (.ref bT))
 have Kq:=az (o':=.cell (some (.ref bT))) Jn (show hp.length+3≠bT by exact la [_,_] [] [.l (.a .v0 (.n 5)) .v1] (.n (.e (.a .v0 (.n 3)) .v1)) (.f [1,1]) rfl Jy)
 have Wk:hp.length+5<=(H1.set (hp.length+3) (.cell (some (.ref bT)))).length:=(Zv.mp m2.c74).1
 generalize H1.set (hp.length+3) (.cell (some (.ref bT)))=H2 at*
 refine Zt (ZM _) ?_
 have YJ:=(Zv.mp Kq).1
 refine Bn (cI:=H2.length) (wv:=none) (q:=q) (bg:=bg) G tl Bm h2 hK hT O.ct (bT:=bT) (N:=.list (d8 iq)) Jy (Z7 YJ) (ac Kq _) (m2.grow h2 (.push _ _)) (af _ _) Wk rfl rfl rfl rfl λl3 H3 Zm m3 Wl xI YK YL YM YN=>?_
 refine Zt rfl ?_
 repeat walk_at "o"
 refine Zt (by decide) ?_
 refine eR (af _ _) ?_
 refine wW G (v:=1) (hp:=hp) (m3.gr.trans (.push _ _)) λlc H4 g4 g5 kp cb uY=>?_
 have pL:(H3++[PO.rng 0 1 (Int.toNat 5)]).length=H3.length+1:=Zw ..
 have cb:H4.length=(H3++[PO.rng 0 1 (Int.toNat 5)]).length+10:=cb
 have m4:=(m3.grow h2 (.push H3 (.rng 0 1 (Int.toNat 5)))).grow h2 g5
 have Wm:hp.length+5<=H3.length:=(Zv.mp m3.c74).1
 have YO:H3.length<=H4.length:=by exact la [_,_,_] [] [.e .v0 (.a .v1 .n1),.e .v2 (.a .v0 (.n 10))] (.l .v1 .v2) (.f [1,0,1,0,1]) rfl pL cb
 have qF:∀ {r},r∈fk (H3++[PO.rng 0 1 (Int.toNat 5)]).length->H3.length<r/\r<H4.length:=λhr=>by
  have:=qr hr
  exact la [_,_,_,_] [] [.e .v0 (.a .v1 .n1),.e .v2 (.a .v0 (.n 10)),.t .v0 .v3,.t .v3 (.a .v0 (.n 10))] (.a (.t .v1 .v3) (.t .v3 .v2)) (.o 0 (.f [1,0,1,0,0,1]) (.f [1,1,0,1])) rfl pL cb this.1 this.2
 have Uo:(fk (H3++[PO.rng 0 1 (Int.toNat 5)]).length).length=5:=rfl
 have Uq:=te (H3++[PO.rng 0 1 (Int.toNat 5)]).length
 generalize fk (H3++[PO.rng 0 1 (Int.toNat 5)]).length=rs at*
 exact Bv (bA:=H4.length) (cI:=H2.length) G tl tv kw Ox Oy hT hK hL hq sW h2 O k (m4.grow h2 (.push H4 (.list (rs.map .ref)))) (ac (kp _ _ (ac Wl _)) _) n2 (λz=>Nat.lt_asymm (Zv.mp Wl).1 (qF z).1) (ac (kp _ _ (ac xI _)) _) Wk ⟨Uo,Uq,af _ _,λi hi=>ac (uY i hi) _⟩
  (Zu Wm YO) (λz=>aaw _ (qF z).2) (λr hr=>Zu Wm (Zx (qF hr).1)) (λr hr=>by rw[Zw];exact ZZ (qF hr).2) (λr hr z=>Nat.lt_asymm (Zv.mp xI).1 (z▸(qF hr).1)) YK YL YM YN rfl
end
section
variable {prog:Program} {w:World} {A:Around} {R:Result->Shared->Prop} {s:Shared}
theorem tw (bI:Expr) (jx:Comprehension) (bV iter:Expr) (scope:Scope) (pos:Pos) (it aD:Value) (env:Env):
  compTurn (.ListComp bI [jx,⟨bV,iter,[],0⟩] scope pos) 1 it aD env=(standAt iter.pos>>=λø=>pyNext it>>=λr=>match r with
   |none=>pure (.done .next)
   |some v=>letOwnedTupleGo bV it v>>=λø=>assign bV env v>>=λø=>
    (eval bI env>>=λx=>call (.builtin "list.append") [aD,x]>>=λø=>pure ())>>=λø=>
     again (.compLoop (.ListComp bI [jx,⟨bV,iter,[],0⟩] scope pos) 1 it aD env)):=by rfl
theorem ro (bI fe lz t₁ gy:Expr) (scope:Scope) (pos:Pos) (it aD:Value) (env:Env):
  compTurn (.ListComp bI [⟨fe,lz,[],0⟩,⟨t₁,gy,[],0⟩] scope pos) 0 it aD env=(standAt lz.pos>>=λø=>pyNext it>>=λr=>match r with
   |none=>pure (.done .next)
   |some v=>letOwnedTupleGo fe it v>>=λø=>assign fe env v>>=λø=>
    (eval gy env>>=λx=>standAt gy.pos>>=λø=>foldedSetIterable gy env x>>=λx=>holding [x] (pyIter x)>>=λgV=>
     runOwn (.compStart (.ListComp bI [⟨fe,lz,[],0⟩,⟨t₁,gy,[],0⟩] scope pos) 1 gV aD env) env>>=λø=>pure ())>>=λø=>
     again (.compLoop (.ListComp bI [⟨fe,lz,[],0⟩,⟨t₁,gy,[],0⟩] scope pos) 0 it aD env)):=by
 unfold compTurn
 simp
 refine congrArg _ (funext λø=>congrArg _ (funext λr=>?_))
 cases r<;>rfl
theorem u4 {bI:Expr} {jx:Comprehension} {bV iter:Expr} {scope:Scope} {pos:Pos} {it aD:Value} {env:Env} (I:Nat->Shared->Prop)
  (bg:∀ n s,I n s->wpAny (model prog w) A (pyNext it) (λr bz=>match r with
   |none=>R (.ok .next) bz
   |some v=>wpAny (model prog w) A (letOwnedTupleGo bV it v) (λø bz=>wpAny (model prog w) A (assign bV env v) (λø gk=>
     wpAny (model prog w) A (eval bI env) (λx kX=>
       wpAny (model prog w) A (call (.builtin "list.append") [aD,x]) (λø jw=>∃ m,m<n/\I m jw) (notedBy (model prog w) A env λe s'=>R (.error e) s') kX) (notedBy (model prog w) A env λe s'=>R (.error e) s') gk) (notedBy (model prog w) A env λe s'=>R (.error e) s') bz) (notedBy (model prog w) A env λe s'=>R (.error e) s') bz)
   (notedBy (model prog w) A env λe s'=>R (.error e) s') s)
  (n:Nat) (h:I n s):codeAny (model prog w) A (.compLoop (.ListComp bI [jx,⟨bV,iter,[],0⟩] scope pos) 1 it aD env) R s:=by
 refine codeAny_loop rfl I (λn s hI=>?_) n h
 show wpAny _ A ((compTurn (.ListComp bI [jx,⟨bV,iter,[],0⟩] scope pos) 1 it aD env).onRaise (λx=>do noteFrame x env;theTreesLotGoes x)) _ _ s
 refine wpAny_noted ?_
 rw[tw]
 refine wpAny_bind (wpAny_standAt (wpAny_bind (wpAny_mono (bg n s hI) (λr bz ai=>?_) λø ø h'=>h')))
 cases r with
 |none=>exact wpAny_pure ai
 |some v=>
  exact wpAny_bind (wpAny_mono ai (λø gk bf=>wpAny_bind (wpAny_mono bf (λø dQ cD=>wpAny_bind (wpAny_bind (wpAny_mono cD (λx jw gD=>wpAny_bind (wpAny_mono gD (λø Li rT=>wpAny_pure (wpAny_pure ⟨rfl,rT⟩)) λø ø h'=>h')) λø ø h'=>h'))) λø ø h'=>h')) λø ø h'=>h')
theorem ty {bI fe lz t₁ gy:Expr} {scope:Scope} {pos:Pos} {it aD:Value} {env:Env} (hs:∀ x,foldedSetIterable gy env x=pure x) (I:Nat->Shared->Prop)
  (bg:∀ n s,I n s->wpAny (model prog w) A (pyNext it) (λr bz=>match r with
   |none=>R (.ok .next) bz
   |some v=>wpAny (model prog w) A (letOwnedTupleGo fe it v) (λø bz=>wpAny (model prog w) A (assign fe env v) (λø gk=>
     wpAny (model prog w) A (eval gy env) (λx dQ=>wpAny (model prog w) A (pyIter x) (λgV kX=>
      codeAny (model prog w) A (.compStart (.ListComp bI [⟨fe,lz,[],0⟩,⟨t₁,gy,[],0⟩] scope pos) 1 gV aD env) (λr jw=>r=.ok .next/\∃ m,m<n/\I m jw) kX)
       (notedBy (model prog w) A env λe s'=>R (.error e) s') dQ) (notedBy (model prog w) A env λe s'=>R (.error e) s') gk) (notedBy (model prog w) A env λe s'=>R (.error e) s') bz) (notedBy (model prog w) A env λe s'=>R (.error e) s') bz)
   (notedBy (model prog w) A env λe s'=>R (.error e) s') s)
  (n:Nat) (h:I n s):codeAny (model prog w) A (.compLoop (.ListComp bI [⟨fe,lz,[],0⟩,⟨t₁,gy,[],0⟩] scope pos) 0 it aD env) R s:=by
 refine codeAny_loop rfl I (λn s hI=>?_) n h
 show wpAny _ A ((compTurn (.ListComp bI [⟨fe,lz,[],0⟩,⟨t₁,gy,[],0⟩] scope pos) 0 it aD env).onRaise (λx=>do noteFrame x env;theTreesLotGoes x)) _ _ s
 refine wpAny_noted ?_
 rw[ro]
 refine wpAny_bind (wpAny_standAt (wpAny_bind (wpAny_mono (bg n s hI) (λr bz ai=>?_) λø ø h'=>h')))
 cases r with
 |none=>exact wpAny_pure ai
 |some v=>
  refine wpAny_bind (wpAny_mono ai (λø gk bf=>wpAny_bind (wpAny_mono bf (λø dQ cD=>wpAny_bind (wpAny_bind (wpAny_mono cD (λx jw gD=>wpAny_bind (wpAny_standAt (wpAny_bind (wpAny_of_eq (hs x) (wpAny_bind (wpAny_holding (wpAny_mono gD (λgV Li rT=>?_) λø ø h'=>h'))))))) λø ø h'=>h'))) λø ø h'=>h')) λø ø h'=>h')
  refine wpAny_bind (wpAny_runOwn (codeAny_mono rT λr YQ Jz=>?_))
  obtain⟨rfl,Jz⟩:=Jz
  exact wpAny_pure (wpAny_pure ⟨rfl,Jz⟩)
theorem ja {bI:Expr} {jx:Comprehension} {bV iter:Expr} {scope:Scope} {pos:Pos} {it aD:Value} {env:Env}
  (h0:codeAny (model prog w) A (.compLoop (.ListComp bI [jx,⟨bV,iter,[],0⟩] scope pos) 1 it aD env) R s)
  (h:wpAny (model prog w) A (pyIter it) (λgV s'=>codeAny (model prog w) A (.compLoop (.ListComp bI [jx,⟨bV,iter,[],0⟩] scope pos) 1 gV aD env) R s')
   (notedBy (model prog w) A env λx s'=>R (.error x) s') s):
  codeAny (model prog w) A (.compStart (.ListComp bI [jx,⟨bV,iter,[],0⟩] scope pos) 1 it aD env) R s:=by
 refine codeAny_of_tree ?_
 show wpAny _ _ ((compStart (.ListComp bI [jx,⟨bV,iter,[],0⟩] scope pos) 1 it aD env).onRaise (λx=>do noteFrame x env;standAt theWindowsPlace)) _ _ s
 refine wpAny_notedAt ?_
 unfold compStart
 show wpAny _ _ (ask>>=_) _ _ s
 refine wpAny_bind (wpAny_askSetting (wpAny_ite ?_))
 split
 .first
   |exact wpAny_bind (wpAny_pure (wpAny_pure (Zt rfl h0)))
   |exact wpAny_pure (Zt rfl h0)
 .first
   |exact wpAny_bind (wpAny_rule (wpAny_bind (wpAny_standAt (wpAny_bind (wpAny_mono h (λgV s' h'=>wpAny_pure (Zt rfl h')) λø ø x=>x)))))
   |(refine wpAny_bind (wpAny_rule ?_);show wpAny _ _ (standAt iter.pos>>=_) _ _ s;exact wpAny_bind (wpAny_standAt (wpAny_bind (wpAny_mono h (λgV s' h'=>wpAny_pure (Zt rfl h')) λø ø x=>x))))
end
theorem dm.glue {L D:Addr} {H P5:List Addr} {aC ag aM:aT} {h₀ ai hm bf:Heap} (a:dm L (D::H) aC h₀ ag ai) (hk:∀ b o,ai.get? b=some o->hm.get? b=some o) (Lc:∀ b∈P5,ai.get? b=none)
  (b:dm L (D::P5) ag hm aM bf) (hD:∀ i:Nat,aM[i]? ≠some D) (hI:∀ x∈P5,∀ i:Nat,aM[i]? ≠some x):dm L (D::H) aC h₀ aM bf:=by
 refine⟨a.ext.trans b.ext,λi x e=>?_,λy n e=>?_,λy o e hL n hn=>?_⟩
 .rcases b.fresh i x e with q|q|q
  .exact a.fresh i x q
  .cases z:h₀.get? x with
   |none=>exact .inr (.inl rfl)
   |some o=>
    by_cases m:x∈D::H
    .exact .inr (.inr m)
    .obtain⟨o',w⟩:=ZJ.mp (a.live x m (by rw[z];rfl))
     rw[hk x o' w] at q;cases q
  .rcases ZF.mp q with rfl|q
   .exact absurd e (hD i)
   .exact absurd e (hI x q i)
 .obtain⟨o',w⟩:=ZJ.mp (a.live y n e)
  refine b.live y (λm=>?_) (by rw[hk y o' w];rfl)
  rcases ZF.mp m with rfl|m
  .exact n (.head _)
  .rw[Lc y m] at w;cases w
 .obtain⟨sl,e1,e2⟩:=a.frame y o e hL n hn
  have IS:y∉D::P5:=λm=>by
   rcases ZF.mp m with rfl|m
   .exact n (.head _)
   .rw[Lc y m] at e1;cases e1
  obtain⟨GR,e3,e4⟩:=b.frame y _ (hk y _ e1) hL IS λi q=>by
   rcases a.fresh i y q with e'|e'|e'
   .exact hn i e'
   .rw[e] at e';cases e'
   .exact n e'
  exact⟨GR,e3,λq=>(e4 q).trans (e2 q)⟩
section
variable {cx:Cx} {n:Nat} {env:Env} {sc:Scope} {ab:aT} {σ:St} {s:Shared} {A:Around} {P:bu} {Q:Value->Shared->Prop} {E:Value->Shared->Prop}
theorem Ei {ak:Env} {yQ:Scope} (O:aW ak yQ) (hA:Good cx n A) {fS:Expr} {jx:Comprehension} {bU:gj} {rU:Expr} {scope:Scope} {pos:Pos} {H:List Addr} {I D:Addr} {R:Result->Shared->Prop}
  (ug:bU.ok yQ=true) {we:bu->St->Prop} {K:List PV->St->Prop}
  (bI:∀ {ab:aT} {σ:St} {s:Shared} {P:bu} {Q:Value->Shared->Prop} {E:Value->Shared->Prop},we P σ->aH cx ak ab σ s.heap->bB cx ak ab s P Q->wpAny (model cx.prog cx.w) A (eval fS ak) Q E s)
  {a9:fE} {aC:aT} {iK:St} {bC:Shared} (nr:a9.isEnm=true->bU.isTup=true) {cK:Nat} {Bw:List PV} {Gu:Array Value} (hw:bh (aN bU) (λQ=>Q true) we K cK a9 Bw iK) (rW:aH cx ak aC iK bC.heap) (hI:eT aC bC.heap H I a9)
  (hH:dU cx ak aC (D::H)) (dH:D∉H) (hD:bC.heap.PlainList D Gu) (OD:aU aC Bw Gu.toList)
  (ck:∀ xs br aj h' tk ys,K xs br->aH cx ak aj br h'->dU cx ak aj (D::H)->h'.PlainList D ys->aU aj xs ys.toList->dm ak.locals (D::H) aC bC.heap aj h'->R (.ok .next) {bC with heap:=h',toks:=tk}):
  codeAny (model cx.prog cx.w) A (.compLoop (.ListComp fS [jx,⟨bU.ex,rU,[],0⟩] scope pos) 1 (.ref I) (.ref D) ak) R bC:=by
 refine u4 (LI cx ak bU D H I aC bC (bh (aN bU) (λQ=>Q true) we K)) ?_ cK (.mk hw nr rW ⟨hI,hH,hD,OD,.refl _ _ _ _⟩)
 rintro k _ ⟨hw,nr,RR,B⟩
 cases k with
 |zero=>exact False.elim hw
 |succ k=>
  refine kY (K:=K) O hA ug hw nr RR dH B (λh' oD=>ck _ _ _ h' oD _) λgV aw aM bf bE hw₂ Kl aK zd=>?_
  refine bI (s:={bC with heap:=bf,toks:=bE}) (hw₂.1 rfl) aK λp pK g8 x fq jD fF dx fT e8=>?_
  exact pJ (bC:=bC) dH (zd.step e8) fT dx fF.1 λgD oO Hg=>⟨k,Z0 _,.mk fF.2 Kl oO Hg⟩
noncomputable def gz (Bx:PV->(St->Prop)->St->Prop) (jb:bu->St->Prop) (By:PV->(St->Prop)->St->Prop) (we:bu->St->Prop) (K:List PV->St->Prop):Nat->fE->List PV->St->Prop
 |0,_,_,_=>False
 |n+1,it,aD,σ=>(match bw it σ.hp with
   |none=>False
   |some none=>K aD σ
   |some (some (v,gV,aE))=>Bx v (jb (λiv=>f0 iv (λxa aw=>∃ m,bh By (λQ=>Q true) we (λc7 cn=>gz Bx jb By we K n gV c7 cn) m xa aD aw))) {σ with hp:=aE})
theorem Bz {ak:Env} {yQ:Scope} (O:aW ak yQ) (hA:Good cx n A) {fS gy:Expr} {fe t₁:gj} {lz:Expr} {scope:Scope} {pos:Pos} {H:List Addr} {I D:Addr} {R:Result->Shared->Prop}
  (ug:fe.ok yQ=true) (u5:t₁.ok yQ=true) (hs:∀ x,foldedSetIterable gy ak x=pure x) {jb we:bu->St->Prop} {K:List PV->St->Prop}
  (bI:∀ {ab:aT} {σ:St} {s:Shared} {P:bu} {Q:Value->Shared->Prop} {E:Value->Shared->Prop},we P σ->aH cx ak ab σ s.heap->bB cx ak ab s P Q->wpAny (model cx.prog cx.w) A (eval fS ak) Q E s)
  (UE:∀ {ab:aT} {σ:St} {s:Shared} {P:bu} {Q:Value->Shared->Prop} {E:Value->Shared->Prop},jb P σ->aH cx ak ab σ s.heap->bB cx ak ab s P Q->wpAny (model cx.prog cx.w) A (eval gy ak) Q E s)
  {a9:fE} {aC:aT} {iK:St} {bC:Shared} (nr:a9.isEnm=false) {cK:Nat} (hw:gz (aN fe) jb (aN t₁) we K cK a9 [] iK) (rW:aH cx ak aC iK bC.heap) (hI:eT aC bC.heap H I a9)
  (hH:dU cx ak aC (D::H)) (dH:D∉H) (hD:bC.heap.PlainList D #[])
  (ck:∀ xs br aj h' tk ys,K xs br->aH cx ak aj br h'->dU cx ak aj (D::H)->h'.PlainList D ys->aU aj xs ys.toList->dm ak.locals (D::H) aC bC.heap aj h'->R (.ok .next) {bC with heap:=h',toks:=tk}):
  codeAny (model cx.prog cx.w) A (.compLoop (.ListComp fS [⟨fe.ex,lz,[],0⟩,⟨t₁.ex,gy,[],0⟩] scope pos) 0 (.ref I) (.ref D) ak) R bC:=by
 refine ty hs (LI cx ak fe D H I aC bC (gz (aN fe) jb (aN t₁) we K)) ?_ cK (.mk hw (λe=>by rw[nr] at e;cases e) rW ⟨hI,hH,hD,trivial,.refl _ _ _ _⟩)
 rintro k _ ⟨hw,nr,RR,B⟩
 cases k with
 |zero=>exact False.elim hw
 |succ k=>
  refine kY (K:=K) O hA ug hw nr RR dH B (λh' oD=>ck _ _ _ h' oD _) λgV aw aM bf bE hw₂ Kl aK zd=>?_
  refine UE (s:={bC with heap:=bf,toks:=bE}) hw₂ aK λiv cn bW xv cD cf bZ HL cH cw=>?_
  have jL:=zd.step cw
  refine dw (s:={bC with heap:=cD,toks:=cf}) bZ cH HL λxa Hi Ii hm fF jy qG hk Wn OE yy=>?_
  obtain⟨m,fF⟩:=fF
  have OE:∀ b∈Hi,cD.get? b=none:=OE
  have hk:∀ b o,cD.get? b=some o->hm.get? b=some o:=hk
  obtain⟨Rm,_⟩:=cH.grow hk
  have new:∀ {b},b∈D::H->b∉Hi:=λhb q=>by have:=jL.live _ hb;rw[OE _ q] at this;cases this
  have JA:dU cx ak bW (D::Hi):=λb hb=>by
   rcases ZF.mp hb with rfl|hb
   .exact jL.hid b (.head _)
   .exact vE (s:={bC with heap:=cD,toks:=cf}) cH (OE b hb)
  have zg:codeAny (model cx.prog cx.w) A (.compLoop (.ListComp fS [⟨fe.ex,lz,[],0⟩,⟨t₁.ex,gy,[],0⟩] scope pos) 1 (.ref Ii) (.ref D) ak) (λr jw=>r=.ok .next/\∃ m,m<k+1/\LI cx ak fe D H I aC bC (gz (aN fe) jb (aN t₁) we K) m jw) {bC with heap:=hm,toks:=cf}:=by
   refine Ei (bC:={bC with heap:=hm,toks:=cf}) O hA u5 bI (λe=>by rw[qG] at e;cases e) fF Rm Wn JA (new (.head _)) (jL.pl.at λo e=>hk D o e) jL.dd λxs br aj h' oD PH hK R' Lq Co dd S=>?_
   have IS:∀ b∈H,b∉D::Hi:=λb hb m=>by
    rcases ZF.mp m with rfl|m
    .exact dH hb
    .exact new (.tail _ hb) m
   refine⟨rfl,k,Z0 _,.mk hK Kl R' ⟨jL.it.keep S.ext λb hb o e=>?_,λb hb=>?_,Co,dd,jL.st.glue hk OE S (Lq D (.head _)).1 λx hx=>(Lq x (.tail _ hx)).1⟩⟩
   .obtain⟨sl,e1,e2⟩:=S.frame b o (hk b o e) (jL.hid b (.tail _ hb)).2.1 (IS b hb) (jL.hid b (.tail _ hb)).1
    rw[e1,e2 (jL.it.notD b hb o e)]
   .refine⟨λi e=>?_,(jL.hid b hb).2⟩
    rcases ZF.mp hb with rfl|hb
    .exact(Lq b (.head _)).1 i e
    .rcases S.fresh i b e with q|q|q
     .exact(jL.hid b (.tail _ hb)).1 i q
     .obtain⟨o',w⟩:=ZJ.mp (jL.live b (.tail _ hb))
      rw[hk b o' w] at q;cases q
     .exact IS b hb q
  exact ja zg (j9 jy Wn zg)
theorem tz {fS lz gy:Expr} {fe t₁:gj} {scope:Scope} {fr:List Nat} {pos:Pos} {H:List Addr} {I:Addr} {RR:Value->Addr->Result->Shared->Prop}
  (O:aW env sc) (hA:Good cx n A) (CO:iM fr scope) (ug:fe.ok scope=true) (u5:t₁.ok scope=true) (hs:∀ (ak:Env) x,foldedSetIterable gy ak x=pure x) {jb we:bu->St->Prop} {K:List PV->St->Prop}
  (bI:∀ {ak:Env},aW ak scope->∀ {ab:aT} {σ:St} {s:Shared} {P:bu} {Q:Value->Shared->Prop} {E:Value->Shared->Prop},we P σ->aH cx ak ab σ s.heap->bB cx ak ab s P Q->wpAny (model cx.prog cx.w) A (eval fS ak) Q E s)
  (UE:∀ {ak:Env},aW ak scope->∀ {ab:aT} {σ:St} {s:Shared} {P:bu} {Q:Value->Shared->Prop} {E:Value->Shared->Prop},jb P σ->aH cx ak ab σ s.heap->bB cx ak ab s P Q->wpAny (model cx.prog cx.w) A (eval gy ak) Q E s)
  {a9:fE} (nr:a9.isEnm=false) (jy:∀ i j,a9≠ .rev i j) {cK:Nat} {bD:Heap} {ab:aT} {σ:St} {s:Shared}
  (hw:gz (aN fe) jb (aN t₁) we K cK a9 [] {loc:=[],ce:=jG fr σ.ce,hp:=σ.hp}) (R:aH cx env ab σ s.heap)
  (hI:eT ab s.heap H I a9) (Ln:∀ b∈H,bD.get? b=none) (hb:∀ b o,bD.get? b=some o->s.heap.get? b=some o) (ze:∀ (i:Nat) (a:Addr),ab[i]? =some a->(bD.get? a).isSome=true) (Hh:(bD.get? env.locals).isSome=true) (Lo:∀ b o,cx.h₀.get? b=some o->bD.get? b=some o)
  (Lp:∀ D C jX xs aj h' tk m',K xs jX->aH cx env aj {σ with hp:=jX.hp++[.list xs]} h'->aj[jX.hp.length]? =some D->h'.Ns C m'->(∀ i:Nat,aj[i]? ≠some C)->C≠env.locals->cx.h₀.get? C=none->bD.get? C=none->
   Step env.locals ab bD aj h'->RR (.ref D) C (.ok .next) {s with heap:=h',toks:=tk}):
  wpAny (model cx.prog cx.w) A (newList []) (λaD dQ=>wpAny (model cx.prog cx.w) A (newFunctionEnv scope env.globals (bn env scope.names).reverse [] env.qual none .none (some env)) (λak kX=>
   codeAny (model cx.prog cx.w) A (.compStart (.ListComp fS [⟨fe.ex,lz,[],0⟩,⟨t₁.ex,gy,[],0⟩] scope pos) 0 (.ref I) aD {ak with scope:=relabel scope env}) (RR aD ak.locals) kX) E dQ) E s:=by
 exact lV (W:=gz (aN fe) jb (aN t₁) we K cK a9 []) (K:=K) O CO (λOC hw R hI hH dH hD ck=>Bz OC hA ug u5 (hs _) (bI OC) (UE OC) nr hw R hI hH dH hD ck) jy hw R hI Ln hb ze Hh Lo Lp
end
noncomputable def eM:Scope:=match eV with
 |.ListComp _ _ sc _=>sc
 |_=>kZ
noncomputable def Gv:Pos:=match eV with
 |.ListComp _ _ _ p=>p
 |_=>p0
noncomputable def fz:PE:=match eV with
 |.ListComp e _ _ _=>toPE 9 eM e
 |_=>.absent
noncomputable def d7:Nat->PE:=λk=>match eV with
 |.ListComp _ g _ _=>(match g[k]? with
   |some g=>toPE 9 eM g.iter
   |none=>.absent)
 |_=>.absent
noncomputable def eZ:Nat->gj:=λk=>match eV with
 |.ListComp _ g _ _=>(match g[k]? with
   |some g=>toPT0 eM g.target
   |none=>.name 0 p0)
 |_=>.name 0 p0
theorem Ej:eV=.ListComp fz.ex [⟨(eZ 0).ex,(d7 0).ex,[],0⟩,⟨(eZ 1).ex,(d7 1).ex,[],0⟩] eM Gv:=rfl
theorem Ek:kQ [] eM=true:=by decide+kernel
theorem El:fz.ok eM=true/\(d7 1).ok eM=true/\(eZ 0).ok eM=true/\(eZ 1).ok eM=true:=by decide+kernel
theorem Em {sc:Scope} (h:kdOf sc 122=3):(d7 0).ok sc=true:=by
 have:(d7 0).ok sc=(kdOf sc 122==3&&(nm 122 !=Str.ofString "__debug__")&&(true&&true&&true)&&true):=rfl
 rw[this,h]
 decide+kernel
theorem rp:fz.er=.tup (.cons (.loc 43 p0) (.cons (.loc 77 p0) .nil)) 0 p0/\(d7 0).er=.call (.glob 122 p0) (.cons (.int 5 p0) .nil) p0/\(d7 1).er=.call (.glob 122 p0) (.cons (.loc 43 p0) .nil) p0/\(eZ 0).er=.name 43 p0/\(eZ 1).er=.name 77 p0:=⟨rfl,rfl,rfl,rfl,rfl⟩
noncomputable def BA (cx:Cx) (P:bu) (σ:St):Prop:=aZ cx (d7 0) (λiv=>f0 iv (λa9 aw=>
 ∃ n,gz (aN (eZ 0)) (aZ cx (d7 1)) (aN (eZ 1)) (aZ cx fz) (λxs jX=>push (.list xs) P {aw with hp:=jX.hp}) n a9 [] {loc:=[],ce:=[],hp:=aw.hp})) σ
theorem JB:aN (eZ 0)=λv Q σ=>Q {σ with loc:=σ.loc.set 43 v}:=rfl
theorem JC:aN (eZ 1)=λv Q σ=>Q {σ with loc:=σ.loc.set 77 v}:=rfl
noncomputable def BB (i:Nat):Nat:=i*(i-1)/2
theorem JD:∀ i<5,∀ j<i,yw[BB i+j]? =some (i,j):=by decide
theorem BC:∀ i<5,BB (i+1)=BB i+i:=by decide
structure gO (H0:List PO) (n:Nat) (aD:List PV) (H:List PO):Prop where
 ex:∃ rs:List Nat,aD=rs.map .ref/\rs.length=n/\(∀ r∈rs,H0.length<=r)/\(∀ r∈rs,r<H.length)/\∀ t p,t<n->yw[t]? =some p->H[rs.getD t 0]? =some (yx p)
 gr:aq H0 H
 kp:∀ (j:Nat) o,H0[j]? =some o->H[j]? =some o
theorem gO.rng {H0 H:List PO} {n:Nat} {aD:List PV} (I:gO H0 n aD H) (o:PO):gO H0 n aD (H++[o]):=by
 obtain⟨⟨rs,e1,e2,e3,e4,e5⟩,g,k⟩:=I
 exact⟨⟨rs,e1,e2,e3,λr hr=>by rw[Zw];exact ZZ (e4 r hr),λt p h h'=>ac (e5 t p h h') _⟩,g.trans (.push _ _),λj o' e=>ac (k j o' e) _⟩
theorem gO.tup {H0 H:List PO} {n:Nat} {aD:List PV} (I:gO H0 n aD H) {p:Nat×Nat} (hp:yw[n]? =some p):gO H0 (n+1) (aD++[.ref H.length]) (H++[yx p]):=by
 obtain⟨⟨rs,e1,e2,e3,e4,e5⟩,g,k⟩:=I
 refine⟨⟨rs++[H.length],by rw[e1,ZT];rfl,by rw[Zw,e2];rfl,λr hr=>?_,λr hr=>?_,λt q h h'=>?_⟩,g.trans (.push _ _),λj o' e=>ac (k j o' e) _⟩
 .rcases Z1.mp hr with hr|hr
  .exact e3 r hr
  .rw[ZG.mp hr];exact g.le
 .rcases Z1.mp hr with hr|hr
  .rw[Zw];exact ZZ (e4 r hr)
  .rw[ZG.mp hr,Zw];exact Z0 _
 .by_cases z:t<n
  .have:(rs++[H.length]).getD t 0=rs.getD t 0:=by
    rw[ZC,ZC,ZQ (by rw[e2];exact z)]
   rw[this]
   exact ac (e5 t q z h') _
  .have:t=n:=Nat.le_antisymm (Nat.le_of_lt_succ h) (Nat.le_of_not_lt z)
   subst this
   have:(rs++[H.length]).getD t 0=H.length:=by
    rw[ZC,aah (Z8 e2),e2,Nat.sub_self];rfl
   rw[this,af]
   rw[hp] at h'
   cases h';rfl
section
variable {cx:Cx} {A:Nat->Addr}
theorem xb (G:GG cx A) {K:List PV->St->Prop} {H0:List PO} {i:Nat} (hi:i<5):∀ (m j:Nat) (aD:List PV) (l:Loc) (H:List PO),j+m=i->l.get 43=some (.int (i:Nat))->gO H0 (BB i+j) aD H->
  (∀ c7 l' H',gO H0 (BB i+i) c7 H'->K c7 {loc:=l',ce:=[],hp:=H'})->bh (aN (eZ 1)) (λQ=>Q true) (aZ cx fz) K (m+1) (.rng 0 1 i j) aD {loc:=l,ce:=[],hp:=H}
 |0,j,aD,l,H,e,hl,I,k=>by
  obtain rfl:j=i:=e
  rw[bh,dj]
  exact k _ _ _ I
 |m+1,j,aD,l,H,e,hl,I,k=>by
  have hj:j<i:=by rw[<-e];exact Nat.lt_add_of_pos_right (Nat.succ_pos m)
  rw[bh,dY hj]
  rw[q9,JC,<-eA,rp.1]
  have hn:aD.length=BB i+j:=by
   obtain⟨⟨rs,e1,e2,_⟩,_,_⟩:=I
   rw[e1,ZI,e2]
  have ht:BB i<=10:=(by decide:∀ i<5,BB i<=10) i hi
  refine Zt (λø=>?_) (λq=>nomatch q)
  repeat walk_at "o"
  refine Zt (by decide:(2:Nat)<=1000000) ?_
  refine Zt (by rw[hn];exact Zu (aac ht (Zx (aaJ hj hi))) (by decide)) ?_
  exact xb G hi m (j+1) (aD++[.ref H.length]) (l.set 77 (.int (j:Nat))) (H++[yx (i,j)]) (by rw[<-e,aaA,aao 1 m]) hl (by
   rw[<-aaA];exact I.tup (JD i hi j hj)) k
theorem yz (G:GG cx A) {again:List PV->St->Prop} {H0:List PO} {i:Nat} (hi:i<5) {aD:List PV} {l:Loc} {H:List PO} (I:gO H0 (BB i) aD H)
  (k:∀ c7 l' H',gO H0 (BB (i+1)) c7 H'->again c7 {loc:=l',ce:=[],hp:=H'}):
  aN (eZ 0) (.int (i:Nat)) (aZ cx (d7 1) (λiv=>f0 iv (λxa aw=>∃ m,bh (aN (eZ 1)) (λQ=>Q true) (aZ cx fz) again m xa aD aw))) {loc:=l,ce:=[],hp:=H}:=by
 rw[JB,<-eA cx (d7 1),rp.2.2.1]
 refine ax (G.g _ _ rfl) ?_
 refine Zt (rm (n:=i) hi) ?_
 refine eR (af _ _) ?_
 exact⟨i+1,xb G hi i 0 aD _ _ (aau _) rfl (I.rng _) λc7 l' H' I'=>k _ _ _ (by rw[BC i hi];exact I')⟩
theorem BD (G:GG cx A) {K:List PV->St->Prop} {H0:List PO} (m:Nat):∀ (i:Nat) (aD:List PV) (l:Loc) (H:List PO),i+m=5->gO H0 (BB i) aD H->
  (∀ c7 l' H',gO H0 10 c7 H'->K c7 {loc:=l',ce:=[],hp:=H'})->gz (aN (eZ 0)) (aZ cx (d7 1)) (aN (eZ 1)) (aZ cx fz) K (m+1) (.rng 0 1 5 i) aD {loc:=l,ce:=[],hp:=H}:=by
 induction m with
 |zero=>
  intro i aD l H e I k
  obtain rfl:i=5:=e
  rw[gz,dj]
  exact k _ _ _ I
 |succ m ih=>
  intro i aD l H e I k
  have hj:i<5:=by rw[<-e];exact Nat.lt_add_of_pos_right (Nat.succ_pos m)
  rw[gz,dY hj,q9]
  exact yz G hj I λc7 l' H' I'=>ih (i+1) c7 l' H' (by rw[<-e,aaA,aao 1 m]) I' k
theorem En (G:GG cx A) {P:bu} {σ:St} (h:mr P σ):BA cx P σ:=by
 unfold BA
 rw[<-eA,rp.2.1]
 refine ax (G.g _ _ rfl) ?_
 refine Zt (by decide) ?_
 refine eR (af _ _) ?_
 refine⟨6,?_⟩
 refine BD G 5 0 [] [] _ rfl (gO.rng (H0:=σ.hp) ⟨⟨[],rfl,rfl,λø h=>by(cases h),λø h=>by(cases h),λt p h=>absurd h (Nat.not_lt_zero t)⟩,.refl _,λø ø e=>e⟩ _) λaD l H I=>?_
 obtain⟨⟨rs,rfl,e2,e3,e4,e5⟩,g,kp⟩:=I
 refine h _ _ rs (g.trans (.push _ _)) (λj o e=>ac (kp j o e) _) (af _ _) g.le e2 e3 λt p ht=>?_
 exact ac (e5 t p (by have:=(Zv.mp ht).1;exact this) ht) _
theorem u6 {n:Nat} (C:bF cx n) (G:GG cx A) {env:Env} {sc:Scope} {ab:aT} {σ:St} {s:Shared} {Ar:Around} {P:bu} {Q:Value->Shared->Prop} {E:Value->Shared->Prop}
  (hA:Good cx n Ar) (O:aW env sc) (hk:kdOf sc 122=3) (hw:mr P σ) (R:aH cx env ab σ s.heap) (k:bB cx env ab s P Q):wpAny (model cx.prog cx.w) Ar (eval eV env) Q E s:=by
 have hw:=En G hw
 have CO:=pM Ek
 obtain⟨Lu,tU,Fg,Lv⟩:=El
 have hs:∀ x,foldedSetIterable (d7 0).ex env x=pure x:=λø=>rfl
 have jY:closureFor eM env=pure (bn env eM.names).reverse:=gm λy hy hf=>by
  obtain⟨x,hx,_⟩:=CO.of hy hf
  cases hx
 rw[Ej]
 show wpAny _ _ (comprehension (.ListComp fz.ex [⟨(eZ 0).ex,(d7 0).ex,[],0⟩,⟨(eZ 1).ex,(d7 1).ex,[],0⟩] eM Gv) eM env (d7 0).ex.pos (newList []) false (eval (d7 0).ex env) none) _ _ _
 refine wpAny_comprehension_free rfl hs jY CO.kind CO.names ?_
 refine bb C (d7 0) hA O (Em hk) hw R λiv ae ag xv ai av hw₁ d au aB=>dw (s:={s with heap:=ai,toks:=av}) hw₁ au d λa9 H I h' hw₂ jy qG qD hI hH ø=>?_
 obtain⟨cK,hw₂⟩:=hw₂
 have qD:∀ b o,ai.get? b=some o->h'.get? b=some o:=qD
 have hH:∀ b∈H,ai.get? b=none:=hH
 obtain⟨R',S'⟩:=au.grow qD
 refine tz (fr:=[]) (s:={s with heap:=h',toks:=av}) (bD:=ai) (σ:=ae) O hA CO Fg Lv (λø ø=>rfl) (λOC=>λa b c=>bb C fz hA OC Lu a b c) (λOC=>λa b c=>bb C (d7 1) hA OC tU a b c) qG jy hw₂ R' hI hH qD (λi a e=>?_) ?_ au.keep λD Cc jX xs aj bf tk m' hK aK hi hn hC vH xT Qw aR=>?_
 .obtain⟨_,_,_,e2,_⟩:=au.here e
  rw[e2];rfl
 .obtain⟨m,⟨o,_,_,ho,_⟩,_⟩:=au.loc
  rw[ho];rfl
 .have um:s.heap.get? Cc=none:=by
   cases q:s.heap.get? Cc with
   |none=>rfl
   |some o=>have:=aB.live Cc (by rw[q];rfl);rw[Qw] at this;cases this
  have cw:=aB.trans aR
  exact⟨m',hn,λHl OF=>k _ _ _ _ _ _ hK ⟨D,hi,rfl⟩ (aK.but hC vH xT (R.ff.nf λo e=>by rw[um] at e;cases e) OF) (cw.but um OF)⟩
end
noncomputable def qy:List Nat:=[7,4,131,9,4090,155905,3,5]
noncomputable def OG:PE:=.bin .Mod (.bin .Add (.loc 16 p0) (.call (.glob 126 p0) (.cons (.slice (.cel 92 p0) (.loc 50 p0) (.int 60 p0) (.int 8 p0) p0 p0) .nil) p0) p0) (.bin .Pow (.int 10 p0) (.int 9 p0) p0) p0
noncomputable def P6 (ns:List Int) (k:Nat):List Int:=(sliceRange (sliceBounds (some (k:Int)) (some 60) (some 8) ns.length).1 (sliceBounds (some (k:Int)) (some 60) (some 8) ns.length).2.1 (sliceBounds (some (k:Int)) (some 60) (some 8) ns.length).2.2).filterMap (ns[.]?)
theorem pf (ns:List Int) (ix:List Nat):ix.filterMap ((aa ns)[.]?)=aa (ix.filterMap (ns[.]?)):=by
 induction ix with
 |nil=>rfl
 |cons i r ih=>
  rw[aa2,aa2,gL,ih]
  cases ns[i]? <;>rfl
theorem JE (ns:List Int) (k:Nat):cG (aa ns) (some (k:Int)) (some 60) (some 8)=aa (P6 ns k):=by
 unfold cG P6
 rw[ar,pf]
noncomputable def BE (ns:List Int) (k:Nat):Int:=(((qy.getD k 0:Nat):Int)+(P6 ns k).sum).fmod 1000000000
noncomputable def JF (ns:List Int) (k:Nat):Nat:=(BE ns k).toNat
theorem BF (ns:List Int) (k:Nat):(JF ns k:Int)=BE ns k:=aaL (aaN _ (by decide))
theorem JG (ns:List Int) (k:Nat):JF ns k<1000000000:=by
 have h:=BF ns k
 have h2:=Int.fmod_lt_of_pos (((qy.getD k 0:Nat):Int)+(P6 ns k).sum) (show(0:Int)<1000000000 by decide)
 unfold BE at h
 exact la [_] [_] [.E (.c .v0) .V0,.T .V0 (.n 1000000000)] (.t .v0 (.n 1000000000)) (.f [1,0,1,1]) rfl h h2
noncomputable def cU (c:Nat->Nat):List Nat:=[c 0%9,c 1%262144,c 2%262144,c 3%262144,c 4%262144,c 5%262144]
noncomputable def ij (c:Nat->Nat):Nat:=1+c 5%262144%4
noncomputable def pg (c:Nat->Nat) (k:Nat):Nat:=(cU c).getD k 0%k
noncomputable def lA (c:Nat->Nat):List Nat:=0::(List.range 4).map λk=>pg c (k+1)
noncomputable def ph (c:Nat->Nat) (k:Nat):Nat:=(cU c).getD k 0/k%(if k+ij c=5 then 4 else 3)
noncomputable def tA (c:Nat->Nat):List Nat:=0::(List.range 4).map λk=>ph c (k+1)
noncomputable def yA (c:Nat->Nat) (k:Nat):Nat:=if k=ij c then 3+c 5%262144/4%2 else(tA c).getD k 0
noncomputable def fN (c:Nat->Nat):List Nat:=(List.range 5).map (yA c)
noncomputable def Gw (kind:Nat):Nat:=([1,2,3,2,4]:List Nat).getD kind 0
noncomputable def oa (c:Nat->Nat):List Nat:=0::((fN c).drop 1).map Gw
section
variable {cx:Cx} {A:Nat->Addr}
theorem rq {bI:PE} {x n:Nat} {a:Int} {f:Nat->Nat} {K:List PV->St->Prop} {H:List PO} {ce:List (Nat×Nat)} (hn:n<=1000)
  (el:∀ i l Q,i<n->Q (.int (f i:Nat)) {loc:=Loc.set l x (.int (a+(i:Nat)*1)),ce:=ce,hp:=H}->aZ cx bI Q {loc:=Loc.set l x (.int (a+(i:Nat)*1)),ce:=ce,hp:=H})
  (k:∀ l,K (aa (ah ((List.range n).map f))) {loc:=l,ce:=ce,hp:=H}):∃ m,bh (aN (.name x p0)) (cu cx .nil) (aZ cx bI) K m (.rng a 1 n 0) [] {loc:=[],ce:=ce,hp:=H}:=by
 refine c9 n (λi=>.rng a 1 n i) (λi aD σ=>∃ l,σ={loc:=l,ce:=ce,hp:=H}/\aD=aa (ah ((List.range i).map f))) ?_ ?_ ⟨[],rfl,rfl⟩
 .rintro i aD σ hi ⟨l,rfl,rfl⟩
  refine⟨_,_,dY hi,λagain dZ=>?_⟩
  refine Zt (λø=>el i l _ hi (Zt ?_ (dZ _ _ ⟨_,rfl,?_⟩))) (λq=>nomatch q)
  .rw[ar,aG,ZI,aaK];exact f6 (Zu (Zx hi) hn) rfl
  .rw[cR,List.range_succ,ZT];rfl
 .rintro aD σ ⟨l,rfl,rfl⟩
  exact⟨dj,k _⟩
theorem Eo {bI:PE} {x fx:Nat} {xs:List Nat} {f:Nat->Nat} {K:List PV->St->Prop} {H:List PO} {ce:List (Nat×Nat)} (hr:H[fx]? =some (.list (aa (ah xs)))) (hs:xs.length<=1000)
  (el:∀ v l Q,v∈xs->Q (.int (f v:Nat)) {loc:=Loc.set l x (.int (v:Nat)),ce:=ce,hp:=H}->aZ cx bI Q {loc:=Loc.set l x (.int (v:Nat)),ce:=ce,hp:=H})
  (k:∀ l,K (aa (ah (xs.map f))) {loc:=l,ce:=ce,hp:=H}):∃ m,bh (aN (.name x p0)) (cu cx .nil) (aZ cx bI) K m (.lst fx 0) [] {loc:=[],ce:=ce,hp:=H}:=by
 refine c9 xs.length (λi=>.lst fx i) (λi aD σ=>∃ l,σ={loc:=l,ce:=ce,hp:=H}/\aD=aa (ah ((xs.take i).map f))) ?_ ?_ ⟨[],rfl,rfl⟩
 .rintro i aD σ hi ⟨l,rfl,rfl⟩
  obtain⟨v,hv⟩:=dM rfl hi
  refine⟨.int (v:Nat),_,dz hr (bJ hv),λagain dZ=>?_⟩
  refine Zt (λø=>el v l _ (ZE hv) (Zt ?_ (dZ _ _ ⟨_,rfl,?_⟩))) (λq=>nomatch q)
  .rw[ar,aG,ZI];exact kv hs rfl
  .rw[cR,aaj,hv,Option.toList_some,ZT];rfl
 .rintro aD σ ⟨l,rfl,rfl⟩
  exact⟨eN hr (by rw[ar,aG]),by rw[aay];exact k l⟩
theorem od {l:List Nat} {i:Nat} (h:i<l.length):(aa (ah l))[i]? =some (.int (l.getD i 0:Nat)):=by
 rw[wE,ZC,ZB h];rfl
theorem Ep (i:Nat) (h:i<8):(aa (ah qy))[i]? =some (.int (qy.getD i 0:Nat)):=od h
theorem JH (G:GG cx A) {K:List PV->St->Prop} {H:List PO} {a gT OH:Nat} {ns:List Int} {ob:Obj} (ha:H[a]? =some (.cell (some (.ref gT)))) (hs:H[gT]? =some (.slist (aa ns) ob)) (hn:ns.length<=1000) (hd:H[OH]? =some (.list (aa (ah qy)))) (a2:2<=a) (s2:2<=gT) (d2:2<=OH)
  (k:∀ l H',aq H H'->K (aa (ah ((List.range 8).map (JF ns)))) {loc:=l,ce:=[(92,a)],hp:=H'}):
  ∃ n,bh (aN (.tup [(50,p0),(16,p0)] 0 p0)) (λQ=>Q true) (aZ cx OG) K n (.enm OH 0) [] {loc:=[],ce:=[(92,a)],hp:=H}:=by
 refine c9 8 (λi=>.enm OH i) (λi aD σ=>∃ l H',σ={loc:=l,ce:=[(92,a)],hp:=H'}/\aq H H'/\aD=aa (ah ((List.range i).map (JF ns)))) ?_ ?_ ⟨[],H,rfl,.refl _,rfl⟩
 .rintro i aD σ hi ⟨l,H',rfl,g,rfl⟩
  refine⟨_,_,ta (g.keep _ _ d2 hd) (Ep i hi),λagain dZ=>?_⟩
  have g1:aq H (H'++[.tup [.int (i:Int),.int (qy.getD i 0:Nat)]]):=g.trans (.push _ _)
  refine j6 (af _ _) (Zt rfl ?_)
  refine Zt (λø=>?_) (λq=>nomatch q)
  refine ax (G.g _ _ rfl) ?_
  refine bG (g1.keep _ _ a2 ha) ?_
  refine Lf (g1.keep _ _ s2 hs) (Zt (by decide) (Zt (by rw[ar];exact f6 hn rfl) ?_))
  rw[JE]
  refine cq (af _ _) (jI (bO _) ?_)
  refine Zt (by decide) (Zt (Int.le_trans (Int.mul_le_mul_of_nonneg_right (aaf.mpr (dL (x:=10) (n:=4) (by decide))) (by decide)) (by decide)) ?_)
  refine Zt (by decide) ?_
  refine Zt ?_ (dZ _ _ ⟨_,_,rfl,g1.trans (.push _ _),?_⟩)
  .rw[ar,aG,ZI,aaK];exact f6 (Zx hi) rfl
  .rw[List.range_succ,ZT,List.map_cons,List.map_nil,<-cR,BF]
   rfl
 .rintro aD σ ⟨l,H',rfl,g,rfl⟩
  exact⟨wT (g.keep _ _ d2 hd) rfl,k _ _ g⟩
noncomputable def UF:PE:=.bin .Mod (.loc 16 p0) (.bin .Pow (.int 64 p0) (.int 3 p0) p0) p0
theorem JI (G:GG cx A) {K:List PV->St->Prop} {H:List PO} {ce:List (Nat×Nat)} {fx:Nat} {xs:List Nat} (hr:H[fx]? =some (.list (aa (ah xs)))) (hs:xs.length<=1000) (k:∀ l,K (aa (ah (xs.map (. %262144)))) {loc:=l,ce:=ce,hp:=H}):
  ∃ n,bh (aN (.name 16 p0)) (cu cx .nil) (aZ cx UF) K n (.lst fx 0) [] {loc:=[],ce:=ce,hp:=H}:=
 Eo hr hs (λv l Q ø q=>by
  refine Zt (by decide) (Zt (Int.le_trans (Int.mul_le_mul_of_nonneg_right (aaf.mpr Oe) (by decide)) (by decide)) (Zt (by decide) ?_))
  rw[show(64:Int)^Int.toNat 3=((262144:Nat):Int) from rfl,cA]
  exact q) k
noncomputable def UG:PE:=.call (.glob 127 p0) (.cons (.loc 16 p0) .nil) p0
theorem JJ (G:GG cx A) {K:List PV->St->Prop} {H:List PO} {ce:List (Nat×Nat)} {fx:Nat} {xs:List Nat} (hr:H[fx]? =some (.list (aa (ah xs)))) (hs:xs.length<=1000) (hx:∀ x∈xs,x<2^100) (k:∀ l,K (d8 ((ah xs).map tx)) {loc:=l,ce:=ce,hp:=H}):
  ∃ n,bh (aN (.name 16 p0)) (cu cx .nil) (aZ cx UG) K n (.lst fx 0) [] {loc:=[],ce:=ce,hp:=H}:=by
 refine c9 xs.length (λi=>.lst fx i) (λi aD σ=>∃ l,σ={loc:=l,ce:=ce,hp:=H}/\aD=d8 ((ah (xs.take i)).map tx)) ?_ ?_ ⟨[],rfl,rfl⟩
 .rintro i aD σ hi ⟨l,rfl,rfl⟩
  obtain⟨v,hv⟩:=dM rfl hi
  refine⟨.int (v:Nat),_,dz hr (bJ hv),λagain dZ=>?_⟩
  refine Zt (λø=>?_) (λq=>nomatch q)
  refine ax (G.g _ _ rfl) ?_
  refine Zt ?_ (Zt ?_ (dZ _ _ ⟨_,rfl,?_⟩))
  .rw[Int.natAbs_natCast]
   by_cases z:v=0
   .rw[z];decide
   .exact aaJ ((Nat.log2_lt z).mpr (hx _ (ZE hv))) (by decide)
  .unfold d8 ah
   rw[ZI,ZI,ZI]
   exact kv hs rfl
  .rw[show d8 ((ah (xs.take i)).map tx)++[PV.str (Str.ofString (toString ((v:Nat):Int)))]=d8 ((ah (xs.take i)).map tx++[tx v]) from km _ (tx v),aaj,hv]
   unfold ah
   rw[ZT,ZT]
   rfl
 .rintro aD σ ⟨l,rfl,rfl⟩
  exact⟨eN hr (by rw[ar,aG]),by rw[aay];exact k l⟩
theorem xc (c:Nat->Nat) {k:Nat} (h:k<6):(aa (ah (cU c)))[k]? =some (.int ((cU c).getD k 0:Nat)):=od h
theorem Er (c:Nat->Nat) {k:Nat} (h:k<5):(aa (ah (tA c)))[k]? =some (.int ((tA c).getD k 0:Nat)):=od h
theorem Gx (i:Nat):(1:Int)+(i:Int)*1=((i+1:Nat):Int):=by exact la [_] [] [] (.E (.a .n1 (.M (.c .v0) 1)) (.c (.a .v0 .n1))) (.o 0 (.f [1]) (.f [1])) rfl
noncomputable def UH:PE:=.bin .Mod (.sub (.cel 47 p0) (.loc 50 p0) p0) (.loc 50 p0) p0
theorem Es (G:GG cx A) {K:List PV->St->Prop} {H:List PO} {a bT:Nat} {c:Nat->Nat} (ha:H[a]? =some (.cell (some (.ref bT)))) (hn:H[bT]? =some (.list (aa (ah (cU c)))))
  (k:∀ l,K (aa (ah ((List.range 4).map λk=>pg c (k+1)))) {loc:=l,ce:=[(47,a)],hp:=H}):
  ∃ n,bh (aN (.name 50 p0)) (cu cx .nil) (aZ cx UH) K n (.rng 1 1 4 0) [] {loc:=[],ce:=[(47,a)],hp:=H}:=
 rq (f:=λk=>pg c (k+1)) (by decide) (λi l Q hi q=>by
  rw[Gx] at q ⊢
  have h6:i+1<6:=Nat.succ_lt_succ (ZZ hi)
  refine bG ha ?_
  refine ay hn (xc c h6) (f6 (Zx h6) rfl) ?_
  refine Zt (λq=>nomatch aaI q) ?_
  rw[cA]
  exact q) k
noncomputable def UI:PE:=.bin .Mod (.bin .FloorDiv (.sub (.cel 47 p0) (.loc 50 p0) p0) (.loc 50 p0) p0) (.ite (.cmp .Eq (.loc 50 p0) (.bin .Sub (.int 5 p0) (.cel 95 p0) p0) p0) (.int 4 p0) (.int 3 p0) p0) p0
theorem JK (G:GG cx A) {K:List PV->St->Prop} {H:List PO} {a b bT:Nat} {c:Nat->Nat} (ha:H[a]? =some (.cell (some (.ref bT)))) (hb:H[b]? =some (.cell (some (.int (ij c:Nat))))) (hn:H[bT]? =some (.list (aa (ah (cU c)))))
  (k:∀ l,K (aa (ah ((List.range 4).map λk=>ph c (k+1)))) {loc:=l,ce:=[(47,a),(95,b)],hp:=H}):
  ∃ n,bh (aN (.name 50 p0)) (cu cx .nil) (aZ cx UI) K n (.rng 1 1 4 0) [] {loc:=[],ce:=[(47,a),(95,b)],hp:=H}:=
 rq (f:=λk=>ph c (k+1)) (by decide) (λi l Q hi q=>by
  rw[Gx] at q ⊢
  have h6:i+1<6:=Nat.succ_lt_succ (ZZ hi)
  refine bG ha ?_
  refine ay hn (xc c h6) (f6 (Zx h6) rfl) ?_
  refine Zt (λq=>nomatch aaI q) (Zt (Zu (gu (n:=3) (aaJ (Nat.succ_lt_succ hi) (by decide))) (by decide)) ?_)
  rw[eX]
  refine bG hb ?_
  unfold ph at q
  by_cases z:i+1+ij c=5
  .rw[if_pos z] at q
   refine gY (beq_iff_eq.mpr (by exact la [_,_] [] [.e (.a (.a .v0 .n1) .v1) (.n 5)] (.E (.c (.a .v0 .n1)) (.s (.n 5) (.c .v1))) (.o 0 (.f [1,1]) (.f [1,0,1])) rfl z)) ?_
   refine Zt (by decide) ?_
   rw[show(4:Int)=((4:Nat):Int) from rfl,cA]
   exact q
  .rw[if_neg z] at q
   refine gZ (beq_eq_false_iff_ne.mpr (by exact la [_,_] [] [.n (.e (.a (.a .v0 .n1) .v1) (.n 5))] (.n (.E (.c (.a .v0 .n1)) (.s (.n 5) (.c .v1)))) (.o 0 (.f [1,1]) (.f [1,0,1])) rfl z)) ?_
   refine Zt (by decide) ?_
   rw[show(3:Int)=((3:Nat):Int) from rfl,cA]
   exact q) k
noncomputable def UJ:PE:=.ite (.cmp .Eq (.loc 50 p0) (.cel 95 p0) p0) (.bin .Add (.int 3 p0) (.bin .Mod (.bin .FloorDiv (.sub (.cel 47 p0) (.int 5 p0) p0) (.int 4 p0) p0) (.int 2 p0) p0) p0) (.sub (.cel 96 p0) (.loc 50 p0) p0) p0
theorem JL (G:GG cx A) {K:List PV->St->Prop} {H:List PO} {a b d bT JM:Nat} {c:Nat->Nat} (ha:H[a]? =some (.cell (some (.ref bT)))) (hb:H[b]? =some (.cell (some (.int (ij c:Nat))))) (hd:H[d]? =some (.cell (some (.ref JM)))) (hn:H[bT]? =some (.list (aa (ah (cU c))))) (ho:H[JM]? =some (.list (aa (ah (tA c)))))
  (k:∀ l,K (aa (ah (fN c))) {loc:=l,ce:=[(47,a),(95,b),(96,d)],hp:=H}):
  ∃ n,bh (aN (.name 50 p0)) (cu cx .nil) (aZ cx UJ) K n (.rng 0 1 5 0) [] {loc:=[],ce:=[(47,a),(95,b),(96,d)],hp:=H}:=
 rq (f:=yA c) (by decide) (λi l Q hi q=>by
  rw[q9] at q ⊢
  unfold yA at q
  refine bG hb ?_
  by_cases z:i=ij c
  .rw[if_pos z] at q
   refine gY (beq_iff_eq.mpr (congrArg Int.ofNat z)) ?_
   refine bG ha ?_
   refine ay (k:=5) hn rfl (by decide) ?_
   refine Zt (by decide) (Zt (Zu (dL (x:=4) (n:=3) (by decide)) (by decide)) ?_)
   refine Zt (by decide) ?_
   rw[show(4:Int)=((4:Nat):Int) from rfl,eX,show(2:Int)=((2:Nat):Int) from rfl,cA]
   exact q
  .rw[if_neg z] at q
   refine gZ (beq_eq_false_iff_ne.mpr λe=>z (aaI e)) ?_
   refine bG hd ?_
   exact ay ho (Er c hi) (rm hi) q) k
noncomputable def UK:PE:=.sub (.list (.cons (.int 1 p0) (.cons (.int 2 p0) (.cons (.int 3 p0) (.cons (.int 2 p0) (.cons (.int 4 p0) .nil))))) p0) (.loc 60 p0) p0
theorem JN (x:Nat) (h:x<=4):([PV.int 1,PV.int 2,PV.int 3,PV.int 2,PV.int 4])[x]? =some (.int (Gw x:Nat)):=by
 rcases Ks (aa1 h) with rfl|rfl|rfl|rfl|rfl<;>rfl
theorem Et (G:GG cx A) {K:List PV->St->Prop} {H:List PO} {ce:List (Nat×Nat)} {fx:Nat} {xs:List Nat} (hr:H[fx]? =some (.list (aa (ah xs)))) (hs:xs.length<=1000) (hx:∀ x∈xs,x<=4) (r2:2<=fx) (k:∀ l H',aq H H'->K (aa (ah (xs.map Gw))) {loc:=l,ce:=ce,hp:=H'}):
  ∃ n,bh (aN (.name 60 p0)) (cu cx .nil) (aZ cx UK) K n (.lst fx 0) [] {loc:=[],ce:=ce,hp:=H}:=by
 refine c9 xs.length (λi=>.lst fx i) (λi aD σ=>∃ l H',σ={loc:=l,ce:=ce,hp:=H'}/\aq H H'/\aD=aa (ah ((xs.take i).map Gw))) ?_ ?_ ⟨[],H,rfl,.refl _,rfl⟩
 .rintro i aD σ hi ⟨l,H',rfl,g,rfl⟩
  obtain⟨v,hv⟩:=dM rfl hi
  have Wo:=hx _ (ZE hv)
  refine⟨.int (v:Nat),_,dz (g.keep _ _ r2 hr) (bJ hv),λagain dZ=>?_⟩
  refine Zt (λø=>?_) (λq=>nomatch q)
  refine Zt (by decide:(5:Nat)<=1000000) ?_
  refine ay (af _ _) (JN v Wo) (f6 Wo rfl) ?_
  refine Zt ?_ (dZ _ _ ⟨_,_,rfl,g.trans (.push _ _),?_⟩)
  .rw[ar,aG,ZI];exact kv hs rfl
  .rw[cR,aaj,hv,Option.toList_some,ZT];rfl
 .rintro aD σ ⟨l,H',rfl,g,rfl⟩
  exact⟨eN (g.keep _ _ r2 hr) (by rw[ar,aG]),by rw[aay];exact k l _ g⟩
end
theorem xd (xs:List PV):cG xs none (some (-1)) none=xs.dropLast:=by
 have e:sliceBounds none (some (-1)) none xs.length=(0,((xs.length-1:Nat):Int),1):=by
  unfold sliceBounds
  simp
  exact la [_] [] [] (.E (.x .n0 (.i (.a (.g .n1) (.c .v0)) (.c .v0))) (.c (.s .v0 .n1))) (.o 0 (.k true (.s .v0 .n1) (.o 0 (.o 0 (.k false (.x .n0 (.i (.a (.g .n1) (.c .v0)) (.c .v0))) (.o 0 (.f [1,0,1,0,1,0,0,0,0,1]) (.f [1,0,0,0,1,0,0,0,0,1]))) (.k false (.x .n0 (.i (.a (.g .n1) (.c .v0)) (.c .v0))) (.o 0 (.f [1,0,1,0,0,0,0,1,0,1]) (.f [1,0,0,0,0,0,0,1,0,1])))) (.k false (.x .n0 (.i (.a (.g .n1) (.c .v0)) (.c .v0))) (.o 0 (.k false (.i (.a (.g .n1) (.c .v0)) (.c .v0)) (.o 0 (.f [1,0,0,1,0,0,0,1,0,1]) (.f [0,0,1]))) (.k false (.i (.a (.g .n1) (.c .v0)) (.c .v0)) (.o 0 (.f [1,0,0,1,0,1,0,1,0,1]) (.f [0,0,1]))))))) (.k false (.x .n0 (.i (.a (.g .n1) (.c .v0)) (.c .v0))) (.o 0 (.k false (.i (.a (.g .n1) (.c .v0)) (.c .v0)) (.o 0 (.k true (.s .v0 .n1) (.o 0 (.f [0,0,1,0,1,0,0,1,0,1]) (.f [1,0,0,0,1,0,0,1,0,1]))) (.f [0,0,1]))) (.f [0,1,0,1])))) rfl
 refine D5 (ix:=(List.range (xs.length-1)).map (0+.)) ?_ ?_
 .rw[e]
  have:=sliceRange_one 0 (xs.length-1)
  exact this
 .rw[nS xs 0 _ (by exact la [_] [] [] (.l (.a .n0 (.s .v0 .n1)) .v0) (.k true (.s .v0 .n1) (.o 0 (.f [0,1,0,1]) (.f [0,1,0,1]))) rfl),List.drop_zero,List.dropLast_eq_take]
theorem OI (c:Nat->Nat):cG (aa (ah ((List.range 8).map c))) (some 1) (some 6) none=aa (ah [c 1,c 2,c 3,c 4,c 5]):=
 D5 (ix:=[1,2,3,4,5]) (by show sliceRange (sliceBounds (some 1) (some 6) none 8).1 (sliceBounds (some 1) (some 6) none 8).2.1 (sliceBounds (some 1) (some 6) none 8).2.2=_;decide) rfl
theorem UL (f:Nat->Nat):cG (aa (ah ((List.range 5).map f))) (some 1) none none=aa (ah (((List.range 5).map f).drop 1)):=
 D5 (ix:=[1,2,3,4]) (by show sliceRange (sliceBounds (some 1) none none 5).1 (sliceBounds (some 1) none none 5).2.1 (sliceBounds (some 1) none none 5).2.2=_;decide) rfl
theorem BG (l:List Str):(d8 l).dropLast=d8 l.dropLast:=by unfold d8;rw[List.map_dropLast]
theorem tB (l:List Int):(aa l).dropLast=aa l.dropLast:=by unfold aa;rw[List.map_dropLast]
structure mu (c:Nat->Nat):Prop where
 tree:Tree (lA c)
 kinds:Kinds (fN c)
 lens:eD (oa c)
 tab:w9 (lA c) (fN c) (oa c) (c 6%9) (c 7)
 out:∃ T,T 0=lw (lA c) (oa c) (((c 0%9:Nat):Int)-4)/\uZ (lA c) (oa c) (((c 0%9:Nat):Int)-4) T
 ln:(cU c).length<=(fj (cU c)).length
 rd:f8 (ah (fj (cU c))) 0 (ah (cU c))
 rd':f8 (ah (fj (cU c))).dropLast 0 (ah (cU c)).dropLast
noncomputable def mI (n:Nat):List (Nat×Nat):=[(92,n),(47,n+1),(95,n+2),(96,n+3)]
structure rr (hp:List PO) (gT:Nat) (v1 v2 v3:Option PV) (H:List PO):Prop where
 c92:H[hp.length]? =some (.cell (some (.ref gT)))
 c47:H[hp.length+1]? =some (.cell v1)
 c95:H[hp.length+2]? =some (.cell v2)
 c96:H[hp.length+3]? =some (.cell v3)
 gr:aq hp H
theorem rr.grow {hp:List PO} {gT:Nat} {v1 v2 v3:Option PV} {H H':List PO} (m:rr hp gT v1 v2 v3 H) (h2:2<=hp.length) (g:aq H H'):rr hp gT v1 v2 v3 H':=
 ⟨g.keep _ _ h2 m.c92,g.keep _ _ (ZY h2) m.c47,g.keep _ _ (ZY h2) m.c95,g.keep _ _ (ZY h2) m.c96,m.gr.trans g⟩
theorem lB {n a b:Nat} (h:a≠b):n+a≠n+b:=λe=>h (Nat.add_left_cancel e)
theorem rt {n a:Nat} (h:0<a):n+a≠n:=aam (Nat.lt_add_of_pos_right h)
theorem rr.set47 {hp:List PO} {gT:Nat} {v1 v2 v3:Option PV} {H:List PO} (m:rr hp gT v1 v2 v3 H) (h2:2<=hp.length) (w:Option PV):rr hp gT w v2 v3 (H.set (hp.length+1) (.cell w)):=
 ⟨az m.c92 (rt (by decide)),d9 m.c47 _,az m.c95 (lB (by decide)),az m.c96 (lB (by decide)),m.gr.set (aaq ..) (ZY h2) λq e=>by rw[m.c47] at e;cases e⟩
theorem rr.set95 {hp:List PO} {gT:Nat} {v1 v2 v3:Option PV} {H:List PO} (m:rr hp gT v1 v2 v3 H) (h2:2<=hp.length) (w:Option PV):rr hp gT v1 w v3 (H.set (hp.length+2) (.cell w)):=
 ⟨az m.c92 (rt (by decide)),az m.c47 (lB (by decide)),d9 m.c95 _,az m.c96 (lB (by decide)),m.gr.set (aaq ..) (ZY h2) λq e=>by rw[m.c95] at e;cases e⟩
theorem rr.set96 {hp:List PO} {gT:Nat} {v1 v2 v3:Option PV} {H:List PO} (m:rr hp gT v1 v2 v3 H) (h2:2<=hp.length) (w:Option PV):rr hp gT v1 v2 w (H.set (hp.length+3) (.cell w)):=
 ⟨az m.c92 (rt (by decide)),az m.c47 (lB (by decide)),az m.c95 (lB (by decide)),d9 m.c96 _,m.gr.set (aaq ..) (ZY h2) λq e=>by rw[m.c96] at e;cases e⟩
noncomputable def Wp:Spec:=λps hp K=>∃ gT ns ob,ps=[.ref gT]/\hp[gT]? =some (.slist (aa ns) ob)/\ns.length<=1000/\2<=gT/\2<=hp.length/\fV hp/\mu (JF ns)/\∀ aE,aq hp aE->K (.bool true) aE
section
variable {cx:Cx} {A:Nat->Addr} {hp:List PO} {gT:Nat} {c:Nat->Nat}
theorem Gy (n:Nat):(((n%9:Nat):Int)-4).natAbs<=4:=by exact la [_] [] [] (.l (.b (.s (.c (.r .v0 9)) (.n 4))) (.n 4)) (.k true (.b (.s (.c (.r .v0 9)) (.n 4))) (.o 0 (.k true (.r .v0 9) (.f [0,0,1,0,0,1,0,1])) (.f [0,1,0,1]))) rfl
theorem JO (G:GG cx A) (lC:cx.D (A 118)=some mH) (lD:cx.D (A 120)=some toS) (h2:2<=hp.length) (hq:fV hp) (hc:∀ k,c k<1000000000) (O:mu c) {K:PV->List PO->Prop} {H:List PO} {l:Loc} {bT fi aS cX aJ:Nat} {v2 v3:Option PV}
  (m:rr hp gT (some (.ref bT)) v2 v3 H) (hn:H[bT]? =some (.list (aa (ah (cU c))))) (hC:H[fi]? =some (.list (aa (ah ((List.range 8).map c))))) (hP:H[aS]? =some (.list (aa (ah (lA c))))) (hK:H[cX]? =some (.list (aa (ah (fN c))))) (hL:H[aJ]? =some (.list (aa (ah (oa c)))))
  (n2:hp.length<=bT) (c2:hp.length<=fi) (p2:hp.length<=aS) (k2:hp.length<=cX) (l2:hp.length<=aJ)
  (Cu:l.get 93=some (.ref fi)) (l58:l.get 58=some (.ref aS)) (Zn:l.get 69=some (.ref cX)) (l70:l.get 70=some (.ref aJ)) (ck:∀ aE,aq hp aE->K (.bool true) aE):
  aF cx MH (cW K) {loc:=l,ce:=mI hp.length,hp:=H}:=by
 obtain⟨T,PP,hT⟩:=O.out
 have lH:=m.gr.le
 have z2:∀ {x:Nat},hp.length<=x->2<=x:=λh=>Zu h2 h
 repeat walk_at "o"
 refine ay (k:=6) hC (show _=some (.int (c 6:Nat)) from rfl) (by decide) ?_
 refine Zt (by decide) ?_
 rw[show(9:Int)=((9:Nat):Int) from rfl,cA]
 repeat walk_at "o"
 refine ay (k:=7) hC (show _=some (.int (c 7:Nat)) from rfl) (by decide) ?_
 refine bG m.c47 ?_
 refine ay (k:=0) hn rfl (by decide) ?_
 refine bP lC ⟨aS,cX,aJ,lA c,fN c,oa c,c 6%9,c 7,_,rfl,hP,hK,hL,O.tree,O.kinds,O.lens,Gy _,Nat.le_of_lt_succ (Z5 _ (by decide)),z2 p2,z2 k2,z2 l2,z2 lH,O.tab,λH1 bA rs g1 hm hd ht hr=>?_⟩
 have m1:=m.grow h2 g1
 rw[<-PP] at hm
 refine Zt (λq=>nomatch q) (λø=>?_)
 repeat walk_at "o"
 refine bG m1.c47 ?_
 refine ay (k:=0) (g1.keep _ _ (z2 n2) hn) rfl (by decide) ?_
 repeat walk_at "o"
 refine ay (k:=7) (g1.keep _ _ (z2 c2) hC) (show _=some (.int (c 7:Nat)) from rfl) (by decide) ?_
 exact bP lD ⟨bA,rs,aS,aJ,_,c 7,lA c,oa c,T,rfl,hm,hd,Zu (z2 lH) ht,λr Ub=>Zu (z2 lH) (hr r Ub),g1.keep _ _ (z2 p2) hP,g1.keep _ _ (z2 l2) hL,O.tree,O.lens,Gy _,z2 p2,z2 l2,aaJ (hc 7) (by decide),hT,z2 m1.gr.le,m1.gr.tabs hq,λaE g=>ck _ (m1.gr.trans g)⟩
theorem OJ (G:GG cx A) (lC:cx.D (A 118)=some mH) (lD:cx.D (A 120)=some toS) (h2:2<=hp.length) (hq:fV hp) (hc:∀ k,c k<1000000000) (O:mu c) {K:PV->List PO->Prop} {H:List PO} {l:Loc} {bT fi aS JM:Nat}
  (m:rr hp gT (some (.ref bT)) (some (.int (ij c:Nat))) (some (.ref JM)) H) (hn:H[bT]? =some (.list (aa (ah (cU c))))) (hC:H[fi]? =some (.list (aa (ah ((List.range 8).map c))))) (hP:H[aS]? =some (.list (aa (ah (lA c))))) (hO:H[JM]? =some (.list (aa (ah (tA c)))))
  (n2:hp.length<=bT) (c2:hp.length<=fi) (p2:hp.length<=aS)
  (Cu:l.get 93=some (.ref fi)) (l58:l.get 58=some (.ref aS)) (ck:∀ aE,aq hp aE->K (.bool true) aE):
  aF cx MJ (cW K) {loc:=l,ce:=mI hp.length,hp:=H}:=by
 have lH:=m.gr.le
 have z2:∀ {x:Nat},hp.length<=x->2<=x:=λh=>Zu h2 h
 refine Zt rfl ?_
 refine ax (G.g _ _ rfl) ?_
 refine Zt (by decide) ?_
 refine eR (af _ _) ?_
 refine JL (a:=hp.length+1) (b:=hp.length+2) (d:=hp.length+3) (bT:=bT) (JM:=JM) (c:=c) G (ac m.c47 _) (ac m.c95 _) (ac m.c96 _) (ac hn _) (ac hO _) λlc=>?_
 refine(?_:aF cx MI (cW K) {loc:=l.set 69 (.ref (H++[PO.rng 0 1 (Int.toNat 5)]).length),ce:=mI hp.length,hp:=H++[PO.rng 0 1 (Int.toNat 5)]++[PO.list (aa (ah (fN c)))]})
 have g5:aq H (H++[PO.rng 0 1 (Int.toNat 5)]++[PO.list (aa (ah (fN c)))]):=(aq.push _ _).trans (.push _ _)
 have Wq:=af (H++[PO.rng 0 1 (Int.toNat 5)]) (.list (aa (ah (fN c))))
 have Wr:hp.length<=(H++[PO.rng 0 1 (Int.toNat 5)]).length:=(m.gr.trans (.push _ _)).le
 generalize (H++[PO.rng 0 1 (Int.toNat 5)]).length=cX at*
 generalize H++[PO.rng 0 1 (Int.toNat 5)]++[PO.list (aa (ah (fN c)))]=H5 at*
 have m5:=m.grow h2 g5
 have Ws:=z2 m5.gr.le
 refine Zt (by decide:(1:Nat)<=1000000) ?_
 refine Zt rfl ?_
 refine pD (ac Wq _) (Zt (λq=>nomatch q) (Zt (by rw[ar,aG];exact Zz rfl) ?_))
 rw[show cG (aa (ah (fN c))) (some 1) none none=aa (ah ((fN c).drop 1)) from UL _]
 refine il (af _ _) ?_
 refine Et (ce:=[]) (xs:=(fN c).drop 1) G (af _ _) (Zz rfl) (λx hx=>O.kinds.le x (List.mem_of_mem_drop hx)) (Zu Ws (aq.push _ _).le) λlc H6 g6=>?_
 have Wt:aq H5 H6:=((aq.push _ _).trans (.push _ _)).trans g6
 refine lS (ac (g6.keep _ _ Ws (ac (af H5 (.list [PV.int 0])) (.list (aa (ah ((fN c).drop 1)))))) _) (af _ _) ?_
 refine Zt (Zz rfl) ?_
 have g7:aq H5 (H6++[PO.list (aa (ah (((fN c).drop 1).map Gw)))]++[PO.list (aa (ah (oa c)))]):=(Wt.trans (.push _ _)).trans (.push _ _)
 have lL:hp.length<=(H6++[PO.list (aa (ah (((fN c).drop 1).map Gw)))]).length:=(m5.gr.trans (Wt.trans (.push _ _))).le
 exact JO G lC lD h2 hq hc O (m5.grow h2 g7) ((g5.trans g7).keep _ _ (z2 n2) hn) ((g5.trans g7).keep _ _ (z2 c2) hC) ((g5.trans g7).keep _ _ (z2 p2) hP) (g7.keep _ _ (z2 Wr) Wq) (af _ _) n2 c2 p2 Wr lL Cu l58 rfl rfl ck
theorem JP (G:GG cx A) (lC:cx.D (A 118)=some mH) (lD:cx.D (A 120)=some toS) (h2:2<=hp.length) (hq:fV hp) (hc:∀ k,c k<1000000000) (O:mu c) {K:PV->List PO->Prop} {H:List PO} {l:Loc} {bT fi:Nat} {v2 v3:Option PV}
  (m:rr hp gT (some (.ref bT)) v2 v3 H) (hn:H[bT]? =some (.list (aa (ah (cU c))))) (hC:H[fi]? =some (.list (aa (ah ((List.range 8).map c)))))
  (n2:hp.length+4<=bT) (c2:hp.length+4<=fi)
  (Cu:l.get 93=some (.ref fi)) (ck:∀ aE,aq hp aE->K (.bool true) aE):
  aF cx MM (cW K) {loc:=l,ce:=mI hp.length,hp:=H}:=by
 have z2:∀ {x:Nat},hp.length+4<=x->2<=x:=λh=>Zu h2 (Zy h)
 have lH:hp.length+4<=H.length:=(Zv.mp m.c96).1
 refine bG m.c47 ?_
 refine ay (k:=5) hn rfl (by decide) ?_
 refine Zt (by decide) ?_
 refine gX m.c95 ?_
 have eo:(1:Int)+Int.fmod ((c 5%262144:Nat):Int) 4=((ij c:Nat):Int):=by
  rw[show(4:Int)=((4:Nat):Int) from rfl,cA];rfl
 refine(?_:aF cx ML (cW K) {loc:=l,ce:=mI hp.length,hp:=H.set (hp.length+2) (.cell (some (.int ((1:Int)+Int.fmod ((c 5%262144:Nat):Int) 4))))})
 rw[eo]
 have m1:=m.set95 h2 (some (.int (ij c:Nat)))
 have OB:=az (o':=.cell (some (.int (ij c:Nat)))) hn (show hp.length+2≠bT by exact la [_,_] [] [.l (.a .v0 (.n 4)) .v1] (.n (.e (.a .v0 .n2) .v1)) (.f [1,1]) rfl n2)
 have YR:=az (o':=.cell (some (.int (ij c:Nat)))) hC (show hp.length+2≠fi by exact la [_,_] [] [.l (.a .v0 (.n 4)) .v1] (.n (.e (.a .v0 .n2) .v1)) (.f [1,1]) rfl c2)
 have Wu:hp.length+4<=(H.set (hp.length+2) (.cell (some (.int (ij c:Nat))))).length:=(Zv.mp m1.c96).1
 generalize H.set (hp.length+2) (.cell (some (.int (ij c:Nat))))=H1 at*
 refine Zt (by decide:(1:Nat)<=1000000) ?_
 refine Zt rfl ?_
 refine ax (G.g _ _ rfl) ?_
 refine Zt (by decide) (Zt (by decide) ?_)
 refine eR (af _ _) ?_
 refine Es (a:=hp.length+1) (bT:=bT) (c:=c) G (ac (ac m1.c47 _) _) (ac (ac OB _) _) λlc=>?_
 refine lS (ac (ac (af _ _) _) _) (af _ _) ?_
 refine Zt (Zz rfl) ?_
 have g2:aq H1 (H1++[PO.list [PV.int 0]]++[PO.rng 1 1 ((5:Int)-1).toNat]++[PO.list (aa (ah ((List.range 4).map λk=>pg c (k+1))))]++[PO.list (aa (ah (lA c)))]):=(((aq.push _ _).trans (.push _ _)).trans (.push _ _)).trans (.push _ _)
 have YS:=af (H1++[PO.list [PV.int 0]]++[PO.rng 1 1 ((5:Int)-1).toNat]++[PO.list (aa (ah ((List.range 4).map λk=>pg c (k+1))))]) (.list (aa (ah (lA c))))
 have UM:hp.length+4<=(H1++[PO.list [PV.int 0]]++[PO.rng 1 1 ((5:Int)-1).toNat]++[PO.list (aa (ah ((List.range 4).map λk=>pg c (k+1))))]).length:=Zu Wu (((aq.push _ _).trans (.push _ _)).trans (.push _ _)).le
 refine(?_:aF cx MK (cW K) {loc:=l.set 58 (.ref (H1++[PO.list [PV.int 0]]++[PO.rng 1 1 ((5:Int)-1).toNat]++[PO.list (aa (ah ((List.range 4).map λk=>pg c (k+1))))]).length),ce:=mI hp.length,hp:=H1++[PO.list [PV.int 0]]++[PO.rng 1 1 ((5:Int)-1).toNat]++[PO.list (aa (ah ((List.range 4).map λk=>pg c (k+1))))]++[PO.list (aa (ah (lA c)))]})
 generalize (H1++[PO.list [PV.int 0]]++[PO.rng 1 1 ((5:Int)-1).toNat]++[PO.list (aa (ah ((List.range 4).map λk=>pg c (k+1))))]).length=aS at*
 generalize H1++[PO.list [PV.int 0]]++[PO.rng 1 1 ((5:Int)-1).toNat]++[PO.list (aa (ah ((List.range 4).map λk=>pg c (k+1))))]++[PO.list (aa (ah (lA c)))]=H2 at*
 have m2:=m1.grow h2 g2
 have Kq:=g2.keep _ _ (z2 n2) OB
 have YT:hp.length+4<=H2.length:=Zu Wu g2.le
 refine Zt (by decide:(1:Nat)<=1000000) ?_
 refine Zt rfl ?_
 refine ax (G.g _ _ rfl) ?_
 refine Zt (by decide) (Zt (by decide) ?_)
 refine eR (af _ _) ?_
 refine JK (a:=hp.length+1) (b:=hp.length+2) (bT:=bT) (c:=c) G (ac (ac m2.c47 _) _) (ac (ac m2.c95 _) _) (ac (ac Kq _) _) λlc=>?_
 refine lS (ac (ac (af _ _) _) _) (af _ _) ?_
 refine Zt (Zz rfl) ?_
 have g3:aq H2 (H2++[PO.list [PV.int 0]]++[PO.rng 1 1 ((5:Int)-1).toNat]++[PO.list (aa (ah ((List.range 4).map λk=>ph c (k+1))))]++[PO.list (aa (ah (tA c)))]):=(((aq.push _ _).trans (.push _ _)).trans (.push _ _)).trans (.push _ _)
 have lO:hp.length+4<=(H2++[PO.list [PV.int 0]]++[PO.rng 1 1 ((5:Int)-1).toNat]++[PO.list (aa (ah ((List.range 4).map λk=>ph c (k+1))))]).length:=Zu YT (((aq.push _ _).trans (.push _ _)).trans (.push _ _)).le
 have m3:=m2.grow h2 g3
 refine gX m3.c96 ?_
 have kp:∀ {i:Nat} {o:PO},hp.length+4<=i->H1[i]? =some o->((H2++[PO.list [PV.int 0]]++[PO.rng 1 1 ((5:Int)-1).toNat]++[PO.list (aa (ah ((List.range 4).map λk=>ph c (k+1))))]++[PO.list (aa (ah (tA c)))]).set (hp.length+3) (.cell (some (.ref (H2++[PO.list [PV.int 0]]++[PO.rng 1 1 ((5:Int)-1).toNat]++[PO.list (aa (ah ((List.range 4).map λk=>ph c (k+1))))]).length))))[i]? =some o:=λh e=>az ((g2.trans g3).keep _ _ (z2 h) e) (Z7 h)
 exact OJ G lC lD h2 hq hc O (m3.set96 h2 (some (.ref _))) (kp n2 OB) (kp c2 YR) (az (g3.keep _ _ (z2 UM) YS) (Z7 UM)) (az (af _ _) (Z7 lO)) (Zy n2) (Zy c2) (Zy UM) Cu rfl ck
end
theorem yB (l:List Nat):(ah l).dropLast=ah l.dropLast:=by unfold ah;rw[List.map_dropLast]
theorem kA (c:Nat->Nat):∀ v∈cU c,v<64^3:=λv hv=>by
 have h9:∀ n,n%9<64^3:=λn=>aaJ (Z5 _ (by decide)) (by decide)
 have h6:∀ n,n%262144<64^3:=λn=>Z5 _ (by decide)
 cases hv with
 |head=>exact h9 _
 |tail _ hv=>cases hv with
  |head=>exact h6 _
  |tail _ hv=>cases hv with
   |head=>exact h6 _
   |tail _ hv=>cases hv with
    |head=>exact h6 _
    |tail _ hv=>cases hv with
     |head=>exact h6 _
     |tail _ hv=>cases hv with
      |head=>exact h6 _
      |tail _ hv=>cases hv
theorem yC (vs:List Nat):(fj vs).length<=3*vs.length:=by unfold fj;rw[kt];exact lr vs
theorem BH (l:List Int):vr (d8 (l.map tx)):=D8 _ λs hs=>by
 obtain⟨n,_,rfl⟩:=aal.mp hs
 exact dO _
theorem yD {v:Nat} (h:v<64^3):(((v:Nat):Int).natAbs).log2<1920:=by
 rw[Int.natAbs_natCast]
 by_cases z:v=0
 .rw[z];decide
 .exact aaJ ((Nat.log2_lt z).mpr (show v<2^18 from h)) (by decide)
theorem Gz {o p:Option PO} {xs:List Str} {A:Bool->Prop} {B:List PV->List PV->Prop}:o=some (.list (d8 xs))->p=some (.list (d8 xs))->xs≠[]->vr (d8 xs)->A false->
  (match CmpOp.NotEq,o,p with|.NotEq,some (.list v),some (.list w)=>(match oI v w with|some c=>vr v/\vr w/\A c|none=>False)|.Eq,some (.list v),some (.list w)=>B v w|_,_,_=>False):=λh h' hx ok k=>by
 refine y7 h h' ?_
 rw[show oI (d8 xs) (d8 xs)=some false by rw[th _ _ hx,decide_eq_true rfl];rfl]
 exact Zt ok (Zt ok k)
section
variable {cx:Cx} {A:Nat->Addr} {hp:List PO} {gT:Nat}
theorem Eu (G:GG cx A) (tC:cx.D (A 114)=some Gl) (lC:cx.D (A 118)=some mH) (lD:cx.D (A 120)=some toS) (h2:2<=hp.length) (hq:fV hp) {c:Nat->Nat} (hc:∀ k,c k<1000000000) (O:mu c) {K:PV->List PO->Prop} {H:List PO} {l:Loc} {bT fi bA Oz:Nat} {v2 v3:Option PV}
  (m:rr hp gT (some (.ref bT)) v2 v3 H) (hn:H[bT]? =some (.list (aa (ah (cU c))))) (hC:H[fi]? =some (.list (aa (ah ((List.range 8).map c))))) (hT:H[bA]? =some (.list (aa (ah (fj (cU c)))))) (hX:H[Oz]? =some (.list (d8 ((ah (cU c)).map tx))))
  (n2:hp.length+4<=bT) (c2:hp.length+4<=fi) (t2:hp.length+4<=bA) (x2:hp.length+4<=Oz)
  (Cu:l.get 93=some (.ref fi)) (I9:l.get 48=some (.ref bA)) (Zo:l.get 94=some (.ref Oz)) (ck:∀ aE,aq hp aE->K (.bool true) aE):
  aF cx FD (cW K) {loc:=l,ce:=mI hp.length,hp:=H}:=by
 have ht:(fj (cU c)).length<=1000:=Zu (yC (cU c)) (Zz rfl)
 have yy:∀ v∈ah (cU c),v.natAbs.log2<1920:=λv hv=>by
  obtain⟨n,hn,rfl⟩:=aal.mp hv
  exact yD (kA c n hn)
 have z2:∀ {x:Nat},hp.length+4<=x->2<=x:=λh=>Zu h2 (Zy h)
 have lH:2<=H.length:=z2 (Zv.mp m.c96).1
 have YU:6<=(fj (cU c)).length:=O.ln
 repeat walk_at "o"
 refine bP tC ⟨bA,ah (fj (cU c)),ah (cU c),rfl,hT,by rw[aG];exact ht,by rw[aG,aG];exact O.ln,yy,O.rd,z2 t2,lH,λH1 i g1 hi h1=>?_⟩
 repeat walk_at "o"
 refine Gz h1 (g1.keep _ _ (z2 x2) hX) (List.cons_ne_nil _ _) (BH _) ?_
 refine gZ rfl ?_
 repeat walk_at "o"
 refine pD (g1.keep _ _ (z2 t2) hT) (Zt (λq=>nomatch q) (Zt (by rw[ar,aG];exact f6 ht rfl) ?_))
 rw[xd,tB]
 have g2:aq H (H1++[PO.list (aa (ah (fj (cU c))).dropLast)]):=g1.trans (.push _ _)
 have lT:(ah (fj (cU c))).dropLast.length=(fj (cU c)).length-1:=by rw[List.length_dropLast,aG]
 refine bP tC ⟨H1.length,_,(ah (cU c)).dropLast,rfl,af _ _,by rw[lT];exact Zu (aa6 ..) ht,by rw[lT];exact Nat.sub_le_sub_right YU 1,λv hv=>yy v ((List.dropLast_sublist _).subset hv),O.rd',Zu lH g1.le,Zu lH g2.le,λH3 j g3 hj h3=>?_⟩
 repeat walk_at "o"
 have g4:aq H H3:=g2.trans g3
 refine pD (g4.keep _ _ (z2 x2) hX) (Zt (λq=>nomatch q) (Zt (Zz rfl) ?_))
 rw[xd,BG]
 have g5:aq H (H3++[PO.list (d8 ((ah (cU c)).dropLast.map tx))]):=g4.trans (.push _ _)
 rw[<-List.map_dropLast]
 refine Gz (ac h3 _) (af _ _) (List.cons_ne_nil _ _) (BH _) ?_
 refine gZ rfl ?_
 refine gZ rfl ?_
 exact JP G lC lD h2 hq hc O (m.grow h2 g5) (g5.keep _ _ (z2 n2) hn) (g5.keep _ _ (z2 c2) hC) n2 c2 Cu ck
theorem JQ (G:GG cx A) (BI:cx.D (A 113)=some Ja) (tC:cx.D (A 114)=some Gl) (lC:cx.D (A 118)=some mH) (lD:cx.D (A 120)=some toS) (h2:2<=hp.length) (hq:fV hp) {c:Nat->Nat} (hc:∀ k,c k<1000000000) (O:mu c) {K:PV->List PO->Prop} {H:List PO} {l:Loc} {bT fi:Nat} {v2 v3:Option PV}
  (m:rr hp gT (some (.ref bT)) v2 v3 H) (hn:H[bT]? =some (.list (aa (ah (cU c))))) (hC:H[fi]? =some (.list (aa (ah ((List.range 8).map c)))))
  (n2:hp.length+4<=bT) (c2:hp.length+4<=fi) (Cu:l.get 93=some (.ref fi)) (ck:∀ aE,aq hp aE->K (.bool true) aE):
  aF cx FG (cW K) {loc:=l,ce:=mI hp.length,hp:=H}:=by
 have z2:∀ {x:Nat},hp.length+4<=x->2<=x:=λh=>Zu h2 (Zy h)
 have lH:hp.length+4<=H.length:=(Zv.mp m.c96).1
 refine Zt rfl ?_
 refine bG m.c47 ?_
 refine il hn ?_
 refine JJ (ce:=[]) (fx:=bT) (xs:=cU c) G hn (Zz rfl) (λx hx=>ZD (kA c x hx) (by decide)) λlc=>?_
 have g5:aq H (H++[PO.list (d8 ((ah (cU c)).map tx))]):=.push _ _
 have m5:=m.grow h2 g5
 refine(?_:aF cx FE (cW K) {loc:=l.set 94 (.ref H.length),ce:=mI hp.length,hp:=H++[PO.list (d8 ((ah (cU c)).map tx))]})
 repeat walk_at "o"
 refine bG m5.c47 ?_
 refine bP BI ⟨bT,cU c,rfl,g5.keep _ _ (z2 n2) hn,Zz rfl,kA c,z2 n2,Zu (z2 lH) g5.le,λH6 i g6 hi h6=>?_⟩
 exact Eu G tC lC lD h2 hq hc O (m5.grow h2 g6) (g6.keep _ _ (z2 n2) (g5.keep _ _ (z2 n2) hn)) (g6.keep _ _ (z2 c2) (g5.keep _ _ (z2 c2) hC)) h6 (g6.keep _ _ (z2 lH) (af _ _)) n2 c2 (Zu lH (Zu g5.le hi)) lH Cu rfl rfl ck
theorem JR (G:GG cx A) (BI:cx.D (A 113)=some Ja) (tC:cx.D (A 114)=some Gl) (lC:cx.D (A 118)=some mH) (lD:cx.D (A 120)=some toS) (h2:2<=hp.length) (hq:fV hp) {c:Nat->Nat} (hc:∀ k,c k<1000000000) (O:mu c) {K:PV->List PO->Prop} {H:List PO} {l:Loc} {fi:Nat} {v1 v2 v3:Option PV}
  (m:rr hp gT v1 v2 v3 H) (hC:H[fi]? =some (.list (aa (ah ((List.range 8).map c)))))
  (c2:hp.length+4<=fi) (Cu:l.get 93=some (.ref fi)) (ck:∀ aE,aq hp aE->K (.bool true) aE):
  aF cx z4 (cW K) {loc:=l,ce:=mI hp.length,hp:=H}:=by
 have z2:∀ {x:Nat},hp.length+4<=x->2<=x:=λh=>Zu h2 (Zy h)
 have lH:hp.length+4<=H.length:=(Zv.mp m.c96).1
 repeat walk_at "o"
 refine ay (k:=0) hC (show _=some (.int (c 0:Nat)) from rfl) (by decide) ?_
 refine Zt (by decide) ?_
 rw[show(9:Int)=((9:Nat):Int) from rfl,cA]
 refine Zt (by decide:(1:Nat)<=1000000) ?_
 refine Zt rfl ?_
 repeat walk_at "o"
 refine pD (ac hC _) (Zt (λq=>nomatch q) (Zt (Zz rfl) ?_))
 rw[OI]
 refine il (af _ _) ?_
 refine JI (ce:=[]) (fx:=(H++[PO.list [PV.int ((c 0%9:Nat):Int)]]).length) (xs:=[c 1,c 2,c 3,c 4,c 5]) G (af _ _) (Zz rfl) λlc=>?_
 refine lS (ac (ac (af _ _) _) _) (af _ _) ?_
 refine Zt (Zz rfl) ?_
 have g3:aq H (H++[PO.list [PV.int ((c 0%9:Nat):Int)]]++[PO.list (aa (ah [c 1,c 2,c 3,c 4,c 5]))]++[PO.list (aa (ah ([c 1,c 2,c 3,c 4,c 5].map (. %262144))))]++[PO.list (aa (ah (cU c)))]):=(((aq.push _ _).trans (.push _ _)).trans (.push _ _)).trans (.push _ _)
 have lN:hp.length+4<=(H++[PO.list [PV.int ((c 0%9:Nat):Int)]]++[PO.list (aa (ah [c 1,c 2,c 3,c 4,c 5]))]++[PO.list (aa (ah ([c 1,c 2,c 3,c 4,c 5].map (. %262144))))]).length:=Zu lH (((aq.push _ _).trans (.push _ _)).trans (.push _ _)).le
 have m3:=m.grow h2 g3
 refine gX m3.c47 ?_
 exact JQ G BI tC lC lD h2 hq hc O (m3.set47 h2 (some (.ref _))) (az (af _ _) (Z7 (ZD (ZZ (ZZ (Z0 _))) lN))) (az (g3.keep _ _ (z2 c2) hC) (Z7 (ZD (ZZ (ZZ (Z0 _))) c2))) lN c2 Cu ck
theorem JS (G:GG cx A) (Qx:cx.EN 131) (BI:cx.D (A 113)=some Ja) (tC:cx.D (A 114)=some Gl) (lC:cx.D (A 118)=some mH) (lD:cx.D (A 120)=some toS) {ps:List PV} {K:PV->List PO->Prop} (h:Wp ps hp K):
  bc cx (am "law") [92] [92,47,95,96] [] (aQ "law") ps hp K:=by
 obtain⟨gT,ns,ob,rfl,hs,hl,s2,h2,hq,O,ck⟩:=h
 refine⟨rfl,?_⟩
 rw[<-dW,Dc]
 refine(?_:aF cx FH (cW K) {loc:=[],ce:=mI hp.length,hp:=hp++[.cell (some (.ref gT)),.cell none,.cell none,.cell none]})
 have kp:∀ (i:Nat) o,hp[i]? =some o->(hp++[PO.cell (some (.ref gT)),.cell none,.cell none,.cell none])[i]? =some o:=λi o e=>by
  rw[ZQ (Zv.mp e).1];exact e
 have P7:∀ k,(hp++[PO.cell (some (.ref gT)),.cell none,.cell none,.cell none])[hp.length+k]? =[PO.cell (some (.ref gT)),.cell none,.cell none,.cell none][k]? :=λk=>by
  rw[aah (aaq ..),Nat.add_sub_cancel_left]
 have l0:(hp++[PO.cell (some (.ref gT)),.cell none,.cell none,.cell none]).length=hp.length+4:=Zw
 have m0:rr hp gT none none none (hp++[.cell (some (.ref gT)),.cell none,.cell none,.cell none]):=
  ⟨P7 0,P7 1,P7 2,P7 3,.of_keep (by rw[l0];exact aaq ..) kp⟩
 have YV:=kp _ _ hs
 generalize hp++[PO.cell (some (.ref gT)),.cell none,.cell none,.cell none]=H0 at*
 have YW:2<=H0.length:=by rw[l0];exact ZY h2
 refine Zt Qx (Zt rfl ?_)
 refine Zt (by decide:(8:Nat)<=1000000) ?_
 refine cq (af _ _) ?_
 refine JH (a:=hp.length) (gT:=gT) (OH:=H0.length) (ns:=ns) (ob:=ob) G (ac m0.c92 _) (ac YV _) hl (af _ _) h2 s2 YW λlc H1 g1=>?_
 have g0:=(aq.push _ _).trans g1
 have g2:aq H0 (H1++[PO.list (aa (ah ((List.range 8).map (JF ns))))]):=g0.trans (.push _ _)
 refine(?_:aF cx z4 (cW K) {loc:=Loc.set [] 93 (.ref H1.length),ce:=mI hp.length,hp:=H1++[PO.list (aa (ah ((List.range 8).map (JF ns))))]})
 exact JR G BI tC lC lD h2 hq (JG ns) O (m0.grow h2 g2) (af _ _) (by rw[<-l0];exact g0.le) rfl ck
end
noncomputable def gb (sc:Scope) (ps:List Nat):Bool:=sc.names.all (λy=>y.2 != .cell)&&ps.all λx=>sc.names.lookup (nm x)==some .local
noncomputable def ge (sc:Scope) (ps cl:List Nat):Bool:=cl.all (λx=>sc.names.lookup (nm x)==some .cell)&&decide cl.Nodup&&ps.all λx=>sc.names.lookup (nm x)==some .local||cl.contains x
noncomputable def lE (cx:Cx) (A:Nat->Addr) (n:Nat) (tab:List (Nat×Spec)):Prop:=∀ y∈tab,102<=y.1/\y.1<=120/\an cx n (.ref (A y.1)) y.2
section
variable {cx:Cx} {A:Nat->Addr}
theorem lE.nil {n:Nat}:lE cx A n []:=λø h=>by cases h
theorem lE.cons {n m k:Nat} {S:Spec} {tab:List (Nat×Spec)} (h1:102<=k) (h2:k<=120) (hm:m<=n) (c:an cx m (.ref (A k)) S) (t:lE cx A n tab):lE cx A n ((k,S)::tab):=λy hy=>by
 rcases ZF.mp hy with rfl|hy
 .exact⟨h1,h2,c.le hm⟩
 .exact t y hy
theorem lF (B:cF cx A) {n:Nat} {tab:List (Nat×Spec)} (t:lE cx A n tab) (fr:List Env):bF ((aA cx (cO A tab)).at fr) n:=
 PD B rfl t (λø ø=>rfl) (λø=>rfl) (λø ø ø h=>h) fr
theorem yU (B:cF cx A) {n k:Nat} {tab:List (Nat×Spec)} (t:lE cx A n tab) {sc:Scope} {ps:List Nat} {b:ao} (F:fh cx (A k) sc ps b) (ok:gb sc ps=true) {S:Spec}
  (hS:∀ as hp K,S as hp K->bc (aA cx (cO A tab)) sc ps [] [] b as hp K):an cx (n+1) (.ref (A k)) S:=by
 simp only[gb,ZK,ZU,bne_iff_ne,ne_eq,beq_iff_eq] at ok
 exact(cz (cx:=cx) (u:=cO A tab)).mp (fh.plain (cx:=aA cx (cO A tab)) ⟨F.h⟩ (lF B t) B.lim ok.1 ok.2 hS)
theorem Wv (B:cF cx A) {n k:Nat} {tab:List (Nat×Spec)} (t:lE cx A n tab) {sc:Scope} {ps cl:List Nat} {b:ao} (F:fh cx (A k) sc ps b) (ok:ge sc ps cl=true) {S:Spec}
  (hS:∀ as hp K,S as hp K->bc (aA cx (cO A tab)) sc ps cl [] b as hp K):an cx (n+1) (.ref (A k)) S:=by
 simp only[ge,ZK,ZU,abe,beq_iff_eq,decide_eq_true_eq,List.contains_iff_mem] at ok
 exact(cz (cx:=cx) (u:=cO A tab)).mp (fh.cells (cx:=aA cx (cO A tab)) ⟨F.h⟩ (lF B t) B.lim ok.1.1 ok.1.2 ok.2 hS)
theorem kB (B:cF cx A) {tab:List (Nat×Spec)} (hb:∀ y∈tab,101<=y.1/\y.1<=120) {k:Nat} (h1:101<=k) (h2:k<=120) {S:Nat×Spec} (hf:(tab.find? λy=>y.1==k)=some S):(aA cx (cO A tab)).D (A k)=some S.2:=
 wx B.inj h1 h2 hb hf
structure mU (cx:Cx) (A:Nat->Addr):Prop where
 f102:∃ c,dD cx (A 102) (am "_substitution_cost") [0,1] (aQ "_substitution_cost") c (Str.ofString "_substitution_cost")
 f103:∃ c,dD cx (A 103) (am "_levenshtein_distance") [2,3,4] (aQ "_levenshtein_distance") c (Str.ofString "_levenshtein_distance")
 f104:∃ c,dD cx (A 104) (am "_div2n1n") [2,3,16] (aQ "_div2n1n") c (Str.ofString "_div2n1n")
 f108:∃ c,dD cx (A 108) (am "_divmod_pos") [2,3] (aQ "_divmod_pos") c (Str.ofString "_divmod_pos")
 f109:∃ c,dD cx (A 109) (am "int_divmod") [2,3] (aQ "int_divmod") c (Str.ofString "int_divmod")
 f110:∃ c,dD cx (A 110) (am "pretty_flags") [41] (aQ "pretty_flags") c (Str.ofString "pretty_flags")
 f111:∃ c,dD cx (A 111) (am "_parse_varint") [45] (aQ "_parse_varint") c (Str.ofString "_parse_varint")
 f112:∃ c,dD cx (A 112) (am "_law_names") [] (aQ "_law_names") c (Str.ofString "_law_names")
 f113:∃ c,dD cx (A 113) (am "_law_tape") [47] (aQ "_law_tape") c (Str.ofString "_law_tape")
 f114:∃ c,dD cx (A 114) (am "_law_read") [48] (aQ "_law_read") c (Str.ofString "_law_read")
 f115:∃ c,dD cx (A 115) (am "_law_way") [56,57,58] (aQ "_law_way") c (Str.ofString "_law_way")
 f116:∃ c,dD cx (A 116) (am "_law_piece") [50,60,61] (aQ "_law_piece") c (Str.ofString "_law_piece")
 f117:∃ c,dD cx (A 117) (am "_law_split") [65,66] (aQ "_law_split") c (Str.ofString "_law_split")
 f118:∃ c,dD cx (A 118) (am "_law_table") [58,69,70,34,71,27] (aQ "_law_table") c (Str.ofString "_law_table")
 f119:∃ c,dD cx (A 119) (am "_law_due") [43,77,50,58,70,27] (aQ "_law_due") c (Str.ofString "_law_due")
 f120:∃ c,dD cx (A 120) (am "_law_taken_out") [76,58,70,27,89] (aQ "_law_taken_out") c (Str.ofString "_law_taken_out")
theorem cB {a:Addr} {sc:Scope} {ps:List Nat} {b:ao} {q:Str} (h:∃ c,dD cx a sc ps b c q):fh cx a sc ps b:=h.elim λø d=>d.at
theorem OK (B:cF cx A) (G:GG cx A) (F:mU cx A):an cx 1 (.ref (A 102)) oX:=
 yU B .nil (cB F.f102) (by decide+kernel) λø ø ø h=>Ie (eY G _) h
theorem OL (B:cF cx A) (G:GG cx A) (F:mU cx A):an cx 2 (.ref (A 103)) nT:=
 yU B (tab:=[(102,oX)]) (.cons (by decide) (by decide) (ZA _) (OK B G F) .nil) (cB F.f103) (by decide+kernel) λø ø ø h=>Iz (eY G _) (kB B (by simp) (by decide) (by decide) (S:=(102,oX)) rfl) h
theorem GA (B:cF cx A) (G:GG cx A) (F:mU cx A):an cx 1 (.ref (A 115)) lf:=
 yU B .nil (cB F.f115) (by decide+kernel) λø ø ø h=>IA (eY G _) h
theorem OM (B:cF cx A) (G:GG cx A) (F:mU cx A) (hT:cx.T (A 101)=some An):an cx 1 (.ref (A 110)) FS:=
 yU B .nil (cB F.f110) (by decide+kernel) λø ø ø h=>Nc (eY G _) hT h
theorem ON (B:cF cx A) (G:GG cx A) (F:mU cx A):an cx 1 (.ref (A 112)) Nf:=
 yU B .nil (cB F.f112) (by decide+kernel) λø ø ø h=>Ng (eY G _) h
theorem OO (B:cF cx A) (G:GG cx A) (F:mU cx A):an cx 1 (.ref (A 104)) Ky:=
 yU B .nil (cB F.f104) (by decide+kernel) λø ø ø h=>Nh (eY G _) h
theorem OP (B:cF cx A) (G:GG cx A) (F:mU cx A):an cx 1 (.ref (A 116)) ID:=
 yU B .nil (cB F.f116) (by decide+kernel) λø ø ø h=>Ni (eY G _) h
theorem GB (B:cF cx A) (G:GG cx A) (F:mU cx A):an cx 1 (.ref (A 111)) uG:=
 yU B .nil (cB F.f111) (by decide+kernel) λø ø ø h=>Nk (eY G _) h
theorem OQ (B:cF cx A) (G:GG cx A) (F:mU cx A):an cx 1 (.ref (A 113)) Ja:=
 Wv B .nil (cB F.f113) (cl:=[49]) (by decide+kernel) λø ø ø h=>Og (eY G _) h
theorem OR (B:cF cx A) (G:GG cx A) (F:mU cx A):an cx 2 (.ref (A 119)) Du:=
 Wv B (tab:=[(115,lf)]) (.cons (by decide) (by decide) (ZA _) (GA B G F) .nil) (cB F.f119) (cl:=[70]) (by decide+kernel) λø ø ø h=>No (eY G _) (kB B (by simp) (by decide) (by decide) (S:=(115,lf)) rfl) h
theorem Ww (B:cF cx A) {n k:Nat} {rx:fX} {cls:String} {aY:Stmt->List (Nat×NameKind)->(St->Prop)->St->Prop} {sc:Scope} {ps:List Nat} {b:ao} (F:fh cx (A k) sc ps b) (ok:gb sc ps=true)
  (XX:∀ fr L,XS ((aA cx (cO A [])).at fr) n rx (FX ((aA cx (cO A [])).at fr) cls L)) (HO:∀ fr,i3 ((aA cx (cO A [])).at fr) n cls aY) {S:iY}
  (hS:∀ as hp K,S as hp K->DI (aA cx (cO A [])) rx aY sc ps b as hp K):bS (aA cx (cO A [])) (n+1) cls (.ref (A k)) S:=by
 simp only[gb,ZK,ZU,bne_iff_ne,ne_eq,beq_iff_eq] at ok
 exact fh.raises (cx:=aA cx (cO A [])) ⟨F.h⟩ (lF B .nil) XX HO B.lim ok.1 ok.2 hS
theorem OS (G:GG cx A) (fr:List Env):GG (cx.at fr) A:=⟨G.g,G.en,G.rv⟩
theorem kC {u:Up} {n:Nat} {cls:String} {fv:Value} {S:iY} (c:bS (aA cx u) n cls fv S):bS cx n cls fv S:=λfr {env ab σ s Ar ps vs X Q E} g R d hw k=>
 c fr (Q:=Q) (E:=E) ⟨g.hd,g.fr,g.depth,g.units⟩ ((io (cx:=cx.at fr) (u:=u)).mpr R) d hw λbr aj e h' tk a R' S' F'=>k br aj e h' tk a ((io (cx:=cx.at fr) (u:=u)).mp R') S' λL=>⟨(F' L).p⟩
theorem bS.le {n m:Nat} {cls:String} (h:n<=m) {fv:Value} {S:iY} (c:bS cx n cls fv S):bS cx m cls fv S:=λfr {_ _ _ _ _ _ _ _ _ _} g R d hw k=>c fr (g.le h) R d hw k
theorem Ev {cx:Cx} {n:Nat} {cls:String} {L:Addr}:XS cx n N5 (FX cx cls L) where
 mono:=uK
 call:=λø hr=>hr.elim
theorem OT (B:cF cx A) (G:GG cx A) (F:mU cx A):bS cx 1 "StopIteration" (.ref (A 111)) KN:=
 kC (Ww B (cB F.f111) (by decide+kernel) (λø ø=>IM) (λø=>lg) λø ø ø h=>N9 (eY G _) h)
theorem OU (B:cF cx A) (G:GG cx A) (F:mU cx A):bS cx 1 "ZeroDivisionError" (.ref (A 109)) N6:=
 kC (Ww B (cB F.f109) (by decide+kernel) (λø ø=>Ev) (λfr=>AB (lF B .nil fr) G.g137) λø ø ø h=>N7 (eY G _) h)
structure fO (cx:Cx) (A:Nat->Addr):Prop where
 cs:cx.cs=IX
 m1:∃ c T,dD cx (A 106) (am "_int2digits") [2,16] (aQ "_int2digits") (.ref c) (Str.ofString "_int2digits")/\ie cx mj c T
 m2:∃ c T,dD cx (A 107) (am "_digits2int") [37,16] (aQ "_digits2int") (.ref c) (Str.ofString "_digits2int")/\ie cx mm c T
theorem DP {α:Type} {l:List α} (h:l.length=2):∃ a b,l=[a,b]:=by
 rcases l with _|⟨a,_|⟨b,_|⟨c,l⟩⟩⟩<;>first|exact⟨_,_,rfl⟩|cases h
theorem UN {α:Type} {l:List α} (h:l.length=3):∃ a b c,l=[a,b,c]:=by
 rcases l with _|⟨a,l⟩
 .cases h
 .obtain⟨b,c,rfl⟩:=DP (Nat.succ.inj h)
  exact⟨_,_,_,rfl⟩
theorem JT:∀ lj jp pm c rO c8,c8.length=[30,31,32].length->bindArgs (PySem.W.fnX (nm 29) mj.q mj.params mj.body mj.sc lj .none .none jp pm none c rO) ⟨c8,[]⟩=pure (([30,31,32].map nm).zip c8):=λø ø ø ø ø c8 h=>by
 obtain⟨a,b,c,rfl⟩:=UN h
 rfl
theorem JU:∀ lj jp pm c rO c8,c8.length=[31,32].length->bindArgs (PySem.W.fnX (nm 29) mm.q mm.params mm.body mm.sc lj .none .none jp pm none c rO) ⟨c8,[]⟩=pure (([31,32].map nm).zip c8):=λø ø ø ø ø c8 h=>by
 obtain⟨a,b,rfl⟩:=DP h
 rfl
theorem GC:uN mj [30,31,32] (oR "_int2digits"):=⟨rfl,JT,rfl,rfl,rfl,by decide+kernel,by decide+kernel,by decide+kernel⟩
theorem GD:uN mm [31,32] (oR "_digits2int"):=⟨rfl,JU,rfl,rfl,rfl,by decide+kernel,by decide+kernel,by decide+kernel⟩
theorem Wx (B:cF cx A) (G:GG cx A) (oE:cx.cs=IX) {k:Nat} {I:CI} {c T:Addr} {q:Str} {sc:Scope} {ps cl:List Nat} {b:ao} (F:dD cx (A k) sc ps b (.ref c) q) (DB:ie cx I c T) (ok:ge sc ps cl=true) (hk:sc.kind=.function) (IY:sc.names.lookup (nm 29)=some .cell) (hq:(q++".<locals>.")++nm 29=I.q) {S:Spec}
  (hS:∀ as hp K,S as hp K->bc (aA cx (jV I)) sc ps cl [] b as hp K):an cx 15 (.ref (A k)) S:=by
 simp only[ge,ZK,ZU,abe,beq_iff_eq,decide_eq_true_eq,List.contains_iff_mem] at ok
 refine(cz (cx:=cx) (u:=jV I)).mp (dD.cells (cx:=aA cx (jV I)) (n:=14) ⟨F.h⟩ (λenv fr he=>?_) B.lim ok.1.1 ok.1.2 ok.2 hS)
 exact yr B (tab:=[]) (by funext a;rfl) (λø h=>by cases h) (env::fr) (s7 B G oE GC GD (X9 B G oE GC GD 13) rfl (env::fr)) (A5 rfl) (A7 DB hk IY hq he fr 14)
theorem OV (B:cF cx A) (G:GG cx A) (M:fO cx A):an cx 15 (.ref (A 106)) KE:=by
 obtain⟨c,T,F,DB⟩:=M.m1
 exact Wx B G M.cs F DB (cl:=[28,16,29]) (by decide+kernel) rfl rfl (by decide+kernel) λø ø ø h=>NS G h
theorem OW (B:cF cx A) (G:GG cx A) (M:fO cx A):an cx 15 (.ref (A 107)) NT:=by
 obtain⟨c,T,F,DB⟩:=M.m2
 exact Wx B G M.cs F DB (cl:=[37,16,29]) (by decide+kernel) rfl rfl (by decide+kernel) λø ø ø h=>NU G h
theorem GF (B:cF cx A) (G:GG cx A) (F:mU cx A) (M:fO cx A):an cx 16 (.ref (A 108)) I5:=
 yU B (tab:=[(106,KE),(104,Ky),(107,NT)]) (.cons (by decide) (by decide) (ZA _) (OV B G M) (.cons (by decide) (by decide) (by decide) (OO B G F) (.cons (by decide) (by decide) (ZA _) (OW B G M) .nil))) (cB F.f108) (by decide+kernel)
  λø ø ø h=>NY (eY G _) (kB B (by simp) (by decide) (by decide) (S:=(106,KE)) rfl) (kB B (by simp) (by decide) (by decide) (S:=(104,Ky)) rfl) (kB B (by simp) (by decide) (by decide) (S:=(107,NT)) rfl) h
theorem JV (B:cF cx A) (G:GG cx A) (F:mU cx A) (M:fO cx A):an cx 17 (.ref (A 109)) (qn 0):=
 yU B (tab:=[(108,I5)]) (.cons (by decide) (by decide) (ZA _) (GF B G F M) .nil) (cB F.f109) (by decide+kernel)
  λø ø ø h=>Gj (eY G _) 0 (kB B (by simp) (by decide) (by decide) (S:=(108,I5)) rfl) (λc' e=>by exact(la [_] [] [.e .n0 (.a .v0 .n1)] .f (.f [1]) rfl e).elim) h
theorem BJ (B:cF cx A) (G:GG cx A) (F:mU cx A) (M:fO cx A) {c n:Nat} (hn:16<=n) (h:an cx n (.ref (A 109)) (qn c)):an cx (n+1) (.ref (A 109)) (qn (c+1)):=
 yU B (tab:=[(108,I5),(109,qn c)]) (.cons (by decide) (by decide) hn (GF B G F M) (.cons (by decide) (by decide) (ZA _) h .nil)) (cB F.f109) (by decide+kernel)
  λø ø ø h=>Gj (eY G _) (c+1) (kB B (by simp) (by decide) (by decide) (S:=(108,I5)) rfl) (λc' e=>by
   obtain rfl:c=c':=by exact la [_,_] [] [.e (.a .v0 .n1) (.a .v1 .n1)] (.e .v0 .v1) (.o 0 (.f [1,1]) (.f [1,0,1])) rfl e
   exact kB B (by simp) (by decide) (by decide) (S:=(109,qn c)) rfl) h
theorem GH (B:cF cx A) (G:GG cx A) (F:mU cx A) (M:fO cx A):an cx 19 (.ref (A 109)) (qn 2):=BJ B G F M (by decide) (BJ B G F M (by decide) (JV B G F M))
theorem OX (B:cF cx A) (G:GG cx A) (F:mU cx A):an cx 2 (.ref (A 114)) Gl:=by
 obtain⟨c,D⟩:=F.f114
 have ok:gb (am "_law_read") [48]=true:=by decide+kernel
 simp only[gb,ZK,ZU,bne_iff_ne,ne_eq,beq_iff_eq] at ok
 refine(cz (cx:=cx) (u:=qo cx A)).mp (dD.plain (cx:=aA cx (qo cx A)) (n:=1) ⟨D.h⟩ (λenv fr he=>?_) B.lim ok.1 ok.2 λø ø ø h=>Ob G B.inj h)
 exact yr B (tab:=[(111,uG)]) rfl (lE.cons (by decide) (by decide) (ZA _) (GB B G F) .nil) (env::fr) (A4 rfl) (A5 rfl) (D3 B G (GB B G F) (OT B G F) rfl (by decide+kernel) (by decide+kernel) (by decide+kernel) he fr)
theorem OY (B:cF cx A) (G:GG cx A) (F:mU cx A) (M:fO cx A):an cx 20 (.ref (A 117)) spS:=by
 obtain⟨c,D⟩:=F.f117
 have ok:gb (am "_law_split") [65,66]=true:=by decide+kernel
 simp only[gb,ZK,ZU,bne_iff_ne,ne_eq,beq_iff_eq] at ok
 refine(cz (cx:=cx) (u:=lm cx A)).mp (dD.plain (cx:=aA cx (lm cx A)) (n:=19) ⟨D.h⟩ (λenv fr he=>?_) B.lim ok.1 ok.2 λø ø ø h=>Oc G h)
 exact yr B (tab:=[(109,qn 2)]) rfl (lE.cons (by decide) (by decide) (ZA _) (GH B G F M) .nil) (env::fr) (A4 rfl) (A5 rfl) (Ba B G (GH B G F M) ((OU B G F).le (by decide)) rfl (by decide+kernel) (by decide+kernel) (by decide+kernel) (by decide+kernel) he fr)
noncomputable def mv (A:Nat->Addr) (tab:List (Nat×Spec)):Up:={cO A tab with
 XE:=λk=>if k=0 then some eV else none
 XW:=λø=>mr}
theorem JW (B:cF cx A) (G:GG cx A) (tab:List (Nat×Spec)) (fr:List Env) (n:Nat):n8 ((aA cx (mv A tab)).at fr) n:=by
 intro k e he env sc ab σ s Ar P Q E ok hA O hw R kp
 have he:(if k=0 then some eV else none)=some e:=he
 by_cases hk:k=0
 .rw[if_pos hk] at he
  cases he
  have ok:(kdOf sc 122==3)=true:=ok
  exact u6 (lF B .nil fr) (OS (eY G (cO A [])) fr) (rh hA _) O (by simpa using ok) hw (rk R _) (wR kp _)
 .rw[if_neg hk] at he;cases he
noncomputable def yE:List (Nat×Spec):=[(112,Nf),(115,lf),(116,ID),(110,FS),(103,nT)]
theorem Ew (tab:List (Nat×Spec)):(aA cx (mv A tab)).XE 0=some eV:=by
 show(if 0=0 then some eV else none)=some eV
 rw[if_pos rfl]
theorem tD (B:cF cx A) {tab:List (Nat×Spec)} (hb:∀ y∈tab,101<=y.1/\y.1<=120) {k:Nat} (h1:101<=k) (h2:k<=120) {S:Nat×Spec} (hf:(tab.find? λy=>y.1==k)=some S):(aA cx (mv A tab)).D (A k)=some S.2:=by
 show sI A tab (A k)=some S.2
 exact wx B.inj h1 h2 hb hf
theorem Ex (tab:List (Nat×Spec)):(aA cx (mv A tab)).XW 0=mr:=rfl
theorem OZ (B:cF cx A) (G:GG cx A) (F:mU cx A) (hT:cx.T (A 101)=some An):lE cx A 2 yE:=
 .cons (by decide) (by decide) (by decide) (ON B G F) (.cons (by decide) (by decide) (by decide) (GA B G F) (.cons (by decide) (by decide) (by decide) (OP B G F) (.cons (by decide) (by decide) (by decide) (OM B G F hT) (.cons (by decide) (by decide) (by decide) (OL B G F) .nil))))
theorem og:∀ y∈yE,101<=y.1/\y.1<=120:=by
 intro y hy
 simp only[yE,ZF,aaG,or_false] at hy
 rcases hy with rfl|rfl|rfl|rfl|rfl<;>exact⟨by decide,by decide⟩
theorem JX (B:cF cx A) (G:GG cx A) {as:List PV} {hp:List PO} {K:PV->List PO->Prop} (h:mH as hp K):bc (aA cx (mv A yE)) (am "_law_table") [58,69,70,34,71,27] [69,70,34,42,74] [] (aQ "_law_table") as hp K:=
 Jx (eY G _) (tD B og (by decide) (by decide) (S:=(112,Nf)) rfl) (tD B og (by decide) (by decide) (S:=(115,lf)) rfl) (tD B og (by decide) (by decide) (S:=(116,ID)) rfl) (tD B og (by decide) (by decide) (S:=(110,FS)) rfl) (tD B og (by decide) (by decide) (S:=(103,nT)) rfl) (Ew yE) (Ex yE) h
theorem UO (B:cF cx A) (G:GG cx A) {n k:Nat} {tab:List (Nat×Spec)} (t:lE cx A n tab) {sc:Scope} {ps cl:List Nat} {b:ao} (F:fh cx (A k) sc ps b) (ok:ge sc ps cl=true) {S:Spec}
  (hS:∀ as hp K,S as hp K->bc (aA cx (mv A tab)) sc ps cl [] b as hp K):an cx (n+1) (.ref (A k)) S:=by
 simp only[ge,ZK,ZU,abe,beq_iff_eq,decide_eq_true_eq,List.contains_iff_mem] at ok
 exact(cz (cx:=cx) (u:=mv A tab)).mp (fh.cells (cx:=aA cx (mv A tab)) ⟨F.h⟩ (λfr=>yr B (tab:=tab) rfl t fr (A4 rfl) (JW B G tab fr n) (A6 rfl)) B.lim ok.1.1 ok.1.2 ok.2 hS)
theorem O0 (B:cF cx A) (G:GG cx A) (F:mU cx A) (hT:cx.T (A 101)=some An):an cx 3 (.ref (A 118)) mH:=
 UO B G (OZ B G F hT) (cB F.f118) (cl:=[69,70,34,42,74]) (by decide+kernel) λø ø ø h=>JX B G h
theorem O1 (B:cF cx A) (G:GG cx A) (F:mU cx A) (M:fO cx A):an cx 21 (.ref (A 120)) toS:=
 yU B (tab:=[(119,Du),(117,spS)]) (.cons (by decide) (by decide) (by decide) (OR B G F) (.cons (by decide) (by decide) (ZA _) (OY B G F M) .nil)) (cB F.f120) (by decide+kernel)
  λø ø ø h=>Op (eY G _) (kB B (by simp) (by decide) (by decide) (S:=(119,Du)) rfl) (kB B (by simp) (by decide) (by decide) (S:=(117,spS)) rfl) h
noncomputable def u7:List (Nat×Spec):=[(113,Ja),(114,Gl),(118,mH),(120,toS)]
end
section
variable {cx:Cx} {n:Nat} {sc:Scope} {ab:aT} {s:Shared} {A:Around} {Q:Value->Shared->Prop} {E:Value->Shared->Prop}
structure Ey (cx:Cx) (ab:aT) (hp:List PO) (h:Heap):Prop where
 keep:∀ b o,cx.h₀.get? b=some o->h.get? b=some o
 off:∀ (i:Nat) (a:Addr),ab[i]? =some a->cx.h₀.get? a=none
 inj:∀ (i j:Nat) (a:Addr),ab[i]? =some a->ab[j]? =some a->i=j
 len:ab.length=hp.length
 obj:∀ (i:Nat) (o:PO),hp[i]? =some o->∃ a ob,ab[i]? =some a/\h.get? a=some ob/\cN cx ab ob o
 tb:∀ (i:Nat) (a:Addr),cx.tb i=some a->ab[i]? =some a
theorem Ey.lt {cx:Cx} {ab:aT} {hp:List PO} {h:Heap} (R:Ey cx ab hp h) {i:Nat} {a:Addr} (e:ab[i]? =some a):a<h.objs.size:=by
 obtain⟨l,_⟩:=Zv.mp e
 have l':i<hp.length:=R.len▸l
 obtain⟨a',ob,e1,e2,_⟩:=R.obj i hp[i] (by simp [l'])
 rw[e] at e1;cases e1
 exact aaC e2
noncomputable def O2 (cx:Cx) (ab:aT) (s:Shared) (P:PV->List PO->Prop) (Q:Value->Shared->Prop):Prop:=
 ∀ p aE aj v h' tk,P p aE->cY aj p v->mx ab aj->(∀ b o,cx.h₀.get? b=some o->h'.get? b=some o)->(∀ (i:Nat) (o:PO),aE[i]? =some o->∃ a ob,aj[i]? =some a/\h'.get? a=some ob/\cN cx aj ob o)->Q v {s with heap:=h',toks:=tk}
theorem yF {hp:List PO} {P:PV->List PO->Prop} (qF:cx.fr=[]) {a:Addr} {o:Obj} {fd:FuncData} (C:∀ L,bF (cx.at (newEnv sc L mainGlobals (cellsFrom (L+1) sc.names []) (fd.qualname++".<locals>.") (some a) fd.code none builtinsNs::cx.fr)) n) (hA:Good cx (n+1) A) {params cl:List Nat} {body:ao} (F:zN fd sc params body) (ho:s.heap.get? a=some o) (hd:o.data=.func fd) (iQ:cx.h₀.NoLimit)
  (HS:s.heap.CodeRec fd.code fd.qualname) (HU:fd.closure=[]) (jY:∀ x∈cl,sc.names.lookup (nm x)=some .cell) (nd:cl.Nodup) (uw:∀ x∈params,sc.names.lookup (nm x)=some .local\/x∈cl)
  {ps:List PV} {vs:List Value} (R:Ey cx ab hp s.heap) (d:aU ab ps vs) (hw:bc cx sc params cl [] body ps hp P) (k:O2 cx ab s P Q):
  wpAny (model cx.prog cx.w) A (call (.ref a) vs) Q E s:=by
 obtain⟨cb,hw⟩:=hw
 have HT:vs.length=params.length:=by rw[<-d.length,cb]
 refine wpAny_call (codeAny_call_cells (fd:=fd) (body:=body.sts) (binds:=(params.map nm).zip vs) (by have:=hA.depth;exact la [_,_,_] [] [.t (.a .v0 (.a .v1 .n1)) .v2] (.t .v0 .v2) (.f [1,1]) rfl this) ho hd (iQ.keeps R.keep) HS F.body (F.bind vs HT) HU (λx hx=>?_) (λbz X=>?_)
  (by rw[F.sc];exact F.co) (by rw[F.sc];exact F.gen) (by rw[F.sc];exact F.kind))
 .obtain⟨y,hy,e⟩:=aal.mp (abf (show(x.1,x.2)∈_ from hx)).1
  rw[F.sc,<-e]
  rcases uw y hy with q|q
  .exact .inl q
  .exact .inr ⟨jY y q,cellsFrom_some (.inl (jY y q))⟩
 .have uv:callEnvC fd s.heap.objs.size a=newEnv sc s.heap.objs.size mainGlobals (cellsFrom (s.heap.objs.size+1) sc.names []) (fd.qualname++".<locals>.") (some a) fd.code none builtinsNs:=by
   unfold callEnvC;rw[F.sc,F.gl,F.bi]
  rw[uv] at X ⊢
  have O:=ew F.kind (L:=s.heap.objs.size) (dy:=cellsFrom (s.heap.objs.size+1) sc.names []) (qK:=fd.qualname++".<locals>.") (f:=some a) (code:=fd.code)
  have C:=C s.heap.objs.size
  generalize kc:newEnv sc s.heap.objs.size mainGlobals (cellsFrom (s.heap.objs.size+1) sc.names []) (fd.qualname++".<locals>.") (some a) fd.code none builtinsNs=ak at X O C ⊢
  have eF:ak.frame=some ak.locals:=by rw[<-kc];rfl
  have eS:ak.scope=sc:=by rw[<-kc];rfl
  have eL:ak.locals=s.heap.objs.size:=by rw[<-kc];rfl
  have eC:ak.cells=cellsFrom (s.heap.objs.size+1) sc.names []:=by rw[<-kc];rfl
  have eK:∀ x,ak.kindOf x=sc.names.lookup x:=λx=>by rw[<-kc];rfl
  obtain⟨ai,av,rfl⟩:=X.toInCall.same
  have hk:=X.toInCall.keep
  have nK:s.heap.get? ak.locals=none:=by rw[eL];exact aO (ZA _)
  have new:∀ c,ak.locals+1<=c->cx.h₀.get? c=none:=λc hc=>by
   cases q:cx.h₀.get? c with
   |none=>rfl
   |some o=>have:=aaC (R.keep _ _ q);rw[eL] at hc;exact absurd (ZD this (Nat.le_of_succ_le hc)) (aaw _)
  have HV:cx.h₀.get? ak.locals=none:=by
   cases q:cx.h₀.get? ak.locals with
   |none=>rfl
   |some o=>have:=R.keep _ _ q;rw[nK] at this;cases this
  have ff:∀ h:Heap,FF cx.h₀ h cx.fr:=λh=>by rw[qF];trivial
  have au:aH (cx.at (ak::cx.fr)) ak ab {loc:=e9 sc params ps [],ce:=[],hp:=hp} ai:=by
   refine qI (by
    obtain⟨oL,e1,e2⟩:=iC X.toInCall.ns
    exact⟨⟨by rw[eS,F.kind];decide,_,oL,eF,HV,e1,e2⟩,ff _⟩) (cx:=cx) ?_
   refine⟨λb o e=>hk b o (R.keep b o e),R.off,?_,R.inj,λi b e q=>?_,R.len,λi o e=>?_,⟨_,X.toInCall.ns,λx p e=>?_⟩,(λø ø e=>by cases e),ff _,R.tb⟩
   .cases q:cx.h₀.get? ak.locals with
    |none=>rfl
    |some o=>have:=R.keep _ _ q;rw[nK] at this;cases this
   .have:=R.lt e;rw[q,eL] at this;exact aaw _ this
   .obtain⟨b,ob,e1,e2,e3⟩:=R.obj i o e
    exact⟨b,ob,e1,hk _ _ e2,e3⟩
   .exact jn (sc:=sc) eK (xs:=params) (ps:=ps) (vs:=vs) (l:=[]) (m:=λø=>none) d (λø ø q=>by cases q) x p e
  obtain⟨cs,aK,oE,po⟩:=pT (cx:=cx.at (ak::cx.fr)) (cm:=bindC ak.kindOf ((params.map nm).zip vs) λø=>none) (cv:=jM sc params ps λø=>none) X.apart (λn c e=>X.above n c e) new (Z0 _) cl [] (by simpa using nd) au (λx hx=>by
    obtain⟨c,hc⟩:=ZJ.mp (cellsFrom_some (k:=s.heap.objs.size+1) (aD:=[]) (.inl (jY x hx)))
    rw[<-eC] at hc
    exact⟨c,hc,X.cell _ _ hc⟩) (λi b e=>.inl (by have:=R.lt e;rw[eL];exact ZZ this)) (pR eK d λx=>rfl)
  have cH:aH (cx.at (ak::cx.fr)) ak (ab++cs) {loc:=e9 sc params ps [],ce:=ur hp.length cl,hp:=hp++cl.map λx=>.cell (jM sc params ps (λø=>none) x)} ai:=
   ⟨aK.keep,aK.off,aK.offL,aK.inj,aK.notL,aK.len,aK.obj,aK.loc,λx i e=>by
    obtain⟨j,h1,h2⟩:=pQ e
    obtain⟨b,h3,h4⟩:=oE j x h1
    refine⟨b,?_,h4⟩
    rw[h2,<-R.len,aah (by exact la [_,_] [] [] (.l .v0 (.a .v0 .v1)) (.f [1]) rfl)]
    rw[show ab.length+j-ab.length=j by exact la [_,_] [] [] (.e (.s (.a .v0 .v1) .v0) .v1) (.o 0 (.k true (.s (.a .v0 .v1) .v0) (.o 0 (.f [0,0,1,1]) (.f [1,0,0,1]))) (.k true (.s (.a .v0 .v1) .v0) (.o 0 (.f [0,1,0,1]) (.f [0,1,0,1])))) rfl]
    exact h3,aK.ff,aK.tb⟩
  refine fH C body (eU hA _) O ⟨⟨_,rfl⟩,eF⟩ F.ok (P:=cW P) (by rw[kb];simpa using hw) (s:={s with heap:=ai,toks:=_}) cH λf br aj fl h' tk hP df R' S'=>?_
  have hE:mx ab aj:=λi x e=>S'.ext i x (by rw[ZQ (Zv.mp e).1];exact e)
  have ho:∀ (i:Nat) (o:PO),br.hp[i]? =some o->∃ a ob,aj[i]? =some a/\h'.get? a=some ob/\cN cx aj ob o:=λi o e=>by
   obtain⟨b,ob,e1,e2,e3⟩:=R'.obj i o e
   exact⟨b,ob,e1,e2,nH.mp e3⟩
  cases f with
  |next=>cases df;exact k _ _ _ _ _ _ hP rfl hE R'.keep ho
  |brk=>exact hP.elim
  |ret v=>obtain⟨u,rfl,du⟩:=df;exact k _ _ _ _ _ _ hP du hE R'.keep ho
end
noncomputable def jc (prog:Program) (w:World) (h₀:Heap) (A:Nat->Addr) (t1 t2:Addr):Cx:=
 {prog:=prog,w:=w,h₀:=h₀,cs:=IX,D:=λø=>none,DC:=λø ø=>none,G:=z5 A,T:=λa=>if a=A 101 then some An else none,EN:=λx=>x=131,RV:=λx=>x=135,XE:=λø=>none,XW:=λø ø ø=>False,SE:=λø ø ø=>False,SW:=λø ø ø=>False,fr:=[],tb:=λi=>if i=0 then some t1 else if i=1 then some t2 else none}
theorem JY {prog:Program} {w:World} {h₀:Heap} {A:Nat->Addr} {t1 t2:Addr}:GG (jc prog w h₀ A t1 t2) A:=.of rfl rfl rfl
noncomputable def BK:PV->Option Value
 |.val u=>some u
 |.fn f=>some f.value
 |_=>none
theorem Ez:gC.map (λy=>bif Nat.ble 121 y.1 then bootBuiltins (nm y.1) else none)=gC.map (λy=>BK y.2):=by kernel_rfl
theorem O3:gC.all (λy=>Nat.beq y.1 97||Nat.beq y.1 98||Nat.beq y.1 99||Nat.beq y.1 100||(Nat.ble 121 y.1&&Nat.ble y.1 138&&(BK y.2).isSome))=true:=by decide+kernel
theorem xe {l:Loc} {x:Nat} {v:PV}:l.get x=some v->(x,v)∈l:=by
 induction l with
 |nil=>exact nofun
 |cons a r ih=>
  intro h
  unfold Loc.get at h
  cases e:Nat.beq x a.1 with
  |true=>rw[e] at h;obtain rfl:=Z4 e;cases h;exact .head _
  |false=>rw[e] at h;exact .tail _ (ih h)
theorem EA {x:Nat} {v:PV} (h:gC.get x=some v) (h1:121<=x):bootBuiltins (nm x)=BK v:=by
 obtain⟨i,hi,e⟩:=List.getElem_of_mem (xe h)
 have:=congrArg (λl=>l[i]?) Ez
 rw[Z9,Z9,ZB hi,e] at this
 have:(bif Nat.ble 121 x then bootBuiltins (nm x) else none)=BK v:=aan this
 rw[Nat.ble_eq_true_of_le h1] at this
 exact this
theorem BL:bootBuiltins (nm 131)=some (.type "enumerate"):=by kernel_rfl
theorem BM:bootBuiltins (nm 135)=some (.type "reversed"):=by kernel_rfl
theorem BN:∀ k<139,97<=k->nm k≠"__name__":=by decide+kernel
noncomputable def kD (mg:Str->Option Value) (k:Nat):Addr:=match mg (nm k) with
 |some (.ref a)=>a
 |_=>0
noncomputable def P8:List (Int×PyData):=[(1,.str "OPTIMIZED"),(2,.str "NEWLOCALS"),(4,.str "VARARGS"),(8,.str "VARKEYWORDS"),(16,.str "NESTED"),(32,.str "GENERATOR"),(64,.str "NOFREE"),(128,.str "COROUTINE"),(256,.str "ITERABLE_COROUTINE"),(512,.str "ASYNC_GENERATOR")]
structure jd (h:Heap) (mg mb:Str->Option Value) (A:Nat->Addr):Prop where
 g:h.Ns mainGlobals mg
 b:h.Ns builtinsNs mb
 lim:h.NoLimit
 mb:∀ x:Str,x≠"__name__"->mb x=bootBuiltins x
 c97:∃ t,mg (nm 97)=some (.int 1 t)
 c98:∃ t,mg (nm 98)=some (.int 2 t)
 c99:∃ t,mg (nm 99)=some (.int 40 t)
 c100:∃ t,mg (nm 100)=some (.int 4000 t)
 ref:∀ k,101<=k->k<=120->mg (nm k)=some (.ref (A k))
 no:∀ k,121<=k->k<=138->mg (nm k)=none
 bm:∃ bm ob,mg "__builtins__"=some (.ref bm)/\bm≠builtinsNs/\h.get? bm=some ob/\ob.cls=.type "module"/\ob.dict=some builtinsNs/\ob.data=.plain
 dict:KTD.Keyed h (A 101) P8/\∃ o,h.get? (A 101)=some o/\o.cls=.type "dict"/\o.dict=none/\eP o=true
section
variable {prog:Program} {w:World} {h₀:Heap} {mg mb:Str->Option Value} {A:Nat->Addr} {t1 t2:Addr}
theorem jd.bi (F:jd h₀ mg mb A) {k:Nat} {v:Value} (h:bootBuiltins (nm k)=some v) (h1:121<=k) (h2:k<=138):mg (nm k)=none/\mb (nm k)=some v:=
 ⟨F.no k h1 h2,by rw[F.mb _ (BN k (aa1 h2) (Zu (by decide) h1)),h]⟩
theorem JZ (F:jd h₀ mg mb A) (x:Nat) (v:PV) (h:z5 A x=some v):∃ u,(∀ ab,cY ab v u)/\(mg (nm x)=some u\/(mg (nm x)=none/\mb (nm x)=some u)):=by
 unfold z5 at h
 cases c:Nat.ble 101 x&&Nat.ble x 120 with
 |true=>
  rw[c] at h;cases h
  have c:=(ZK _ _).mp c
  exact⟨_,λø=>rfl,.inl (F.ref x (Zz c.1) (Zz c.2))⟩
 |false=>
  rw[c] at h
  have h:gC.get x=some v:=h
  by_cases e:x=97
  .subst e;cases h;obtain⟨t,e⟩:=F.c97;exact⟨_,λø=>⟨t,rfl⟩,.inl e⟩
  by_cases e:x=98
  .subst e;cases h;obtain⟨t,e⟩:=F.c98;exact⟨_,λø=>⟨t,rfl⟩,.inl e⟩
  by_cases e:x=99
  .subst e;cases h;obtain⟨t,e⟩:=F.c99;exact⟨_,λø=>⟨t,rfl⟩,.inl e⟩
  by_cases e:x=100
  .subst e;cases h;obtain⟨t,e⟩:=F.c100;exact⟨_,λø=>⟨t,rfl⟩,.inl e⟩
  have m:=ZU.mp O3 _ (xe h)
  have nb:∀ {k:Nat},x≠k->Nat.beq x k=false:=λn=>by
   cases q:Nat.beq x _ with
   |true=>exact absurd (Z4 q) n
   |false=>rfl
  rw[nb ‹x≠97›,nb ‹x≠98›,nb ‹x≠99›,nb ‹x≠100›] at m
  have m:(Nat.ble 121 x&&Nat.ble x 138&&(BK v).isSome)=true:=m
  have m1:=(ZK _ _).mp m
  have m2:=(ZK _ _).mp m1.1
  have b:=EA h (Zz m2.1)
  have bi:=λ{u} (e:bootBuiltins (nm x)=some u)=>F.bi e (Zz m2.1) (Zz m2.2)
  cases v with
  |val u=>exact⟨_,λø=>rfl,.inr (bi b)⟩
  |fn f=>exact⟨_,λø=>rfl,.inr (bi b)⟩
  |_=>exact nomatch m1.2
theorem BO (F:jd h₀ mg mb A) (fn:∀ k,102<=k->k<=120->∃ o fd,h₀.get? (A k)=some o/\o.data=.func fd) (inj:∀ i j,101<=i->i<=120->101<=j->j<=120->A i=A j->i=j):cF (jc prog w h₀ A t1 t2) A where
 tab:=λd D h=>by
  have h:(if d=A 101 then some An else none)=some D:=h
  by_cases e:d=A 101
  .rw[if_pos e] at h;cases h
   subst e
   exact⟨F.dict.1 prog w,F.dict.2.imp λø=>aaa (aaa And.left)⟩
  .rw[if_neg e] at h;cases h
 g:=⟨mg,mb,F.g,F.b,JZ F⟩
 en:=⟨mg,mb,F.g,F.b,λx e=>by
  obtain rfl:x=131:=e
  exact F.bi BL (by decide) (by decide),λx e=>by
  obtain rfl:x=135:=e
  exact F.bi BM (by decide) (by decide)⟩
 fn:=fn
 inj:=inj
 lim:=F.lim
end
noncomputable def recIn (x:Str):List Stmt->DefRec
 |.FunctionDef name params body _ _ _ scope _ _ pos::r=>if name==x then⟨name,params,body,scope,pos⟩ else recIn x r
 |_::r=>recIn x r
 | []=>⟨x,default,[],kZ,p0⟩
noncomputable def gP (x:String):DefRec:=recIn (Str.ofString x) QL
noncomputable def FnAt (h:Heap) (x:String) (a:Addr) (code:Value):Prop:=∃ o pm jp,h.get? a=some o/\o.data=.func (docDef (Str.ofString x) (gP x).params (gP x).body (gP x).scope pm code jp)/\h.CodeRec code (Str.ofString x)
structure dn (x:String) (ps:List Nat):Prop where
 body:(gP x).body=(aQ x).sts
 sc:(gP x).scope=am x
 bind:∀ pm c jp c8,c8.length=ps.length->bindArgs (docDef (Str.ofString x) (gP x).params (gP x).body (gP x).scope pm c jp) ⟨c8,[]⟩=pure ((ps.map nm).zip c8)
 co:(am x).isCoroutine=false
 gen:(am x).isGenerator=false
 kind:(am x).kind=.function
 ok:(aQ x).ok (am x)=true
theorem dn.defC {x:String} {ps:List Nat} (D:dn x ps) {cx:Cx} {a:Addr} {c:Value} (F:FnAt cx.h₀ x a c):dD cx a (am x) ps (aQ x) c (Str.ofString x):=by
 obtain⟨o,pm,jp,h1,h2,h3⟩:=F
 exact⟨o,_,h1,h2,⟨congrArg _ D.body,D.sc,rfl,rfl,λc8 hv=>D.bind _ _ _ c8 hv,D.co,D.gen,D.kind,D.ok⟩,h3,rfl,rfl,rfl⟩
theorem ru {P:List Value->Prop} (h:P []) (c8:List Value) (e:c8.length=0):P c8:=by
 cases c8 with
 |nil=>exact h
 |cons _ _=>cases e
theorem fR {n:Nat} {P:List Value->Prop} (h:∀ a r,r.length=n->P (a::r)) (c8:List Value) (e:c8.length=n+1):P c8:=by
 cases c8 with
 |nil=>cases e
 |cons a r=>exact h a r (Nat.succ.inj e)
theorem UP:dn "_substitution_cost" [0,1]:=⟨by kernel_rfl,by kernel_rfl,λø ø ø=>fR λø=>fR λø=>ru (by kernel_rfl),by kernel_rfl,by kernel_rfl,by kernel_rfl,by kernel_rfl⟩
theorem UQ:dn "_levenshtein_distance" [2,3,4]:=⟨by kernel_rfl,by kernel_rfl,λø ø ø=>fR λø=>fR λø=>fR λø=>ru (by kernel_rfl),by kernel_rfl,by kernel_rfl,by kernel_rfl,by kernel_rfl⟩
theorem UR:dn "_div2n1n" [2,3,16]:=⟨by kernel_rfl,by kernel_rfl,λø ø ø=>fR λø=>fR λø=>fR λø=>ru (by kernel_rfl),by kernel_rfl,by kernel_rfl,by kernel_rfl,by kernel_rfl⟩
theorem US:dn "_int2digits" [2,16]:=⟨by kernel_rfl,by kernel_rfl,λø ø ø=>fR λø=>fR λø=>ru (by kernel_rfl),by kernel_rfl,by kernel_rfl,by kernel_rfl,by kernel_rfl⟩
theorem UT:dn "_digits2int" [37,16]:=⟨by kernel_rfl,by kernel_rfl,λø ø ø=>fR λø=>fR λø=>ru (by kernel_rfl),by kernel_rfl,by kernel_rfl,by kernel_rfl,by kernel_rfl⟩
theorem UU:dn "_divmod_pos" [2,3]:=⟨by kernel_rfl,by kernel_rfl,λø ø ø=>fR λø=>fR λø=>ru (by kernel_rfl),by kernel_rfl,by kernel_rfl,by kernel_rfl,by kernel_rfl⟩
theorem UV:dn "int_divmod" [2,3]:=⟨by kernel_rfl,by kernel_rfl,λø ø ø=>fR λø=>fR λø=>ru (by kernel_rfl),by kernel_rfl,by kernel_rfl,by kernel_rfl,by kernel_rfl⟩
theorem UW:dn "pretty_flags" [41]:=⟨by kernel_rfl,by kernel_rfl,λø ø ø=>fR λø=>ru (by kernel_rfl),by kernel_rfl,by kernel_rfl,by kernel_rfl,by kernel_rfl⟩
theorem UX:dn "_parse_varint" [45]:=⟨by kernel_rfl,by kernel_rfl,λø ø ø=>fR λø=>ru (by kernel_rfl),by kernel_rfl,by kernel_rfl,by kernel_rfl,by kernel_rfl⟩
theorem UY:dn "_law_names" []:=⟨by kernel_rfl,by kernel_rfl,λø ø ø=>ru (by kernel_rfl),by kernel_rfl,by kernel_rfl,by kernel_rfl,by kernel_rfl⟩
theorem UZ:dn "_law_tape" [47]:=⟨by kernel_rfl,by kernel_rfl,λø ø ø=>fR λø=>ru (by kernel_rfl),by kernel_rfl,by kernel_rfl,by kernel_rfl,by kernel_rfl⟩
theorem U0:dn "_law_read" [48]:=⟨by kernel_rfl,by kernel_rfl,λø ø ø=>fR λø=>ru (by kernel_rfl),by kernel_rfl,by kernel_rfl,by kernel_rfl,by kernel_rfl⟩
theorem U1:dn "_law_way" [56,57,58]:=⟨by kernel_rfl,by kernel_rfl,λø ø ø=>fR λø=>fR λø=>fR λø=>ru (by kernel_rfl),by kernel_rfl,by kernel_rfl,by kernel_rfl,by kernel_rfl⟩
theorem U2:dn "_law_piece" [50,60,61]:=⟨by kernel_rfl,by kernel_rfl,λø ø ø=>fR λø=>fR λø=>fR λø=>ru (by kernel_rfl),by kernel_rfl,by kernel_rfl,by kernel_rfl,by kernel_rfl⟩
theorem U3:dn "_law_split" [65,66]:=⟨by kernel_rfl,by kernel_rfl,λø ø ø=>fR λø=>fR λø=>ru (by kernel_rfl),by kernel_rfl,by kernel_rfl,by kernel_rfl,by kernel_rfl⟩
theorem U4:dn "_law_table" [58,69,70,34,71,27]:=⟨by kernel_rfl,by kernel_rfl,λø ø ø=>fR λø=>fR λø=>fR λø=>fR λø=>fR λø=>fR λø=>ru (by kernel_rfl),by kernel_rfl,by kernel_rfl,by kernel_rfl,by kernel_rfl⟩
theorem U5:dn "_law_due" [43,77,50,58,70,27]:=⟨by kernel_rfl,by kernel_rfl,λø ø ø=>fR λø=>fR λø=>fR λø=>fR λø=>fR λø=>fR λø=>ru (by kernel_rfl),by kernel_rfl,by kernel_rfl,by kernel_rfl,by kernel_rfl⟩
theorem U6:dn "_law_taken_out" [76,58,70,27,89]:=⟨by kernel_rfl,by kernel_rfl,λø ø ø=>fR λø=>fR λø=>fR λø=>fR λø=>fR λø=>ru (by kernel_rfl),by kernel_rfl,by kernel_rfl,by kernel_rfl,by kernel_rfl⟩
theorem U7:dn "law" [92]:=⟨by kernel_rfl,by kernel_rfl,λø ø ø=>fR λø=>ru (by kernel_rfl),by kernel_rfl,by kernel_rfl,by kernel_rfl,by kernel_rfl⟩
noncomputable def je:List (List Nat):=(List.range 2).flatMap λb=>(List.range 3).flatMap λc=>(List.range 4).map λd=>[0,0,b,c,d]
theorem U8 {l:List Nat} (h:l.length=5):∃ a b c d e,l=[a,b,c,d,e]:=by
 rcases l with _|⟨a,_|⟨b,_|⟨c,_|⟨d,_|⟨e,_|⟨f,l⟩⟩⟩⟩⟩⟩
 all_goals first|exact⟨_,_,_,_,_,rfl⟩|cases h
theorem c5 {P:List Nat} (T:Tree P):P∈je:=by
 obtain⟨hl,ht⟩:=T
 obtain⟨a0,a1,a2,a3,a4,rfl⟩:=U8 hl
 have h0:=ht 0 a0 rfl
 have h1:=ht 1 a1 rfl
 have h2:=ht 2 a2 rfl
 have h3:=ht 3 a3 rfl
 have h4:=ht 4 a4 rfl
 obtain rfl:a0=0:=by exact la [_] [] [.l .v0 .n0] (.e .v0 .n0) (.o 0 (.f [1]) (.f [1,1])) rfl h0.1
 obtain rfl:a1=0:=by have:=h1.2 (by decide);exact la [_] [] [.t .v0 .n1] (.e .v0 .n0) (.o 0 (.f [1]) (.f [1,1])) rfl this
 have l2:=h2.2 (by decide)
 have l3:=h3.2 (by decide)
 have l4:=h4.2 (by decide)
 exact List.mem_flatMap.mpr ⟨a2,ZN.mpr l2,List.mem_flatMap.mpr ⟨a3,ZN.mpr l3,aal.mpr ⟨a4,ZN.mpr l4,rfl⟩⟩⟩
theorem yG:∀ P∈je,∀ n<5,∀ k<5,(bs P n 0).count k<=1:=by decide+kernel
theorem u8 {P:List Nat} (T:Tree P) {n:Nat} (hn:n<5) (k:Nat):(bs P n 0).count k<=1:=by
 by_cases h:k<5
 .exact yG P (c5 T) n hn k h
 .rw[List.count_eq_zero.mpr λm=>h (nZ T hn (by decide) k m).1]
  exact ZM _
theorem BP:∀ P∈je,∀ i<5,∀ j<5,bs P i j=([1,2,3,4]:List Nat).filter λk=>(bs P i 0).count k !=(bs P j 0).count k:=by decide+kernel
noncomputable def GI:List (List Nat):=(List.range 16).map λm=>([1,2,3,4]:List Nat).filter λk=>m/2^(k-1)%2==1
theorem BQ:∀ W∈GI,∀ sh<9,Cs 32 0 (((f9 W sh).sum:Nat):Int) []=some (if W=[] then[Str.ofString "0x0"] else dB W sh):=by decide+kernel
theorem EB:∀ P∈je,∀ i<5,∀ j<5,bs P i j∈GI:=by decide+kernel
theorem EC {P:List Nat} (T:Tree P) {i j sh:Nat} (hi:i<5) (hj:j<5) (hs:sh<9):
  ∃ ys,Cs 32 0 ((f9 (bs P i j) sh).sum:Nat) []=some ys/\aV ((ys.map (·.length)).sum+ys.length*2)/\Txt.join ", " ys=lu (bs P i j) sh:=by
 have hl:=ko (P:=P) (f:=i) (s:=j)
 refine⟨_,BQ _ (EB P (c5 T) i hi j hj) sh hs,?_,?_⟩
 .by_cases z:bs P i j=[]
  .rw[if_pos z];unfold aV;decide
  .rw[if_neg z]
   have h1:=qx sh (bs P i j)
   have h2:(dB (bs P i j) sh).length=(bs P i j).length:=by simp [dB]
   unfold aV
   rw[h2];exact la [_,_,_,_] [] [.t .v0 (.n 5),.t .v1 (.n 5),.l .v2 (.a .v0 .v1),.l .v3 (.m 20 .v2)] (.l (.a .v3 (.M .v2 2)) (.n 1000000)) (.f [1,22,22,22,1]) rfl hi hj hl h1
 .unfold lu
  by_cases z:bs P i j=[]
  .rw[if_pos z,if_pos z];decide+kernel
  .rw[if_neg z,if_neg z]
theorem kE (a b p:List Nat):bp (p++a) (p++b)=p.length+bp a b:=by
 induction p with
 |nil=>exact(aau _).symm
 |cons x p ih=>
  show bp (x::(p++a)) (x::(p++b))=_
  rw[b9,if_pos rfl,ih,ZL,Nat.add_right_comm]
theorem ED {x y:Nat} {a b:List Nat} (h:x≠y):bp (x::a) (y::b)=0:=by rw[b9,if_neg h]
theorem xf {a b s t:List Nat} (ha:a≠[]) (hb:b≠[]) (h:a.headD 0≠b.headD 0):bp (a++s) (b++t)=0:=by
 cases a with
 |nil=>exact absurd rfl ha
 |cons x a=>
  cases b with
  |nil=>exact absurd rfl hb
  |cons y b=>exact ED h
theorem qz {a:List Nat}:a.reverse.headD 0=a.getLastD 0:=by
 cases a with
 |nil=>rfl
 |cons x a=>rw[List.headD_eq_head?_getD,List.head?_reverse,List.getLastD_eq_getLast?]
theorem tE {a b p s:List Nat} (ha:a≠[]) (hb:b≠[]) (h1:a.headD 0≠b.headD 0) (h2:a.getLastD 0≠b.getLastD 0):cj (p++a++s) (p++b++s)=a:=by
 have e:∀ {a b:List Nat},a≠[]->b≠[]->a.headD 0≠b.headD 0->bH (p++a++s) (p++b++s)=a++s:=λ{a b} ha hb h=>by
  unfold bH
  rw[ZH,ZH,kE,xf ha hb h,Nat.add_zero,List.drop_left]
 unfold cj
 rw[e ha hb h1,e hb ha (aaO h1)]
 unfold ec
 rw[aaz,aaz,kE]
 have:=xf (s:=[]) (t:=[]) (a:=a.reverse) (b:=b.reverse) (by simpa using ha) (by simpa using hb) (by rw[qz,qz];exact h2)
 rw[ZV,ZV] at this
 rw[this,Zw,aab,Nat.add_zero,Nat.add_sub_cancel,List.take_left]
theorem yH (u v:List Nat):bp u (u++v)=u.length:=by
 have:=kE [] v u
 rw[ZV] at this
 exact this
theorem tF (s b:List Nat) (c:Nat):∃ r,(b++s).drop c=r++s.drop c:=by
 by_cases h:c<=b.length
 .rw[List.drop_append_of_le_length h]
  obtain⟨q,hq⟩:=List.drop_suffix c s
  exact⟨b.drop c++q,by rw[ZH,hq]⟩
 .rw[List.drop_append,List.drop_of_length_le (by exact la [_,_] [] [.n (.l .v0 .v1)] (.l .v1 .v0) (.f [1,1]) rfl h),abh]
  obtain⟨q,hq⟩:=(List.drop_suffix_drop_left s (show c-b.length<=c by exact la [_,_] [] [] (.l (.s .v0 .v1) .v0) (.k true (.s .v0 .v1) (.o 0 (.f [0,1,0,1]) (.f [0,1,0,1]))) rfl))
  exact⟨q,hq.symm⟩
theorem tG (p b s:List Nat):cj (p++s) (p++b++s)=[]:=by
 unfold cj
 have e1:bp (p++s) (p++b++s)=p.length+bp s (b++s):=by rw[ZH,kE]
 have e2:bp (p++b++s) (p++s)=p.length+bp s (b++s):=by rw[cQ,e1]
 have f1:bH (p++s) (p++b++s)=s.drop (bp s (b++s)):=by
  unfold bH
  rw[e1,List.drop_append,List.drop_of_length_le (by exact la [_,_] [] [] (.l .v0 (.a .v0 .v1)) (.f [1]) rfl),abh]
  congr 1;exact la [_,_] [] [] (.e (.s (.a .v0 .v1) .v0) .v1) (.o 0 (.k true (.s (.a .v0 .v1) .v0) (.o 0 (.f [0,0,1,1]) (.f [1,0,0,1]))) (.k true (.s (.a .v0 .v1) .v0) (.o 0 (.f [0,1,0,1]) (.f [0,1,0,1])))) rfl
 have f2:bH (p++b++s) (p++s)=(b++s).drop (bp s (b++s)):=by
  unfold bH
  rw[e2,ZH,List.drop_append,List.drop_of_length_le (by exact la [_,_] [] [] (.l .v0 (.a .v0 .v1)) (.f [1]) rfl),abh]
  congr 1;exact la [_,_] [] [] (.e (.s (.a .v0 .v1) .v0) .v1) (.o 0 (.k true (.s (.a .v0 .v1) .v0) (.o 0 (.f [0,0,1,1]) (.f [1,0,0,1]))) (.k true (.s (.a .v0 .v1) .v0) (.o 0 (.f [0,1,0,1]) (.f [0,1,0,1])))) rfl
 rw[f1,f2]
 obtain⟨r,hr⟩:=tF s b (bp s (b++s))
 rw[hr]
 unfold ec
 rw[aaz,yH,aab,Nat.sub_self,List.take_zero]
theorem J0 (l:List Nat):MP l=l.headD 0:=by cases l<;>rfl
theorem BR:∀ l:List Nat,PB l=l.getLastD 0
 | []=>rfl
 | [x]=>rfl
 |x::y::l=>by
  show PB (y::l)=_
  rw[BR (y::l)]
  rfl
theorem GJ {l:List Nat} (h:l.headD 0≠0):l≠[]:=by rintro rfl;exact h rfl
noncomputable def pc (K t:Nat->Nat) (k:Nat):List Nat:=fb k (K k) (t k)
noncomputable def wd (K t:Nat->Nat):List Nat:=pc K t 1++pc K t 2++[49]++pc K t 3++pc K t 4
noncomputable def on (b:Bool) (l:List Nat):List Nat:=bif b then l else[]
noncomputable def jf (e:jF) (K t:Nat->Nat):List Nat:=on (inR e 1) (pc K t 1)++(on (inR e 2) (pc K t 2)++(sG e++(on (inR e 3) (pc K t 3)++on (inR e 4) (pc K t 4))))
noncomputable def BS (e:jF) (K t:Nat->Nat):List Nat:=on (Nat.ble 2 e.f) (pc K t 1)++on (Nat.ble 3 e.f) (pc K t 2)++on (Nat.ble 3 e.f) [49]++on (Nat.ble 4 e.f) (pc K t 3)
noncomputable def BU (e:jF) (K t:Nat->Nat):List Nat:=on (Nat.ble e.l 1) (pc K t 2)++on (Nat.ble e.l 2) [49]++on (Nat.ble e.l 2) (pc K t 3)++on (Nat.ble e.l 3) (pc K t 4)
noncomputable def lG:List jF:=iX++Ah
theorem js:∀ e∈lG,1<=e.f/\e.f<=e.l/\e.l<=4:=by decide+kernel
theorem xg:Nat.ble 1 1=true/\Nat.ble 1 2=true/\Nat.ble 1 3=true/\Nat.ble 1 4=true/\Nat.ble 2 1=false/\Nat.ble 2 2=true/\Nat.ble 2 3=true/\Nat.ble 2 4=true/\Nat.ble 3 1=false/\Nat.ble 3 2=false/\Nat.ble 3 3=true/\Nat.ble 3 4=true/\Nat.ble 4 1=false/\Nat.ble 4 2=false/\Nat.ble 4 3=false/\Nat.ble 4 4=true:=by decide
theorem gQ {e:jF} (h1:1<=e.f) (h2:e.f<=e.l) (h3:e.l<=4) (K t:Nat->Nat):wd K t=BS e K t++jf e K t++BU e K t:=by
 obtain⟨f,l,et,eu⟩:=e
 dsimp only at h1 h2 h3
 have:f=1\/f=2\/f=3\/f=4:=by exact la [_,_] [] [.l .n1 .v0,.l .v0 .v1,.l .v1 (.n 4)] (.r (.e .v0 .n1) (.r (.e .v0 .n2) (.r (.e .v0 (.n 3)) (.e .v0 (.n 4))))) (.o 0 (.o 2 (.o 3 (.f [1,0,0,0,0,1]) (.f [1,1])) (.o 1 (.f [1,1]) (.f [1,0,1]))) (.f [1,1,1])) rfl h1 h2 h3
 have:l=1\/l=2\/l=3\/l=4:=by exact la [_,_] [] [.l .n1 .v0,.l .v0 .v1,.l .v1 (.n 4)] (.r (.e .v1 .n1) (.r (.e .v1 .n2) (.r (.e .v1 (.n 3)) (.e .v1 (.n 4))))) (.o 0 (.o 2 (.o 3 (.f [1,0,0,0,1,1]) (.f [1,1])) (.o 1 (.f [1,1]) (.f [1,0,1]))) (.f [1,1])) rfl h1 h2 h3
 rcases ‹f=1\/f=2\/f=3\/f=4› with rfl|rfl|rfl|rfl<;>rcases ‹l=1\/l=2\/l=3\/l=4› with rfl|rfl|rfl|rfl<;>first|omega|simp [wd,BS,jf,BU,on,inR,sG,ZH,xg]
noncomputable def yI (e:jF) (t u:Nat->Nat):Prop:=∀ k,1<=k->k<=4->if inR e k=true then t k=e.t.getD (k-1) 0/\u k=e.u.getD (k-1) 0 else t k=u k
theorem fP {K t u:Nat->Nat} {k:Nat} (h:t k=u k):pc K t k=pc K u k:=by unfold pc;rw[h]
theorem gR {b:Bool} {x y:List Nat} (h:b=true->x=y):on b x=on b y:=by
 cases b with
 |false=>rfl
 |true=>exact h rfl
theorem ry {e:jF} {K t u:Nat->Nat} (F:yI e t u) (h1:1<=e.f) (h2:e.f<=e.l) (h3:e.l<=4):BS e K t=BS e K u:=by
 have out:∀ k,1<=k->k<=4->k<e.f->t k=u k:=λk a b c=>by
  have:=F k a b
  rw[if_neg (by simp only[inR,ZK,abo];omega)] at this
  exact this
 unfold BS
 rw[gR λh=>fP (out 1 (by exact la [] [] [] (.l .n1 .n1) (.f [1]) rfl) (by exact la [] [] [] (.l .n1 (.n 4)) (.f [1]) rfl) (by have:=Zz h;omega)),gR λh=>fP (out 2 (by exact la [] [] [] (.l .n1 .n2) (.f [1]) rfl) (by exact la [] [] [] (.l .n2 (.n 4)) (.f [1]) rfl) (by have:=Zz h;omega)),gR λh=>fP (out 3 (by exact la [] [] [] (.l .n1 (.n 3)) (.f [1]) rfl) (by exact la [] [] [] (.l (.n 3) (.n 4)) (.f [1]) rfl) (by have:=Zz h;omega))]
theorem rz {e:jF} {K t u:Nat->Nat} (F:yI e t u) (h1:1<=e.f) (h2:e.f<=e.l) (h3:e.l<=4):BU e K t=BU e K u:=by
 have out:∀ k,1<=k->k<=4->e.l<k->t k=u k:=λk a b c=>by
  have:=F k a b
  rw[if_neg (by simp only[inR,ZK,abo];omega)] at this
  exact this
 unfold BU
 rw[gR λh=>fP (out 2 (by exact la [] [] [] (.l .n1 .n2) (.f [1]) rfl) (by exact la [] [] [] (.l .n2 (.n 4)) (.f [1]) rfl) (by have:=Zz h;omega)),gR (b:=Nat.ble e.l 2) (x:=pc K t 3) λh=>fP (out 3 (by exact la [] [] [] (.l .n1 (.n 3)) (.f [1]) rfl) (by exact la [] [] [] (.l (.n 3) (.n 4)) (.f [1]) rfl) (by have:=Zz h;omega)),gR (b:=Nat.ble e.l 3) λh=>fP (out 4 (by exact la [] [] [] (.l .n1 (.n 4)) (.f [1]) rfl) (by exact la [] [] [] (.l (.n 4) (.n 4)) (.f [1]) rfl) (by have:=Zz h;omega))]
noncomputable def KR (k kind:Nat):Pc:=(Ip.getD (k-1) []).getD kind (0,[],[])
noncomputable def fm:List Nat:=[1,2,3,4]
theorem fA {k:Nat} (h1:1<=k) (h2:k<=4):k∈fm:=by
 have:k=1\/k=2\/k=3\/k=4:=by exact la [_] [] [.l .n1 .v0,.l .v0 (.n 4)] (.r (.e .v0 .n1) (.r (.e .v0 .n2) (.r (.e .v0 (.n 3)) (.e .v0 (.n 4))))) (.o 0 (.o 2 (.o 3 (.f [1,0,0,0,1]) (.f [1,1])) (.o 1 (.f [1,1]) (.f [1,0,1]))) (.f [1,1])) rfl h1 h2
 rcases this with rfl|rfl|rfl|rfl<;>decide
theorem EF:∀ k∈fm,∀ kind∈List.range 5,∀ t∈List.range 2,l9 (KR k kind) t=fb k kind t/\(KR k kind).1=([1,2,3,2,4]:List Nat).getD kind 0/\∀ c∈fb k kind t,c∈qX:=by decide+kernel
theorem rA {k:Nat} (h1:1<=k) (h2:k<=4) {kind:Nat} (h3:kind<5) {t:Nat} (h4:t<2):l9 (KR k kind) t=fb k kind t/\(KR k kind).1=([1,2,3,2,4]:List Nat).getD kind 0/\gJ (fb k kind t):=
 EF k (fA h1 h2) kind (ZN.mpr h3) t (ZN.mpr h4)
noncomputable def tH (o k kind:Nat):Bool:=bif Nat.beq k o then Nat.ble 3 kind&&Nat.ble kind 4 else bif Nat.beq (k+o) 5 then Nat.ble kind 3 else Nat.ble kind 2
noncomputable def KindsOk (K:Nat->Nat):Prop:=∃ o,1<=o/\o<=4/\∀ k,1<=k->k<=4->tH o k (K k)=true
theorem tI {o k kind:Nat} (h:tH o k kind=true):kind<5:=by
 unfold tH at h
 cases h1:Nat.beq k o with
 |true=>
  rw[h1] at h
  simp only[cond_true,ZK,abo] at h
  omega
 |false=>
  rw[h1] at h
  simp only[cond_false] at h
  cases h2:Nat.beq (k+o) 5 with
  |true=>rw[h2] at h;simp only[cond_true,abo] at h;omega
  |false=>rw[h2] at h;simp only[cond_false,abo] at h;omega
theorem EG:∀ o∈fm,∀ k∈fm,∀ kind∈List.range 5,tH o k kind=true->KR k kind∈((Ip.getD (k-1) []).drop ((nV.getD (o-1) []).getD (k-1) (0,0)).1).take ((nV.getD (o-1) []).getD (k-1) (0,0)).2:=by decide+kernel
theorem J1:∀ o∈fm,nV.getD (o-1) []∈nV:=by decide+kernel
noncomputable def xh (e:jF) (K:Nat->Nat) (k:Nat):Pc:=bif inR e k then KR k (K k) else(0,[],[])
theorem EH:∀ e∈lG,∀ F∈nV,sH e F=true:=by
 intro e he F hF
 have go:∀ {l:List jF},(jB l λe=>jB nV λF=>sH e F)=true->e∈l->sH e F=true:=λh m=>fJ (fJ h e m) F hF
 rcases Z1.mp he with he|he
 .have:e∈iX.take 6\/e∈(iX.drop 6).take 6\/e∈iX.drop 12:=by
   have h1:iX=iX.take 6++((iX.drop 6).take 6++iX.drop 12):=by rfl
   rw[h1] at he
   rcases Z1.mp he with he|he
   .exact .inl he
   .exact .inr (Z1.mp he)
  rcases this with h|h|h
  .exact go Ir h
  .exact go It h
  .exact go Iu h
 .exact go MR he
theorem J2 {e:jF} (he:e∈lG) {K:Nat->Nat} (hK:KindsOk K):Iq e (xh e K 1) (xh e K 2) (xh e K 3) (xh e K 4)=true:=by
 obtain⟨o,o1,o4,hk⟩:=hK
 have h:=EH e he _ (J1 o (fA o1 o4))
 have mem:∀ k,1<=k->k<=4->xh e K k∈yc e (nV.getD (o-1) []) k:=λk a b=>by
  unfold xh yc
  cases inR e k with
  |false=>exact .head _
  |true=>exact EG o (fA o1 o4) k (fA a b) (K k) (ZN.mpr (tI (hk k a b))) (hk k a b)
 unfold sH at h
 exact fJ (fJ (fJ (fJ h _ (mem 1 (by exact la [] [] [] (.l .n1 .n1) (.f [1]) rfl) (by exact la [] [] [] (.l .n1 (.n 4)) (.f [1]) rfl))) _ (mem 2 (by exact la [] [] [] (.l .n1 .n2) (.f [1]) rfl) (by exact la [] [] [] (.l .n2 (.n 4)) (.f [1]) rfl))) _ (mem 3 (by exact la [] [] [] (.l .n1 (.n 3)) (.f [1]) rfl) (by exact la [] [] [] (.l (.n 3) (.n 4)) (.f [1]) rfl))) _ (mem 4 (by exact la [] [] [] (.l .n1 (.n 4)) (.f [1]) rfl) (by exact la [] [] [] (.l (.n 4) (.n 4)) (.f [1]) rfl))
theorem jW {a b:Nat}:Nat.beq a b=true↔a=b:=⟨Z4,λh=>by rw[h];exact Nat.beq_refl b⟩
theorem rB {a b:Nat}:Nat.beq a b=false↔a≠b:=⟨Nat.ne_of_beq_eq_false,λh=>by
 cases q:Nat.beq a b with
 |false=>rfl
 |true=>exact absurd (jW.mp q) h⟩
theorem BV (t:Nat):l9 (0,[],[]) t=[]:=by cases t<;>rfl
theorem fQ {K:Nat->Nat} (h:KindsOk K) {k:Nat} (h1:1<=k) (h2:k<=4):K k<5:=by
 obtain⟨o,_,_,h⟩:=h
 exact tI (h k h1 h2)
theorem mV {e:jF} {K t:Nat->Nat} (hK:KindsOk K) (ht:∀ k,t k<2) {k et:Nat} (h1:1<=k) (h2:k<=4) (h:inR e k=true->t k=et):l9 (xh e K k) et=on (inR e k) (pc K t k):=by
 unfold xh
 cases hr:inR e k with
 |false=>exact BV _
 |true=>
  rw[<-h hr]
  exact(rA h1 h2 (fQ hK h1 h2) (ht k)).1
theorem BW {e:jF} {K t:Nat->Nat} {et:List Nat} (hK:KindsOk K) (ht:∀ k,t k<2) (h:∀ k,1<=k->k<=4->inR e k=true->t k=et.getD (k-1) 0):PC (sG e) (xh e K 1) (xh e K 2) (xh e K 3) (xh e K 4) et=jf e K t:=by
 unfold PC jf
 rw[kj,kj,kj,kj,mV hK ht (by exact la [] [] [] (.l .n1 .n1) (.f [1]) rfl) (by exact la [] [] [] (.l .n1 (.n 4)) (.f [1]) rfl) (h 1 (by exact la [] [] [] (.l .n1 .n1) (.f [1]) rfl) (by exact la [] [] [] (.l .n1 (.n 4)) (.f [1]) rfl)),mV hK ht (by exact la [] [] [] (.l .n1 .n2) (.f [1]) rfl) (by exact la [] [] [] (.l .n2 (.n 4)) (.f [1]) rfl) (h 2 (by exact la [] [] [] (.l .n1 .n2) (.f [1]) rfl) (by exact la [] [] [] (.l .n2 (.n 4)) (.f [1]) rfl)),mV hK ht (by exact la [] [] [] (.l .n1 (.n 3)) (.f [1]) rfl) (by exact la [] [] [] (.l (.n 3) (.n 4)) (.f [1]) rfl) (h 3 (by exact la [] [] [] (.l .n1 (.n 3)) (.f [1]) rfl) (by exact la [] [] [] (.l (.n 3) (.n 4)) (.f [1]) rfl)),mV hK ht (by exact la [] [] [] (.l .n1 (.n 4)) (.f [1]) rfl) (by exact la [] [] [] (.l (.n 4) (.n 4)) (.f [1]) rfl) (h 4 (by exact la [] [] [] (.l .n1 (.n 4)) (.f [1]) rfl) (by exact la [] [] [] (.l (.n 4) (.n 4)) (.f [1]) rfl))]
theorem tJ {e:jF} {K t:Nat->Nat} (hK:KindsOk K) (ht:∀ k,t k<2):gJ (jf e K t):=by
 have h1:∀ k,1<=k->k<=4->gJ (on (inR e k) (pc K t k)):=λk a b=>by
  cases inR e k with
  |false=>exact λø h=>by cases h
  |true=>exact(rA a b (fQ hK a b) (ht k)).2.2
 have h2:gJ (sG e):=by
  unfold sG
  cases Nat.ble e.f 2&&Nat.ble 3 e.l with
  |false=>exact λø h=>by cases h
  |true=>exact λc h=>by rw[ZG.mp h];decide
 have ap:∀ {u v:List Nat},gJ u->gJ v->gJ (u++v):=λhu hv c hc=>(Z1.mp hc).elim (hu c) (hv c)
 exact ap (h1 1 (by exact la [] [] [] (.l .n1 .n1) (.f [1]) rfl) (by exact la [] [] [] (.l .n1 (.n 4)) (.f [1]) rfl)) (ap (h1 2 (by exact la [] [] [] (.l .n1 .n2) (.f [1]) rfl) (by exact la [] [] [] (.l .n2 (.n 4)) (.f [1]) rfl)) (ap h2 (ap (h1 3 (by exact la [] [] [] (.l .n1 (.n 3)) (.f [1]) rfl) (by exact la [] [] [] (.l (.n 3) (.n 4)) (.f [1]) rfl)) (h1 4 (by exact la [] [] [] (.l .n1 (.n 4)) (.f [1]) rfl) (by exact la [] [] [] (.l (.n 4) (.n 4)) (.f [1]) rfl)))))
noncomputable def gA (K t u:Nat->Nat) (k:Nat):Nat:=if t k=u k then 0 else([1,2,3,2,4]:List Nat).getD (K k) 0
theorem rC {e:jF} {K t u:Nat->Nat} (hK:KindsOk K) (ht:∀ k,t k<2) (F:yI e t u) {k:Nat} (h1:1<=k) (h2:k<=4):Kr (xh e K k) (e.t.getD (k-1) 0) (e.u.getD (k-1) 0)=gA K t u k:=by
 have f:=F k h1 h2
 unfold Kr xh gA
 cases hr:inR e k with
 |false=>
  rw[hr] at f
  rw[if_pos (by simpa using f)]
  cases Nat.beq (e.t.getD (k-1) 0) (e.u.getD (k-1) 0)<;>rfl
 |true=>
  rw[hr] at f
  simp only[reduceIte] at f
  rw[<-f.1,<-f.2]
  by_cases q:t k=u k
  .rw[if_pos q,q,jW.mpr rfl];rfl
  .rw[if_neg q,rB.mpr q]
   exact(rA h1 h2 (fQ hK h1 h2) (ht k)).2.1
theorem jt {e:jF} (he:e∈lG) {K t u:Nat->Nat} (hK:KindsOk K) (ht:∀ k,t k<2) (hu:∀ k,u k<2) (F:yI e t u):
  ed (jf e K t) (jf e K u)=((gA K t u 1+gA K t u 2+gA K t u 3+gA K t u 4:Nat):Int)/\(jf e K t).headD 0≠(jf e K u).headD 0/\(jf e K t).getLastD 0≠(jf e K u).getLastD 0/\(e.f≠e.l->jf e K t≠[]/\jf e K u≠[]):=by
 have h:=J2 he hK
 have g:∀ k,1<=k->k<=4->inR e k=true->t k=e.t.getD (k-1) 0/\u k=e.u.getD (k-1) 0:=λk a b c=>by
  have:=F k a b
  rw[if_pos c] at this
  exact this
 unfold Iq at h
 rw[BW hK ht λk a b c=>(g k a b c).1,BW hK hu λk a b c=>(g k a b c).2] at h
 rw[show e.t.getD 0 0=e.t.getD (1-1) 0 from rfl,show e.t.getD 1 0=e.t.getD (2-1) 0 from rfl,show e.t.getD 2 0=e.t.getD (3-1) 0 from rfl,show e.t.getD 3 0=e.t.getD (4-1) 0 from rfl,show e.u.getD 0 0=e.u.getD (1-1) 0 from rfl,show e.u.getD 1 0=e.u.getD (2-1) 0 from rfl,show e.u.getD 2 0=e.u.getD (3-1) 0 from rfl,show e.u.getD 3 0=e.u.getD (4-1) 0 from rfl,
  rC hK ht F (by exact la [] [] [] (.l .n1 .n1) (.f [1]) rfl) (by exact la [] [] [] (.l .n1 (.n 4)) (.f [1]) rfl),rC hK ht F (by exact la [] [] [] (.l .n1 .n2) (.f [1]) rfl) (by exact la [] [] [] (.l .n2 (.n 4)) (.f [1]) rfl),rC hK ht F (by exact la [] [] [] (.l .n1 (.n 3)) (.f [1]) rfl) (by exact la [] [] [] (.l (.n 3) (.n 4)) (.f [1]) rfl),rC hK ht F (by exact la [] [] [] (.l .n1 (.n 4)) (.f [1]) rfl) (by exact la [] [] [] (.l (.n 4) (.n 4)) (.f [1]) rfl)] at h
 unfold MQ at h
 simp only[J0,BR,ZK,abe,Bool.not_eq_true',jW,rB] at h
 obtain⟨h1,h2,h3,h4⟩:=h
 refine⟨?_,h2,h3,λiw=>?_⟩
 .rw[<-Io (tJ hK ht) (tJ hK hu),h1]
 .rcases h4 with h4|⟨h4,h5⟩
  .exact absurd h4 iw
  .exact⟨GJ h4,GJ h5⟩
theorem GK {e:jF} (he:e∈lG) {K t u:Nat->Nat} (hK:KindsOk K) (ht:∀ k,t k<2) (hu:∀ k,u k<2) (F:yI e t u):ed (wd K t) (wd K u)=((gA K t u 1+gA K t u 2+gA K t u 3+gA K t u 4:Nat):Int):=by
 obtain⟨h1,h2,h3⟩:=js e he
 rw[gQ h1 h2 h3 K t,gQ h1 h2 h3 K u,<-ry F h1 h2 h3,<-rz F h1 h2 h3,wh,qW]
 exact(jt he hK ht hu F).1
theorem xi {e:jF} (he:e∈lG) {K t u:Nat->Nat} (hK:KindsOk K) (ht:∀ k,t k<2) (hu:∀ k,u k<2) (F:yI e t u) (ha:jf e K t≠[]) (hb:jf e K u≠[]):cj (wd K t) (wd K u)≠[]/\cj (wd K u) (wd K t)≠[]:=by
 obtain⟨h1,h2,h3⟩:=js e he
 obtain⟨_,d1,d2,_⟩:=jt he hK ht hu F
 rw[gQ h1 h2 h3 K t,gQ h1 h2 h3 K u,<-ry F h1 h2 h3,<-rz F h1 h2 h3]
 rw[tE ha hb d1 d2,tE hb ha (aaO d1) (aaO d2)]
 exact⟨ha,hb⟩
theorem xj {e:jF} (h:e.f=e.l) (h1:1<=e.f) (h4:e.f<=4) (K t:Nat->Nat):jf e K t=pc K t e.f:=by
 obtain⟨f,l,et,eu⟩:=e
 dsimp only at h h1 h4 ⊢
 subst h
 have:f=1\/f=2\/f=3\/f=4:=by exact la [_] [] [.l .n1 .v0,.l .v0 (.n 4)] (.r (.e .v0 .n1) (.r (.e .v0 .n2) (.r (.e .v0 (.n 3)) (.e .v0 (.n 4))))) (.o 0 (.o 2 (.o 3 (.f [1,0,0,0,1]) (.f [1,1])) (.o 1 (.f [1,1]) (.f [1,0,1]))) (.f [1,1])) rfl h1 h4
 rcases this with rfl|rfl|rfl|rfl<;>simp [jf,on,inR,sG,xg]
theorem tK:∀ k∈fm,∀ kind∈List.range 3,∀ t∈List.range 2,fb k kind t≠[]:=by decide+kernel
theorem piece_nil (k:Nat) {kind:Nat} (h:3<=kind):fb k kind 0=[]:=by
 rcases kind with _|_|_|_|n
 .cases h
 .exact absurd h (by decide)
 .exact absurd h (by decide)
 .rfl
 .rfl
theorem BX {e:jF} (he:e∈lG) {K t u:Nat->Nat} (hK:KindsOk K) (ht:∀ k,t k<2) (hu:∀ k,u k<2) (F:yI e t u) (h:e.f=e.l):
  (K e.f<=2->cj (wd K t) (wd K u)≠[]/\cj (wd K u) (wd K t)≠[])/\(3<=K e.f->cj (wd K t) (wd K u)=[]\/cj (wd K u) (wd K t)=[]):=by
 obtain⟨h1,h2,h3⟩:=js e he
 have e1:=xj h h1 (by exact la [_,_] [] [.e .v0 .v1,.l .v1 (.n 4)] (.l .v0 (.n 4)) (.f [1,0,1,1]) rfl h h3) K t
 have e2:=xj h h1 (by exact la [_,_] [] [.e .v0 .v1,.l .v1 (.n 4)] (.l .v0 (.n 4)) (.f [1,0,1,1]) rfl h h3) K u
 refine⟨λhk=>?_,λhk=>?_⟩
 .refine xi he hK ht hu F ?_ ?_
  .rw[e1];exact tK _ (fA h1 (by exact la [_,_] [] [.e .v0 .v1,.l .v1 (.n 4)] (.l .v0 (.n 4)) (.f [1,0,1,1]) rfl h h3)) _ (ZN.mpr (by exact la [_] [] [.l .v0 .n2] (.t .v0 (.n 3)) (.f [1,1]) rfl hk)) _ (ZN.mpr (ht _))
  .rw[e2];exact tK _ (fA h1 (by exact la [_,_] [] [.e .v0 .v1,.l .v1 (.n 4)] (.l .v0 (.n 4)) (.f [1,0,1,1]) rfl h h3)) _ (ZN.mpr (by exact la [_] [] [.l .v0 .n2] (.t .v0 (.n 3)) (.f [1,1]) rfl hk)) _ (ZN.mpr (hu _))
 .have hd:=(jt he hK ht hu F).2.1
  have iw:t e.f≠u e.f:=λq=>hd (by rw[e1,e2,fP q])
  have a:=ht e.f
  have b:=hu e.f
  rw[gQ h1 h2 h3 K t,gQ h1 h2 h3 K u,<-ry F h1 h2 h3,<-rz F h1 h2 h3,e1,e2]
  by_cases z:t e.f=0
  .left
   have:pc K t e.f=[]:=by unfold pc;rw[z];exact piece_nil _ hk
   rw[this,ZV]
   exact tG _ _ _
  .right
   have:pc K u e.f=[]:=by unfold pc;rw[show u e.f=0 by exact la [_,_] [] [.n (.e .v0 .v1),.t .v0 .n2,.t .v1 .n2,.n (.e .v0 .n0)] (.e .v1 .n0) (.o 1 (.o 0 (.f [1]) (.f [1,1,1])) (.o 2 (.f [1]) (.f [1,1,0,1]))) rfl iw a b z];exact piece_nil _ hk
   rw[this,ZV]
   exact tG _ _ _
noncomputable def u9 (P:List Nat) (i:Nat):List Nat:=fm.map λk=>(bs P i 0).count k
noncomputable def fitB (e:jF) (T U:List Nat):Bool:=fm.all λk=>bif inR e k then Nat.beq (T.getD (k-1) 0) (e.t.getD (k-1) 0)&&Nat.beq (U.getD (k-1) 0) (e.u.getD (k-1) 0) else Nat.beq (T.getD (k-1) 0) (U.getD (k-1) 0)
theorem BY:∀ P∈je,∀ i∈List.range 5,∀ j∈List.range 5,i=j\/(lG.any λe=>fitB e (u9 P i) (u9 P j)||fitB e (u9 P j) (u9 P i))=true:=by decide+kernel
noncomputable def tN (P:List Nat) (i:Nat) (k:Nat):Nat:=(bs P i 0).count k
noncomputable def kN (Kd:List Nat) (k:Nat):Nat:=Kd.getD k 0
theorem kG (P Kd:List Nat) (i:Nat):aP P Kd i=wd (kN Kd) (tN P i):=rfl
theorem xk (P:List Nat) (i:Nat) {k:Nat} (h1:1<=k) (h2:k<=4):(u9 P i).getD (k-1) 0=tN P i k:=by
 have:k=1\/k=2\/k=3\/k=4:=by exact la [_] [] [.l .n1 .v0,.l .v0 (.n 4)] (.r (.e .v0 .n1) (.r (.e .v0 .n2) (.r (.e .v0 (.n 3)) (.e .v0 (.n 4))))) (.o 0 (.o 2 (.o 3 (.f [1,0,0,0,1]) (.f [1,1])) (.o 1 (.f [1,1]) (.f [1,0,1]))) (.f [1,1])) rfl h1 h2
 rcases this with rfl|rfl|rfl|rfl<;>rfl
theorem BZ {e:jF} {P:List Nat} {i j:Nat} (h:fitB e (u9 P i) (u9 P j)=true):yI e (tN P i) (tN P j):=by
 intro k h1 h2
 have:=ZU.mp h k (fA h1 h2)
 rw[xk P i h1 h2,xk P j h1 h2] at this
 cases hr:inR e k with
 |true=>
  rw[hr] at this
  simp only[cond_true,ZK,jW] at this
  rw[if_pos rfl];exact this
 |false=>
  rw[hr] at this
  simp only[cond_false,jW] at this
  rw[if_neg (by decide)];exact this
theorem jg {P:List Nat} (T:Tree P) {i:Nat} (hi:i<5) (k:Nat):tN P i k<2:=aa1 (u8 T hi k)
theorem oh {P:List Nat} (T:Tree P) {i j:Nat} (hi:i<5) (hj:j<5):bs P i j=fm.filter λk=>tN P i k !=tN P j k:=BP P (c5 T) i hi j hj
theorem jh {P:List Nat} (T:Tree P) {i j:Nat} (hi:i<5) (hj:j<5):bs P j i=bs P i j:=by
 rw[oh T hi hj,oh T hj hi]
 congr 1
 funext k
 exact bne_comm
theorem sum_filter (f:Nat->Nat) (p:Nat->Bool) (l:List Nat):((l.filter p).map f).sum=(l.map λk=>if p k=true then f k else 0).sum:=by
 induction l with
 |nil=>rfl
 |cons x l ih=>
  rw[List.filter_cons,List.map_cons,aaS,<-ih]
  by_cases h:p x=true
  .rw[if_pos h,if_pos h];exact aaS
  .rw[if_neg h,if_neg h,aau]
noncomputable def rD (Kd L:List Nat):Prop:=∀ k,1<=k->k<=4->L.getD k 0=([1,2,3,2,4]:List Nat).getD (kN Kd k) 0
theorem ji {P Kd L:List Nat} (T:Tree P) (hL:rD Kd L) {i j:Nat} (hi:i<5) (hj:j<5):bL L (bs P i j)=gA (kN Kd) (tN P i) (tN P j) 1+gA (kN Kd) (tN P i) (tN P j) 2+gA (kN Kd) (tN P i) (tN P j) 3+gA (kN Kd) (tN P i) (tN P j) 4:=by
 have pI:∀ k,1<=k->k<=4->(if(tN P i k !=tN P j k)=true then L.getD k 0 else 0)=gA (kN Kd) (tN P i) (tN P j) k:=λk a b=>by
  unfold gA
  rw[hL k a b]
  by_cases q:tN P i k=tN P j k
  .rw[if_pos q,if_neg (by simp [q])]
  .rw[if_neg q,if_pos (by simp [q])]
 rw[oh T hi hj]
 show((fm.filter λk=>tN P i k !=tN P j k).map λe=>L.getD e 0).sum=_
 rw[sum_filter]
 show(if(tN P i 1 !=tN P j 1)=true then L.getD 1 0 else 0)+((if(tN P i 2 !=tN P j 2)=true then L.getD 2 0 else 0)+((if(tN P i 3 !=tN P j 3)=true then L.getD 3 0 else 0)+((if(tN P i 4 !=tN P j 4)=true then L.getD 4 0 else 0)+0)))=_
 rw[pI 1 (by exact la [] [] [] (.l .n1 .n1) (.f [1]) rfl) (by exact la [] [] [] (.l .n1 (.n 4)) (.f [1]) rfl),pI 2 (by exact la [] [] [] (.l .n1 .n2) (.f [1]) rfl) (by exact la [] [] [] (.l .n2 (.n 4)) (.f [1]) rfl),pI 3 (by exact la [] [] [] (.l .n1 (.n 3)) (.f [1]) rfl) (by exact la [] [] [] (.l (.n 3) (.n 4)) (.f [1]) rfl),pI 4 (by exact la [] [] [] (.l .n1 (.n 4)) (.f [1]) rfl) (by exact la [] [] [] (.l (.n 4) (.n 4)) (.f [1]) rfl)]
 exact la [_,_,_,_] [] [] (.e (.a .v0 (.a .v1 (.a .v2 (.a .v3 .n0)))) (.a (.a (.a .v0 .v1) .v2) .v3)) (.o 0 (.f [1]) (.f [1])) rfl
theorem rE {P:List Nat} (T:Tree P) {i j:Nat} (hi:i<5) (hj:j<5) (iw:i≠j):∃ e∈lG,yI e (tN P i) (tN P j)\/yI e (tN P j) (tN P i):=by
 rcases BY P (c5 T) i (ZN.mpr hi) j (ZN.mpr hj) with h|h
 .exact absurd h iw
 .obtain⟨e,he,h⟩:=List.any_eq_true.mp h
  rcases Bool.or_eq_true_iff.mp h with h|h
  .exact⟨e,he,.inl (BZ h)⟩
  .exact⟨e,he,.inr (BZ h)⟩
theorem EI:∀ e∈lG,e.t.getD (e.f-1) 0≠e.u.getD (e.f-1) 0/\e.t.getD (e.l-1) 0≠e.u.getD (e.l-1) 0:=by decide+kernel
section
variable {P Kd L:List Nat} (T:Tree P) (hK:KindsOk (kN Kd)) (hL:rD Kd L)
include T hK hL
theorem jj {i j:Nat} (hi:i<5) (hj:j<5):ed (aP P Kd i) (aP P Kd j)=(bL L (bs P i j):Nat):=by
 by_cases q:i=j
 .subst q
  rw[mP,ji T hL hi hi]
  simp [gA]
 .rw[kG,kG]
  obtain⟨e,he,F|F⟩:=rE T hi hj q
  .rw[GK he hK (jg T hi) (jg T hj) F,ji T hL hi hj]
  .rw[hV,GK he hK (jg T hj) (jg T hi) F,<-jh T hi hj,ji T hL hj hi]
end
theorem vc {e:jF} (he:e∈lG) {t u:Nat->Nat} (F:yI e t u):t e.f≠u e.f/\t e.l≠u e.l:=by
 obtain⟨h1,h2,h3⟩:=js e he
 obtain⟨a,b⟩:=EI e he
 have f1:=F e.f h1 (by exact la [_,_] [] [.l .v0 .v1,.l .v1 (.n 4)] (.l .v0 (.n 4)) (.f [1,1,1]) rfl h2 h3)
 have f2:=F e.l (by exact la [_,_] [] [.l .n1 .v0,.l .v0 .v1] (.l .n1 .v1) (.f [1,1,1]) rfl h1 h2) h3
 rw[if_pos (by simp only[inR,ZK,abo];omega)] at f1 f2
 exact⟨by rw[f1.1,f1.2];exact a,by rw[f2.1,f2.2];exact b⟩
theorem EJ {l:List Nat} {x y:Nat} (hx:x∈l) (hy:y∈l) (h:x≠y):2<=l.length:=by
 rcases l with _|⟨a,_|⟨b,l⟩⟩
 .cases hx
 .exact absurd ((ZG.mp hx).trans (ZG.mp hy).symm) h
 .exact Nat.le_add_left 2 _
theorem EK {P:List Nat} (T:Tree P) {i j:Nat} (hi:i<5) (hj:j<5) {e:jF} (he:e∈lG) (F:yI e (tN P i) (tN P j)):(e.f=e.l->bs P i j=[e.f])/\(e.f≠e.l->2<=(bs P i j).length):=by
 obtain⟨h1,h2,h3⟩:=js e he
 obtain⟨a,b⟩:=vc he F
 rw[oh T hi hj]
 refine⟨λh=>?_,λh=>?_⟩
 .obtain⟨p,hp⟩:∃ p:Nat->Bool,p=λk=>tN P i k !=tN P j k:=⟨_,rfl⟩
  rw[<-hp]
  have out:∀ k,1<=k->k<=4->k≠e.f->p k=false:=λk a b r=>by
   have:=F k a b
   rw[if_neg (by simp only[inR,ZK,abo];omega)] at this
   rw[hp];simp [this]
  have xJ:p e.f=true:=by rw[hp];simpa using a
  have e4:e.f=1\/e.f=2\/e.f=3\/e.f=4:=by exact la [_,_] [] [.l .n1 .v0,.l .v0 .v1,.l .v1 (.n 4)] (.r (.e .v0 .n1) (.r (.e .v0 .n2) (.r (.e .v0 (.n 3)) (.e .v0 (.n 4))))) (.o 0 (.o 2 (.o 3 (.f [1,0,0,0,0,1]) (.f [1,1])) (.o 1 (.f [1,1]) (.f [1,0,1]))) (.f [1,1,1])) rfl h1 h2 h3
  rcases e4 with q|q|q|q<;>rw[q] at out xJ ⊢
  .simp [fm,xJ,out 2,out 3,out 4]
  .simp [fm,xJ,out 1,out 3,out 4]
  .simp [fm,xJ,out 1,out 2,out 4]
  .simp [fm,xJ,out 1,out 2,out 3]
 .have m1:e.f∈fm.filter λk=>tN P i k !=tN P j k:=List.mem_filter.mpr ⟨fA h1 (by exact la [_,_] [] [.l .v0 .v1,.l .v1 (.n 4)] (.l .v0 (.n 4)) (.f [1,1,1]) rfl h2 h3),by simpa using a⟩
  have m2:e.l∈fm.filter λk=>tN P i k !=tN P j k:=List.mem_filter.mpr ⟨fA (by exact la [_,_] [] [.l .n1 .v0,.l .v0 .v1] (.l .n1 .v1) (.f [1,1,1]) rfl h1 h2) h3,by simpa using b⟩
  exact EJ m1 m2 h
section
variable {P Kd L:List Nat} (T:Tree P) (hK:KindsOk (kN Kd)) (hL:rD Kd L)
include T hK hL
theorem ju {i:Nat} (hi:i<5):(aP P Kd i).length<=40:=by
 have:=qw (P:=P) (Kd:=Kd) (n:=i) λk=>u8 T hi k
 exact la [_] [] [.l .v0 (.n 9)] (.l .v0 (.n 40)) (.f [1,1]) rfl this
theorem tL {i j:Nat} (hi:i<5) (hj:j<5) (h:bs P i j=[]):aP P Kd i=aP P Kd j:=by
 refine Dd _ _ ?_
 rw[jj T hK hL hi hj,h];rfl
theorem vd {i j:Nat} (hi:i<5) (hj:j<5):bL L (bs P i j)<=16:=by
 rw[ji T hL hi hj]
 have pI:∀ k,1<=k->k<=4->gA (kN Kd) (tN P i) (tN P j) k<=4:=λk a b=>by
  have h5:=fQ hK a b
  unfold gA
  split
  .exact la [] [] [] (.l .n0 (.n 4)) (.f [1]) rfl
  .generalize kN Kd k=x at*
   revert h5;revert x;decide
 have:=pI 1 (by exact la [] [] [] (.l .n1 .n1) (.f [1]) rfl) (by exact la [] [] [] (.l .n1 (.n 4)) (.f [1]) rfl)
 have:=pI 2 (by exact la [] [] [] (.l .n1 .n2) (.f [1]) rfl) (by exact la [] [] [] (.l .n2 (.n 4)) (.f [1]) rfl)
 have:=pI 3 (by exact la [] [] [] (.l .n1 (.n 3)) (.f [1]) rfl) (by exact la [] [] [] (.l (.n 3) (.n 4)) (.f [1]) rfl)
 have:=pI 4 (by exact la [] [] [] (.l .n1 (.n 4)) (.f [1]) rfl) (by exact la [] [] [] (.l (.n 4) (.n 4)) (.f [1]) rfl)
 exact la [_,_,_,_] [] [.l .v0 (.n 4),.l .v1 (.n 4),.l .v2 (.n 4),.l .v3 (.n 4)] (.l (.a (.a (.a .v0 .v1) .v2) .v3) (.n 16)) (.f [1,1,1,1,1]) rfl ‹_› ‹_› ‹_› this
theorem xl {i j:Nat} (hi:i<5) (hj:j<5) (h:bs P i j≠[]):aP P Kd i≠aP P Kd j/\0<bL L (bs P i j):=by
 have iw:i≠j:=by
  rintro rfl
  refine h ?_
  rw[oh T hi hi]
  simp
 have hp:0<bL L (bs P i j):=by
  obtain⟨e,he,F⟩:=rE T hi hj iw
  obtain⟨h1,h2,h3⟩:=js e he
  have hd:tN P i e.f≠tN P j e.f:=F.elim (λF=>(vc he F).1) λF=>aaO (vc he F).1
  rw[ji T hL hi hj]
  have h5:=fQ hK h1 (show e.f<=4 by exact la [_,_] [] [.l .v0 .v1,.l .v1 (.n 4)] (.l .v0 (.n 4)) (.f [1,1,1]) rfl h2 h3)
  have:0<gA (kN Kd) (tN P i) (tN P j) e.f:=by
   unfold gA
   rw[if_neg hd]
   generalize kN Kd e.f=x at*
   revert h5;revert x;decide
  have e4:e.f=1\/e.f=2\/e.f=3\/e.f=4:=by exact la [_,_] [] [.l .n1 .v0,.l .v0 .v1,.l .v1 (.n 4)] (.r (.e .v0 .n1) (.r (.e .v0 .n2) (.r (.e .v0 (.n 3)) (.e .v0 (.n 4))))) (.o 0 (.o 2 (.o 3 (.f [1,0,0,0,0,1]) (.f [1,1])) (.o 1 (.f [1,1]) (.f [1,0,1]))) (.f [1,1,1])) rfl h1 h2 h3
  rcases e4 with q|q|q|q<;>rw[q] at this<;>(first|exact la [_,_,_,_] [] [.t .n0 .v0] (.t .n0 (.a (.a (.a .v0 .v1) .v2) .v3)) (.f [1,1]) rfl this|exact la [_,_,_,_] [] [.t .n0 .v0] (.t .n0 (.a (.a (.a .v1 .v0) .v2) .v3)) (.f [1,1]) rfl this|exact la [_,_,_,_] [] [.t .n0 .v0] (.t .n0 (.a (.a (.a .v1 .v2) .v0) .v3)) (.f [1,1]) rfl this|exact la [_,_,_,_] [] [.t .n0 .v0] (.t .n0 (.a (.a (.a .v1 .v2) .v3) .v0)) (.f [1,1]) rfl this)
 refine⟨λq=>?_,hp⟩
 have:=jj T hK hL hi hj
 rw[q,mP] at this
 exact la [_] [] [.t .n0 .v0,.E .n0 (.c .v0)] .f (.f [1,0,1]) rfl hp this
theorem oi {i j:Nat} (hi:i<5) (hj:j<5) (r:Nat) (hr:r<3):qV (aP P Kd i) (aP P Kd j) ((bL L (bs P i j):Nat)-1+(r:Nat))=(bL L (bs P i j):Nat):=by
 have hs:=vd T hK hL hi hj
 rw[Il (ju T hK hL hi) (ju T hK hL hj) (by exact la [_,_] [] [.t .v0 (.n 3),.l .v1 (.n 16)] (.T (.a (.s (.c .v1) .n1) (.c .v0)) (.n 9223372036854775807)) (.f [1,1,1]) rfl hr hs) (by rw[jj T hK hL hi hj];exact la [_,_] [] [] (.L (.c .v0) (.a (.a (.s (.c .v0) .n1) (.c .v1)) .n1)) (.f [1]) rfl),jj T hK hL hi hj]
theorem oj {i j:Nat} (hi:i<5) (hj:j<5):qV (aP P Kd i) (aP P Kd j) 0=(d6 Kd L (bs P i j):Nat):=by
 by_cases h:bs P i j=[]
 .unfold qV d6
  rw[if_pos (tL T hK hL hi hj h),if_pos (.inl h),h];rfl
 .have iw:=(xl T hK hL hi hj h).1
  have kP:i≠j:=λq=>iw (by rw[q])
  --U9 YX P9 Wy have KS left,Dz of YY,or pI is YX md with a Wz Zp in
  have vn:(∃ e:Nat,bs P i j=[e]/\3<=kN Kd e/\(cj (aP P Kd i) (aP P Kd j)=[]\/cj (aP P Kd j) (aP P Kd i)=[]))\/
    ((2<=(bs P i j).length\/∃ e:Nat,bs P i j=[e]/\kN Kd e<=2)/\cj (aP P Kd i) (aP P Kd j)≠[]/\cj (aP P Kd j) (aP P Kd i)≠[]):=by
   have main:∀ {a b:Nat},a<5->b<5->∀ {e:jF},e∈lG->yI e (tN P a) (tN P b)->(∃ e:Nat,bs P a b=[e]/\3<=kN Kd e/\(cj (aP P Kd a) (aP P Kd b)=[]\/cj (aP P Kd b) (aP P Kd a)=[]))\/
    ((2<=(bs P a b).length\/∃ e:Nat,bs P a b=[e]/\kN Kd e<=2)/\cj (aP P Kd a) (aP P Kd b)≠[]/\cj (aP P Kd b) (aP P Kd a)≠[]):=by
    intro a b ha hb e he F
    have w:=EK T ha hb he F
    rw[kG,kG]
    by_cases q:e.f=e.l
    .obtain⟨t1,t2⟩:=BX he hK (jg T ha) (jg T hb) F q
     by_cases z:kN Kd e.f<=2
     .exact .inr ⟨.inr ⟨e.f,w.1 q,z⟩,t1 z⟩
     .exact .inl ⟨e.f,w.1 q,by exact la [_] [] [.n (.l .v0 .n2)] (.l (.n 3) .v0) (.f [1,1]) rfl z,t2 (by exact la [_] [] [.n (.l .v0 .n2)] (.l (.n 3) .v0) (.f [1,1]) rfl z)⟩
    .obtain⟨ma,mb⟩:=(jt he hK (jg T ha) (jg T hb) F).2.2.2 q
     exact .inr ⟨.inl (w.2 q),xi he hK (jg T ha) (jg T hb) F ma mb⟩
   obtain⟨e,he,F|F⟩:=rE T hi hj kP
   .exact main hi hj he F
   .rcases main hj hi he F with⟨k,a,b,c⟩|⟨a,b,c⟩
    .exact .inl ⟨k,by rw[<-jh T hi hj];exact a,b,c.symm⟩
    .exact .inr ⟨by rw[<-jh T hi hj];exact a,c,b⟩
  unfold d6
  rcases vn with⟨e,a,b,c⟩|⟨a,b,c⟩
  .rw[if_pos (.inr ⟨by rw[a];rfl,by rw[a];show 2<kN Kd e;exact la [_] [] [.l (.n 3) .v0] (.t .n2 .v0) (.f [1,1]) rfl b⟩),Di iw c,jj T hK hL hi hj]
  .rw[if_neg,Dh (ju T hK hL hi) (ju T hK hL hj) iw b c]
   .rfl
   .rintro(q|⟨q1,q2⟩)
    .exact h q
    .rcases a with a|⟨e,a1,a2⟩
     .exact la [_] [] [.e .v0 .n1,.l .n2 .v0] .f (.f [1,0,1]) rfl q1 a
     .rw[a1] at q2
      have q2:2<kN Kd e:=q2
      exact la [_] [] [.l .v0 .n2,.t .n2 .v0] .f (.f [1,1]) rfl a2 q2
theorem EL {i j:Nat} (hi:i<5) (hj:j<5):d6 Kd L (bs P i j)<=16:=by
 unfold d6
 have:=vd T hK hL hi hj
 split<;>(first|exact la [_] [] [.l .v0 (.n 16)] (.l .v0 (.n 16)) (.f [1,1]) rfl this|exact la [] [] [] (.l .n1 (.n 16)) (.f [1]) rfl)
theorem xm {i:Nat} (hi:i<5):∀ c∈aP P Kd i,c≠45:=by
 have h1:∀ k,1<=k->k<=4->gJ (pc (kN Kd) (tN P i) k):=λk a b=>(rA a b (fQ hK a b) (jg T hi k)).2.2
 have h0:∀ c∈qX,c≠45:=by decide
 intro c hc
 refine h0 c ?_
 have hc:c∈wd (kN Kd) (tN P i):=hc
 unfold wd at hc
 simp only[Z1,ZG] at hc
 rcases hc with(((hc|hc)|hc)|hc)|hc
 .exact h1 1 (by exact la [] [] [] (.l .n1 .n1) (.f [1]) rfl) (by exact la [] [] [] (.l .n1 (.n 4)) (.f [1]) rfl) c hc
 .exact h1 2 (by exact la [] [] [] (.l .n1 .n2) (.f [1]) rfl) (by exact la [] [] [] (.l .n2 (.n 4)) (.f [1]) rfl) c hc
 .rw[hc];decide
 .exact h1 3 (by exact la [] [] [] (.l .n1 (.n 3)) (.f [1]) rfl) (by exact la [] [] [] (.l (.n 3) (.n 4)) (.f [1]) rfl) c hc
 .exact h1 4 (by exact la [] [] [] (.l .n1 (.n 4)) (.f [1]) rfl) (by exact la [] [] [] (.l (.n 4) (.n 4)) (.f [1]) rfl) c hc
theorem yJ {i j:Nat} (hi:i<5) (hj:j<5):qV (eJ (aP P Kd i)) (eJ (aP P Kd j)) 30=if bs P i j=[] then 0 else 31:=by
 by_cases h:bs P i j=[]
 .rw[if_pos h,tL T hK hL hi hj h]
  unfold qV
  rw[if_pos rfl]
 .rw[if_neg h]
  exact Dj (xl T hK hL hi hj h).1 (xm T hK hL hi) (xm T hK hL hj)
theorem EM {sh bg:Nat} (hs:sh<9) {i j:Nat} (hi:i<5) (hj:j<5):lv P Kd L sh bg i j:=by
 have s2:(bg+j)%2=0\/(bg+j)%2=1:=by exact la [_,_] [] [] (.r (.e (.r (.a .v0 .v1) 2) .n0) (.e (.r (.a .v0 .v1) 2) .n1)) (.k true (.r (.a .v0 .v1) 2) (.k true (.d (.a .v0 .v1) 2) (.o 0 (.o 1 (.f [1]) (.f [1,1])) (.f [1,0,0,0,0,1])))) rfl
 refine⟨EC T hi hj hs,?_,?_,yJ T hK hL hi hj⟩
 .rcases s2 with q|q<;>rw[q]<;>unfold ir
  .exact oi T hK hL hi hj _ (by exact la [_,_,_] [] [] (.t (.r (.a (.a .v0 .v1) .v2) 3) (.n 3)) (.k true (.r (.a (.a .v0 .v1) .v2) 3) (.f [0,0,1,0,1])) rfl)
  .have:=oi T hK hL hj hi ((bg+i+j)%3) (by exact la [_,_,_] [] [] (.t (.r (.a (.a .v0 .v1) .v2) 3) (.n 3)) (.k true (.r (.a (.a .v0 .v1) .v2) 3) (.f [0,0,1,0,1])) rfl)
   rw[jh T hi hj] at this
   exact this
 .rcases s2 with q|q<;>rw[q]<;>unfold ir
  .have:=oj T hK hL hj hi
   rw[jh T hi hj] at this
   exact this
  .exact oj T hK hL hi hj
theorem J3 {sh bg:Nat} (hs:sh<9):w9 P Kd L sh bg:=by
 refine⟨λcP hn k=>u8 T hn k,λp hp=>?_⟩
 have hb:p.1<5/\p.2<5:=(by decide:∀ p∈i9,p.1<5/\p.2<5) p hp
 exact⟨vd T hK hL hb.1 hb.2,EL T hK hL hb.1 hb.2,EM T hK hL hs hb.1 hb.2⟩
end
theorem yK (x y:Nat):Builtin.bitOr (x:Int) (y:Int)=((x|||y:Nat):Int):=by
 unfold Builtin.bitOr Builtin.bitAnd Builtin.bitNot
 have h1:decide ((0:Int)<= -(x:Int)-1)=false:=by simp;exact la [_] [] [] (.T (.g (.c .v0)) .n1) (.f [1]) rfl
 have h2:decide ((0:Int)<= -(y:Int)-1)=false:=by simp;exact la [_] [] [] (.T (.g (.c .v0)) .n1) (.f [1]) rfl
 rw[h1,h2]
 have e1:(-(-(x:Int)-1)-1).toNat=x:=by exact la [_] [] [] (.e (.t (.s (.g (.s (.g (.c .v0)) .n1)) .n1)) .v0) (.o 0 (.k true (.t (.s (.g (.s (.g (.c .v0)) .n1)) .n1)) (.o 0 (.f [1,0,0,1]) (.f [0,0,1,1]))) (.k true (.t (.s (.g (.s (.g (.c .v0)) .n1)) .n1)) (.o 0 (.f [0,1,0,1]) (.f [0,1,0,1])))) rfl
 have e2:(-(-(y:Int)-1)-1).toNat=y:=by exact la [_] [] [] (.e (.t (.s (.g (.s (.g (.c .v0)) .n1)) .n1)) .v0) (.o 0 (.k true (.t (.s (.g (.s (.g (.c .v0)) .n1)) .n1)) (.o 0 (.f [1,0,0,1]) (.f [0,0,1,1]))) (.k true (.t (.s (.g (.s (.g (.c .v0)) .n1)) .n1)) (.o 0 (.f [0,1,0,1]) (.f [0,1,0,1])))) rfl
 simp only[e1,e2]
 exact la [_] [] [] (.E (.s (.g (.s (.g (.c .v0)) .n1)) .n1) (.c .v0)) (.o 0 (.f [1]) (.f [1])) rfl
theorem B0 {v f:Nat} (h:f<64):Builtin.bitOr ((v:Int)*2^(6:Int).toNat) (f:Int)=((v*64+f:Nat):Int):=by
 have e:(v:Int)*2^(6:Int).toNat=((v*64:Nat):Int):=by
  have:(2:Int)^(6:Int).toNat=64:=by decide
  rw[this];exact la [_] [] [] (.E (.M (.c .v0) 64) (.c (.M .v0 64))) (.o 0 (.f [1]) (.f [1])) rfl
 rw[e,yK]
 have:=Nat.shiftLeft_add_eq_or_of_lt (i:=6) h v
 rw[Nat.shiftLeft_eq] at this
 rw[<-this]
theorem tM:∀ o∈List.range 128,∀ p∈List.range 2,(o+128*p)&&& 63=o%64/\((o+128*p)&&& 64=if o<64 then 0 else 64):=by decide+kernel
theorem rF {o p:Nat} (h:o<128) (hp:p<2):Builtin.bitAnd ((o+128*p:Nat):Int) 63=((o%64:Nat):Int):=by
 rw[show(63:Int)=((63:Nat):Int) from rfl,jU,(tM o (ZN.mpr h) p (ZN.mpr hp)).1]
theorem rG {o p:Nat} (h:o<128) (hp:p<2):Builtin.bitAnd ((o+128*p:Nat):Int) 64=if o<64 then 0 else 64:=by
 rw[show(64:Int)=((64:Nat):Int) from rfl,jU,(tM o (ZN.mpr h) p (ZN.mpr hp)).2]
 split<;>rfl
theorem EO (l:List Nat):∀ (j i:Nat),(ks j l)[i]? =(l[i]?).map λo=>o+128*((j+i)%2):=by
 induction l with
 |nil=>exact λø ø=>rfl
 |cons o l ih=>intro j i;cases i with
  |zero=>rfl
  |succ i=>exact(ih (j+1) i).trans (by rw[aaA,aao 1 i];rfl)
noncomputable def mJ (T:List Int) (l:List Nat):Prop:=(∀ o∈l,o<128)/\∀ i,T[i]? =(l[i]?).map λo=>((o+128*(i%2):Nat):Int)
theorem xn (l:List Nat) (h:∀ o∈l,o<128):mJ (ah (ks 0 l)) l:=by
 refine⟨h,λi=>?_⟩
 unfold ah
 rw[Z9,EO,aau]
 cases l[i]? <;>rfl
theorem mJ.last {T:List Int} {l:List Nat} (t:mJ T l) (hl:T.length=l.length):mJ T.dropLast l.dropLast:=by
 refine⟨λo ho=>t.1 o ((List.dropLast_sublist _).subset ho),λi=>?_⟩
 rw[List.getElem?_dropLast,List.getElem?_dropLast,hl]
 split
 .exact t.2 i
 .rfl
theorem mJ.at {T:List Int} {l:List Nat} (t:mJ T l) {i o:Nat} (h:l[i]? =some o):T[i]? =some ((o+128*(i%2):Nat):Int)/\o<128/\i%2<2:=by
 refine⟨by rw[t.2 i,h];rfl,t.1 o (ZE h),Z5 _ (by decide)⟩
theorem mJ.none {T:List Int} {l:List Nat} (t:mJ T l) {i:Nat} (h:l[i]? =none):T[i]? =none:=by rw[t.2 i,h];rfl
theorem om {v:Nat} (h:v<2^100):bl (v:Int)<=1000:=Zu (dL (n:=100) (by simpa using h)) (by decide)
theorem B1 {T:List Int} {l:List Nat} (t:mJ T l):∀ (fs:List Nat) (k pos val o p:Nat) (f:Nat),fs.length<k->o<128->p<2->(val+1)*64^fs.length<=2^60->
  (64<=o->∃ gs,fs=gs++[f]/\(∀ g∈gs,64<=g/\g<128)/\f<64)->(o<64->fs=[])->(∀ j g,fs[j]? =some g->l[pos+j]? =some g)->
  IE T k pos val ((o+128*p:Nat):Int)=some (((fs.foldl (λa g=>a*64+g%64) val:Nat):Int),pos+fs.length)
 | [],k+1,pos,val,o,p,f,_,ho,hp,hv,h1,h2,h3=>by
  have hs:o<64:=by
   rcases Nat.lt_or_ge o 64 with h|h
   .exact h
   .obtain⟨gs,e,_⟩:=h1 h
    exact absurd (congrArg List.length e) (by simp)
  rw[IE,rG ho hp,if_pos (by rw[if_pos hs])]
  rfl
 |g::fs,k+1,pos,val,o,p,f,hk,ho,hp,hv,h1,h2,h3=>by
  have Va:(val*64+g%64+1)*64^fs.length<=2^60:=by
   refine Zu (aat _ (show val*64+g%64+1<=(val+1)*64 by have:=Z5 g (show 64>0 by decide);exact la [_,_] [] [] (.l (.a (.a (.M .v0 64) (.r .v1 64)) .n1) (.M (.a .v0 .n1) 64)) (.k true (.r .v1 64) (.f [0,0,1,0,1])) rfl)) ?_
   rw[Nat.mul_assoc,<-Nat.pow_succ']
   exact hv
  have Vb:val<2^100:=by
   have:val+1<=2^60:=Zu (Nat.le_mul_of_pos_right _ (Nat.pow_pos (by decide))) hv
   exact ZD this (by decide)
  have hb:64<=o:=by
   rcases Nat.lt_or_ge o 64 with h|h
   .cases h2 h
   .exact h
  obtain⟨gs,e,hg,hf⟩:=h1 hb
  rw[IE,rG ho hp,if_neg (by rw[if_neg (by exact la [_] [] [.l (.n 64) .v0] (.n (.t .v0 (.n 64))) (.f [1,1]) rfl hb)];decide),if_pos (om Vb)]
  have J4:l[pos]? =some g:=by have:=h3 0 g rfl;simpa using this
  obtain⟨a,b,c⟩:=t.at J4
  rw[a]
  dsimp only
  rw[rF b c,B0 (Z5 _ (by decide))]
  have ih:=B1 t fs k (pos+1) (val*64+g%64) g (pos%2) f (by simp at hk;exact la [_,_] [] [.t .v0 .v1] (.t .v0 .v1) (.f [1,1]) rfl hk) b c Va (λh=>?_) (λh=>?_) (λj x hj=>?_)
  .rw[ih,abd,ZL]
   congr 2
   exact la [_,_] [] [] (.e (.a (.a .v0 .n1) .v1) (.a .v0 (.a .v1 .n1))) (.o 0 (.f [1]) (.f [1])) rfl
  .cases gs with
   |nil=>
    simp at e
    exact(la [_,_] [] [.t .v0 (.n 64),.l (.n 64) .v1,.e .v1 .v0] .f (.f [0,1,1,1]) rfl hf h e.1).elim
   |cons y gs=>
    simp at e
    exact⟨gs,e.2,λz hz=>hg z (.tail _ hz),hf⟩
  .cases gs with
   |nil=>simp at e;exact e.2
   |cons y gs=>
    simp at e
    have:=hg y (.head _)
    exact(la [_,_] [] [.t .v0 (.n 64),.e .v0 .v1,.l (.n 64) .v1] .f (.f [1,1,0,1]) rfl h e.1 this.1).elim
  .have:=h3 (j+1) x (by simpa using hj)
   rw[show pos+1+j=pos+(j+1) by exact la [_,_] [] [] (.e (.a (.a .v0 .n1) .v1) (.a .v0 (.a .v1 .n1))) (.o 0 (.f [1]) (.f [1])) rfl];exact this
theorem B2 {T:List Int} {l:List Nat} (t:mJ T l):∀ (fs:List Nat) (k pos val o p:Nat),fs.length<k->64<=o->o<128->p<2->(val+1)*64^fs.length<=2^60->(∀ g∈fs,64<=g/\g<128)->(∀ j,l[pos+j]? =fs[j]?)->
  PX T k pos val ((o+128*p:Nat):Int)
 | [],k+1,pos,val,o,p,_,J5,ho,hp,hv,hf,h3=>by
  refine⟨by rw[rG ho hp,if_neg (by exact la [_] [] [.l (.n 64) .v0] (.n (.t .v0 (.n 64))) (.f [1,1]) rfl J5)];decide,om (ZD (show val<2^60 by rw[abi,Nat.pow_zero,Nat.mul_one] at hv;exact hv) (by decide)),.inl (t.none (by have:=h3 0;simpa using this))⟩
 |g::fs,k+1,pos,val,o,p,hk,J5,ho,hp,hv,hf,h3=>by
  have Va:(val*64+g%64+1)*64^fs.length<=2^60:=by
   refine Zu (aat _ (show val*64+g%64+1<=(val+1)*64 by have:=Z5 g (show 64>0 by decide);exact la [_,_] [] [] (.l (.a (.a (.M .v0 64) (.r .v1 64)) .n1) (.M (.a .v0 .n1) 64)) (.k true (.r .v1 64) (.f [0,0,1,0,1])) rfl)) ?_
   rw[Nat.mul_assoc,<-Nat.pow_succ']
   exact hv
  have Vb:val<2^100:=by
   have:val+1<=2^60:=Zu (Nat.le_mul_of_pos_right _ (Nat.pow_pos (by decide))) hv
   exact ZD this (by decide)
  have J4:l[pos]? =some g:=by have:=h3 0;simpa using this
  obtain⟨a,b,c⟩:=t.at J4
  refine⟨by rw[rG ho hp,if_neg (by exact la [_] [] [.l (.n 64) .v0] (.n (.t .v0 (.n 64))) (.f [1,1]) rfl J5)];decide,om Vb,.inr ⟨_,a,?_⟩⟩
  rw[rF b c,B0 (Z5 _ (by decide))]
  exact B2 t fs k (pos+1) _ g _ (by simp at hk;exact la [_,_] [] [.t .v0 .v1] (.t .v0 .v1) (.f [1,1]) rfl hk) (hf g (.head _)).1 b c Va (λx hx=>hf x (.tail _ hx)) λj=>by
   have:=h3 (j+1)
   rw[show pos+1+j=pos+(j+1) by exact la [_,_] [] [] (.e (.a (.a .v0 .n1) .v1) (.a .v0 (.a .v1 .n1))) (.o 0 (.f [1]) (.f [1])) rfl,this];rfl
theorem qA (v:Nat) (hv:v<64^3):∃ (gs:List Nat) (f:Nat),fL v=gs++[f]/\gs.length<=2/\(∀ g∈gs,64<=g/\g<128)/\f<64/\(fL v).foldl (λa g=>a*64+g%64) 0=v:=by
 unfold fL
 by_cases h:4096<=v
 .rw[if_pos h]
  refine⟨[64+v/4096%64,64+v/64%64],v%64,rfl,by simp,λg hg=>?_,Z5 _ (by decide),?_⟩
  .simp only[ZF,aaG,or_false] at hg
   exact la [_,_] [] [.r (.e .v0 (.a (.n 64) (.r (.d .v1 4096) 64))) (.e .v0 (.a (.n 64) (.r (.d .v1 64) 64)))] (.a (.l (.n 64) .v0) (.t .v0 (.n 128))) (.k true (.r (.d .v1 4096) 64) (.k true (.d .v1 4096) (.k true (.d (.d .v1 4096) 64) (.k true (.r (.d .v1 64) 64) (.k true (.d .v1 64) (.k true (.d (.d .v1 64) 64) (.o 0 (.o 1 (.f [1,1]) (.f [1,0,1,0,0,0,0,0,0,0,0,0,0,0,0,0,0,1])) (.o 1 (.f [1,1]) (.f [1,0,1,0,0,0,0,0,0,1]))))))))) rfl hg
  .simp only[abd,List.foldl_nil];omega
 .rw[if_neg h]
  by_cases h2:64<=v
  .rw[if_pos h2]
   refine⟨[64+v/64%64],v%64,rfl,by simp,λg hg=>?_,Z5 _ (by decide),?_⟩
   .simp only[ZF,aaG,or_false] at hg
    exact la [_,_] [] [.e .v0 (.a (.n 64) (.r (.d .v1 64) 64))] (.a (.l (.n 64) .v0) (.t .v0 (.n 128))) (.k true (.r (.d .v1 64) 64) (.k true (.d .v1 64) (.k true (.d (.d .v1 64) 64) (.o 0 (.f [1,0,0,0,0,0,0,0,0,1]) (.f [1,0,0,0,0,0,0,1,0,0,1]))))) rfl hg
   .simp only[abd,List.foldl_nil];omega
  .rw[if_neg h2]
   refine⟨[],v%64,rfl,by simp,λg hg=>absurd hg (by simp),Z5 _ (by decide),?_⟩
   simp only[abd,List.foldl_nil];omega
theorem J6 {T:List Int} {l:List Nat} (t:mJ T l) {pos v:Nat} (hv:v<64^3) (h:∀ j g,(fL v)[j]? =some g->l[pos+j]? =some g):Nj T pos=some ((v:Int),pos+(fL v).length):=by
 obtain⟨gs,f,e,hl,hg,hf,DX⟩:=qA v hv
 obtain⟨o,fs,e2⟩:∃ o fs,fL v=o::fs:=by
  rw[e]
  cases gs with
  |nil=>exact⟨_,_,rfl⟩
  |cons y r=>exact⟨_,_,rfl⟩
 rw[e2] at h DX
 have J4:l[pos]? =some o:=by have:=h 0 o rfl;simpa using this
 obtain⟨a,b,c⟩:=t.at J4
 unfold Nj
 rw[a]
 dsimp only
 rw[rF b c]
 have cb:fs.length<=2:=by
  have:=congrArg List.length e
  rw[e2] at this
  simp at this;exact la [_,_] [] [.l .v0 .n2,.e .v1 .v0] (.l .v1 .n2) (.f [0,1,1,1]) rfl hl this
 rw[B1 t fs 100 (pos+1) (o%64) o (pos%2) f (by exact la [_] [] [.l .v0 .n2] (.t .v0 (.n 100)) (.f [1,1]) rfl cb) b c ?_ (λJ5=>?_) (λJ5=>?_) (λj g hj=>?_),e2,ZL]
 .congr 2
  .congr 1
   rw[<-DX,abd,Nat.zero_mul,aau]
  .exact la [_,_] [] [] (.e (.a (.a .v0 .n1) .v1) (.a .v0 (.a .v1 .n1))) (.o 0 (.f [1]) (.f [1])) rfl
 .have:o%64<64:=Z5 _ (by decide)
  refine Zu (Nat.mul_le_mul (show o%64+1<=64 by exact la [_] [] [] (.l (.a (.r .v0 64) .n1) (.n 64)) (.k true (.r .v0 64) (.f [0,0,1,0,1])) rfl) (Z3 (by decide) cb)) (by decide)
 .rw[e2] at e
  cases gs with
  |nil=>simp at e;exact(la [_,_] [] [.t .v0 (.n 64),.l (.n 64) .v1,.e .v1 .v0] .f (.f [0,1,1,1]) rfl hf J5 e.1).elim
  |cons y r=>
   simp at e
   exact⟨r,e.2,λz hz=>hg z (.tail _ hz),hf⟩
 .rw[e2] at e
  cases gs with
  |nil=>simp at e;exact e.2
  |cons y r=>
   simp at e
   have:=hg y (.head _)
   exact(la [_,_] [] [.t .v0 (.n 64),.e .v0 .v1,.l (.n 64) .v1] .f (.f [1,1,0,1]) rfl J5 e.1 this.1).elim
 .have:=h (j+1) g (by simpa using hj)
  rw[show pos+1+j=pos+(j+1) by exact la [_,_] [] [] (.e (.a (.a .v0 .n1) .v1) (.a .v0 (.a .v1 .n1))) (.o 0 (.f [1]) (.f [1])) rfl];exact this
theorem oq {T:List Int} {l:List Nat} (t:mJ T l):∀ (vs:List Nat) (pos:Nat) (bK:List Nat),(∀ v∈vs,v<64^3)->(∀ j,l[pos+j]? =(cr vs++bK)[j]?)->(bK=[]\/∃ o fs,bK=o::fs/\fs.length<=2/\∀ g∈bK,64<=g/\g<128)->f8 T pos (ah vs)
 | [],pos,bK,_,h,hr=>by
  show Ue T pos
  rcases hr with rfl|⟨o,fs,rfl,hl,hg⟩
  .exact .inl (t.none (by have:=h 0;simpa [cr] using this))
  .have J4:l[pos]? =some o:=by have:=h 0;simpa [cr] using this
   obtain⟨a,b,c⟩:=t.at J4
   refine .inr ⟨_,a,?_⟩
   rw[rF b c]
   refine B2 t fs 100 (pos+1) _ o _ (by exact la [_] [] [.l .v0 .n2] (.t .v0 (.n 100)) (.f [1,1]) rfl hl) (hg o (.head _)).1 b c ?_ (λg YZ=>hg g (.tail _ YZ)) λj=>?_
   .have:o%64<64:=Z5 _ (by decide)
    exact Zu (Nat.mul_le_mul (show o%64+1<=64 by exact la [_] [] [] (.l (.a (.r .v0 64) .n1) (.n 64)) (.k true (.r .v0 64) (.f [0,0,1,0,1])) rfl) (Z3 (by decide) hl)) (by decide)
   .have:=h (j+1)
    rw[show pos+1+j=pos+(j+1) by exact la [_,_] [] [] (.e (.a (.a .v0 .n1) .v1) (.a .v0 (.a .v1 .n1))) (.o 0 (.f [1]) (.f [1])) rfl,this];simp [cr]
 |v::vs,pos,bK,hv,h,hr=>by
  refine⟨pos+(fL v).length,J6 t (hv v (.head _)) λj g hj=>?_,oq t vs (pos+(fL v).length) bK (λx hx=>hv x (.tail _ hx)) (λj=>?_) hr⟩
  .have:=h j
   rw[cr,ZH,ZQ (Zv.mp hj).1,hj] at this
   exact this
  .have:=h ((fL v).length+j)
   rw[cr,ZH,aah (by exact la [_,_] [] [] (.l .v0 (.a .v0 .v1)) (.f [1]) rfl),show(fL v).length+j-(fL v).length=j by exact la [_,_] [] [] (.e (.s (.a .v0 .v1) .v0) .v1) (.o 0 (.k true (.s (.a .v0 .v1) .v0) (.o 0 (.f [0,0,1,1]) (.f [1,0,0,1]))) (.k true (.s (.a .v0 .v1) .v0) (.o 0 (.f [0,1,0,1]) (.f [0,1,0,1])))) rfl] at this
   rw[show pos+(fL v).length+j=pos+((fL v).length+j) by exact la [_,_,_] [] [] (.e (.a (.a .v0 .v1) .v2) (.a .v0 (.a .v1 .v2))) (.o 0 (.f [1]) (.f [1])) rfl]
   exact this
theorem B3 (vs:List Nat) (hv:∀ v∈vs,v<64^3):f8 (ah (fj vs)) 0 (ah vs):=
 oq (xn (cr vs) (n9 vs)) vs 0 [] hv (λj=>by rw[aau,ZV]) (.inl rfl)
theorem yL (vs:List Nat) (v:Nat) (hv:∀ x∈vs++[v],x<64^3):f8 (ah (fj (vs++[v]))).dropLast 0 (ah (vs++[v])).dropLast:=by
 obtain⟨gs,f,e,hl,hg,hf,_⟩:=qA v (hv v (by simp))
 have t:=(xn (cr (vs++[v])) (n9 _)).last (by rw[aG,kt])
 have e1:cr (vs++[v])=cr vs++gs++[f]:=by rw[qp,cr,cr,ZV,e,ZH]
 rw[yB (vs++[v]),List.dropLast_concat]
 refine oq t vs 0 gs (λx hx=>hv x (aaX _ hx)) (λj=>?_) ?_
 .rw[aau,e1,List.dropLast_concat]
 .cases gs with
  |nil=>exact .inl rfl
  |cons o fs=>exact .inr ⟨o,fs,rfl,by simp at hl;exact la [_] [] [.l .v0 .n1] (.l .v0 .n2) (.f [1,1]) rfl hl,hg⟩
noncomputable abbrev Mn:=Int×Nat×Nat×Nat×Nat
noncomputable abbrev Po:=List Mn
noncomputable def j0 (x:Nat->Int) (m:Mn):Int:=m.1*(x 1^m.2.1*x 2^m.2.2.1*x 3^m.2.2.2.1*x 4^m.2.2.2.2)
noncomputable def ev (x:Nat->Int):Po->Int
 | []=>0
 |m::p=>j0 x m+ev x p
noncomputable def EP (m n:Mn):Mn:=(m.1*n.1,m.2.1+n.2.1,m.2.2.1+n.2.2.1,m.2.2.2.1+n.2.2.2.1,m.2.2.2.2+n.2.2.2.2)
theorem EQ (x:Nat->Int) (m n:Mn):j0 x (EP m n)=j0 x m*j0 x n:=by
 unfold j0 EP
 simp only[Int.pow_add]
 grind
noncomputable def yM (m:Mn):Po->Po
 | []=>[]
 |n::p=>EP m n::yM m p
theorem xo (x:Nat->Int) (m:Mn) (p:Po):ev x (yM m p)=j0 x m*ev x p:=by
 induction p with
 |nil=>exact(Int.mul_zero _).symm
 |cons n p ih=>
  show j0 x (EP m n)+ev x (yM m p)=j0 x m*(j0 x n+ev x p)
  rw[EQ,ih,Int.mul_add]
noncomputable def B4 (m:Mn):Po->Po
 | []=>[m]
 |n::p=>if m.2=n.2 then(m.1+n.1,n.2)::p else n::B4 m p
theorem ER (x:Nat->Int) (m:Mn) (p:Po):ev x (B4 m p)=j0 x m+ev x p:=by
 induction p with
 |nil=>rfl
 |cons n p ih=>
  rw[B4]
  by_cases h:m.2=n.2
  .rw[if_pos h]
   show j0 x (m.1+n.1,n.2)+ev x p=j0 x m+(j0 x n+ev x p)
   unfold j0
   rw[h,<-Int.add_assoc,<-Int.add_mul]
  .rw[if_neg h]
   show j0 x n+ev x (B4 m p)=j0 x m+(j0 x n+ev x p)
   rw[ih];exact Int.add_left_comm _ _ _
noncomputable def B5:Po->Po->Po
 | [],q=>q
 |m::p,q=>B4 m (B5 p q)
theorem xr (x:Nat->Int) (q p:Po):ev x (B5 p q)=ev x p+ev x q:=by
 induction p with
 |nil=>exact(Int.zero_add _).symm
 |cons m p ih=>exact(ER ..).trans ((congrArg _ ih).trans (Int.add_assoc ..).symm)
noncomputable def mK:Po->Po->Po
 | [],_=>[]
 |m::p,q=>B5 (yM m q) (mK p q)
theorem fB (x:Nat->Int) (q p:Po):ev x (mK p q)=ev x p*ev x q:=by
 induction p with
 |nil=>exact(Int.zero_mul _).symm
 |cons m p ih=>
  show ev x (B5 (yM m q) (mK p q))=(j0 x m+ev x p)*ev x q
  rw[xr,xo,ih,Int.add_mul]
noncomputable def J7 (p:Po):Po:=yM (-1,0,0,0,0) p
theorem ES (x:Nat->Int) (p:Po):ev x (J7 p)= -ev x p:=by
 unfold J7
 rw[xo]
 have:j0 x (-1,0,0,0,0)= -1:=by unfold j0;simp
 rw[this];omega
noncomputable def mL (p q:Po):Po:=B5 p (J7 q)
theorem kH (x:Nat->Int) (p q:Po):ev x (mL p q)=ev x p-ev x q:=by
 unfold mL
 rw[xr,ES];exact la [] [_,_] [] (.E (.a .V0 (.g .V1)) (.s .V0 .V1)) (.o 0 (.f [1]) (.f [1])) rfl
noncomputable def mw (p:Po):Bool:=p.all λm=>m.1==0
theorem ET (x:Nat->Int) {p:Po}:mw p=true->ev x p=0:=by
 induction p with
 |nil=>exact λø=>rfl
 |cons m p ih=>
  intro h
  have h:=aas.mp (show(m.1==0&&mw p)=true from h)
  show j0 x m+ev x p=0
  rw[ih h.2]
  unfold j0
  rw[eq_of_beq h.1,Int.zero_mul];rfl
noncomputable def xq (L:List Nat) (q:Int) (k:Nat):Int:=q^L.getD k 0
noncomputable def EU (W:List Nat):Po:=[(1,W.count 1,W.count 2,W.count 3,W.count 4)]
theorem rH (L:List Nat) (q:Int):∀ W:List Nat,(∀ e∈W,e<5/\0<e)->ev (xq L q) (EU W)=q^bL L W
 | [],_=>by
  show(1*((q^L.getD 1 0)^0*(q^L.getD 2 0)^0*(q^L.getD 3 0)^0*(q^L.getD 4 0)^0):Int)+0=q^0
  simp
 |e::W,h=>by
  have ih:=rH L q W λx hx=>h x (.tail _ hx)
  have he:=h e (.head _)
  have hs:bL L (e::W)=L.getD e 0+bL L W:=by
   show((L.getD e 0)::(W.map λe=>L.getD e 0)).sum=_
   rw[aaS];rfl
  rw[hs,Int.pow_add,<-ih]
  have e4:e=1\/e=2\/e=3\/e=4:=by exact la [_] [] [.t .v0 (.n 5),.t .n0 .v0] (.r (.e .v0 .n1) (.r (.e .v0 .n2) (.r (.e .v0 (.n 3)) (.e .v0 (.n 4))))) (.o 0 (.o 2 (.o 3 (.f [1,0,0,1]) (.f [1,1])) (.o 1 (.f [1,1]) (.f [1,0,1]))) (.f [1,0,1])) rfl he.1 he.2
  show j0 (xq L q) _+0=q^L.getD e 0*(j0 (xq L q) _+0)
  rw[abb,abb]
  unfold j0
  dsimp only
  rcases e4 with rfl|rfl|rfl|rfl
  .rw[List.count_cons_self,Z2 (by decide),Z2 (by decide),Z2 (by decide),Int.pow_succ]
   show _=xq L q 1*_
   grind
  .rw[List.count_cons_self,Z2 (by decide),Z2 (by decide),Z2 (by decide),Int.pow_succ]
   show _=xq L q 2*_
   grind
  .rw[List.count_cons_self,Z2 (by decide),Z2 (by decide),Z2 (by decide),Int.pow_succ]
   show _=xq L q 3*_
   grind
  .rw[List.count_cons_self,Z2 (by decide),Z2 (by decide),Z2 (by decide),Int.pow_succ]
   show _=xq L q 4*_
   grind
noncomputable def dE (P:List Nat) (k:Nat):Nat->Nat->Nat×List Nat
 |0,e=>(e,[])
 |f+1,e=>if k<e then((dE P k f (P.getD e 0)).1,e::(dE P k f (P.getD e 0)).2) else(e,[])
theorem xt (P L:List Nat) (k f:Nat):∀ e aD,dA P L k f e aD=((dE P k f e).1,aD+bL L (dE P k f e).2):=by
 induction f with
 |zero=>exact λø ø=>rfl
 |succ f ih=>
  intro e aD
  rw[dA,dE]
  by_cases h:k<e
  .rw[if_pos h,if_pos h,ih,aaA]
   exact congrArg (λz=>(_,aD+z)) aaS.symm
  .rw[if_neg h,if_neg h]
   rfl
noncomputable def jv (P:List Nat) (i j k:Nat):List Nat:=(dE P k 5 i).2++((dE P k 5 j).2++bs P (dE P k 5 i).1 (dE P k 5 j).1)
theorem tO (L u v:List Nat):bL L (u++v)=bL L u+bL L v:=by
 unfold bL fK
 rw[ZT,List.sum_append]
theorem tP (P L:List Nat) (i j k:Nat):ib P L i j k=bL L (jv P i j k):=by
 unfold ib jv
 dsimp only
 rw[xt,xt,tO,tO]
 dsimp only
 exact la [_,_,_] [] [] (.e (.a (.a (.a .n0 .v0) .v1) .v2) (.a .v0 (.a .v1 .v2))) (.o 0 (.f [1]) (.f [1])) rfl
noncomputable def O4:Po:=[(1,0,0,0,0)]
theorem J8 (x:Nat->Int):ev x O4=1:=by
 show j0 x (1,0,0,0,0)+0=1
 unfold j0;simp
noncomputable def iy (e:Nat):Po:=[(1,0,0,0,0),(-1,if e=1 then 2 else 0,if e=2 then 2 else 0,if e=3 then 2 else 0,if e=4 then 2 else 0)]
theorem ve (L:List Nat) (q:Int) {e:Nat} (h1:1<=e) (h2:e<=4):ev (xq L q) (iy e)=1-q^(2*L.getD e 0):=by
 have e4:e=1\/e=2\/e=3\/e=4:=by exact la [_] [] [.l .n1 .v0,.l .v0 (.n 4)] (.r (.e .v0 .n1) (.r (.e .v0 .n2) (.r (.e .v0 (.n 3)) (.e .v0 (.n 4))))) (.o 0 (.o 2 (.o 3 (.f [1,0,0,0,1]) (.f [1,1])) (.o 1 (.f [1,1]) (.f [1,0,1]))) (.f [1,1])) rfl h1 h2
 show j0 (xq L q) _+(j0 (xq L q) _+0)=_
 have hp:∀ n:Nat,q^(2*n)=(q^n)^2:=λn=>by rw[aaU,Int.pow_mul]
 rw[hp]
 unfold j0 xq
 rcases e4 with rfl|rfl|rfl|rfl<;>simp<;>exact la [] [_] [] (.E (.a .n1 (.g .V0)) (.s .n1 .V0)) (.o 0 (.f [1]) (.f [1])) rfl
noncomputable def Qa (W:List Nat):Bool:=W.all λe=>Nat.blt e 5&&Nat.blt 0 e
theorem vf {W:List Nat} (h:Qa W=true):∀ e∈W,e<5/\0<e:=λe he=>by
 have:=ZU.mp h e he
 simp only[ZK,Nat.blt_eq] at this
 exact this
theorem xu:∀ P∈je,∀ i∈List.range 5,∀ j∈List.range 5,Qa (bs P i j)=true/\Qa (jv P i j 2)=true/\Qa (jv P i j 3)=true:=by decide+kernel
noncomputable def Vc (P:List Nat) (a b:Nat):Po:=if a=b then O4 else EU (bs P (max a b) (min a b))
theorem O5 {P:List Nat} (hP:P∈je) (L:List Nat) (q:Int) {a b:Nat} (ha:a<5) (hb:b<5):ev (xq L q) (Vc P a b)=lw P L q a b:=by
 unfold Vc lw
 by_cases h:a=b
 .rw[if_pos h,if_pos h,J8]
 .rw[if_neg h,if_neg h]
  have m1:max a b<5:=by exact la [_,_] [] [.t .v0 (.n 5),.t .v1 (.n 5)] (.t (.x .v0 .v1) (.n 5)) (.k true (.x .v0 .v1) (.o 0 (.f [0,1,0,1,0,1]) (.f [0,1,0,0,1,1]))) rfl ha hb
  have m2:min a b<5:=by exact la [_,_] [] [.t .v0 (.n 5)] (.t (.i .v0 .v1) (.n 5)) (.k true (.i .v0 .v1) (.o 0 (.f [0,1,0,1,1]) (.f [0,1,1,1,1]))) rfl ha
  exact rH L q _ (vf (xu P hP _ (ZN.mpr m1) _ (ZN.mpr m2)).1)
noncomputable def Qb (k:Nat) (t:Nat->Nat->Po) (a b:Nat):Po:=mL (mK (t k k) (t a b)) (mK (t a k) (t k b))
noncomputable def GL (k:Nat) (M:d5):d5:=λa b=>M k k*M a b-M a k*M k b
theorem GN {x:Nat->Int} {t:Nat->Nat->Po} {M:d5} (h:∀ a b,a<5->b<5->ev x (t a b)=M a b) {k a b:Nat} (hk:k<5) (ha:a<5) (hb:b<5):ev x (Qb k t a b)=GL k M a b:=by
 unfold Qb GL
 rw[kH,fB,fB,h k k hk hk,h a b ha hb,h a k ha hk,h k b hk hb]
noncomputable def Vd (P:List Nat):Nat->Nat->Po:=Qb 0 (Vc P)
noncomputable def WA (P:List Nat):Nat->Nat->Po:=Qb 1 (Vd P)
noncomputable def vP (P:List Nat) (k i j:Nat):Po:=mL (EU (bs P i j)) (EU (jv P i j k))
noncomputable def tQ:List (Nat×Nat):=[(2,2),(3,2),(3,3),(4,2),(4,3),(4,4)]
noncomputable def J9:List (Nat×Nat):=[(3,3),(4,3),(4,4)]
noncomputable def EV (P:List Nat):Bool:=mw (mL (Vd P 1 1) (iy 1))&&mw (mL (vP P 1 2 2) (iy 2))&&tQ.all λy=>mw (mL (WA P y.1 y.2) (mK (iy 1) (vP P 1 y.1 y.2)))
noncomputable def O6 (P:List Nat):Bool:=J9.all λy=>mw (mL (mL (mK (vP P 1 2 2) (vP P 1 y.1 y.2)) (mK (vP P 1 y.1 2) (vP P 1 y.2 2))) (mK (vP P 2 y.1 y.2) (iy 2)))
noncomputable def O7 (P:List Nat):Bool:=mw (mL (mL (mK (vP P 2 3 3) (vP P 2 4 4)) (mK (vP P 2 4 3) (vP P 2 4 3))) (mK (vP P 3 4 4) (iy 3)))
theorem kI:∀ P∈je,EV P=true/\O6 P=true/\O7 P=true:=by decide+kernel
theorem kJ {x:Nat->Int} {p q:Po} (h:mw (mL p q)=true):ev x p=ev x q:=by
 have:=ET x h
 rw[kH] at this;exact la [] [_,_] [.E (.s .V0 .V1) .n0] (.E .V0 .V1) (.o 0 (.f [1,1]) (.f [1,0,1])) rfl this
noncomputable def tW (P L:List Nat) (q:Int):Nat->d5
 |0=>lw P L q
 |1=>GL 0 (lw P L q)
 |2=>GL 1 (GL 0 (lw P L q))
 |3=>λa b=>gM P L q (max a b) (min a b) 2
 |_=>λa b=>gM P L q (max a b) (min a b) 3
noncomputable def O8 (M:d5):Prop:=∀ a b,M a b=M b a
theorem EW (P L:List Nat) (q:Int):O8 (lw P L q):=λa b=>by
 unfold lw
 by_cases h:a=b
 .subst h;rfl
 .rw[if_neg h,if_neg (aaO h),Nat.max_comm,Nat.min_comm]
theorem B6 {M:d5} (h:O8 M) (k:Nat):O8 (GL k M):=λa b=>by
 unfold GL
 rw[h a b,h a k,h k b,Int.mul_comm (M k a)]
theorem rI {L:List Nat} (hL:eD L) (W:List Nat):bL L W<=4*W.length:=by
 induction W with
 |nil=>exact ZM _
 |cons e W ih=>exact Zu (Z8 (aaS ..)) (Zu (Z8 (aao ..)) (aac ih (hL.d e)))
theorem vg {q:Int} (hq:q.natAbs<=4) {n m:Nat} (h:n<=m):(q^n).natAbs<2^(2*m+1):=by
 have h1:=nY hq h
 have:(4:Nat)^m=2^(2*m):=by rw[Nat.pow_mul]
 rw[this] at h1
 rw[Nat.pow_succ];have:0<2^(2*m):=Nat.pow_pos (by decide)
 exact la [_] [_] [.l (.b .V0) .v0,.t .n0 .v0] (.t (.b .V0) (.M .v0 2)) (.f [1,1,1]) rfl h1 this
theorem B7 {L:List Nat} (hL:eD L) {q:Int} (hq:q.natAbs<=4) (e:Nat):(1-q^(2*L.getD e 0)).natAbs<2^17:=by
 have h1:L.getD e 0<=4:=by
  rw[ZC]
  cases h:L[e]? with
  |none=>exact ZM _
  |some v=>exact hL.le v (ZE h)
 have Tk:=nY hq (n:=2*L.getD e 0) (m:=8) (by exact la [_] [] [.l .v0 (.n 4)] (.l (.m 2 .v0) (.n 8)) (.f [2,1]) rfl h1)
 have:(4:Nat)^8=65536:=by decide
 have:(2:Nat)^17=131072:=by decide
 exact la [] [_] [.l (.b .V0) (.n 65536)] (.t (.b (.s .n1 .V0)) (.n 131072)) (.k true (.b .V0) (.o 0 (.k true (.b (.s .n1 .V0)) (.o 0 (.f [0,1,0,0,0,1,0,1]) (.f [0,1,0,1,0,0,1,1]))) (.k true (.b (.s .n1 .V0)) (.o 0 (.f [0,1,0,1,0,0,1,1]) (.f [0,1,0,0,0,1,0,1]))))) rfl Tk
theorem EX {L:List Nat} (hL:eD L) {q:Int} (hq:q.natAbs<=4) {d:Int} {n:Nat} (hd:d.natAbs<2^n) (k:Nat):(mh L q k d).natAbs<2^(n+17*k):=by
 induction k with
 |zero=>exact hd
 |succ k ih=>
  show(mh L q k d*(1-q^(2*L.getD (k+1) 0))).natAbs<_
  rw[Int.natAbs_mul,Nat.mul_succ,<-aaA,Nat.pow_add]
  exact Nat.mul_lt_mul_of_lt_of_le ih (Zx (B7 hL hq (k+1))) (ZW (ZM _) (B7 hL hq (k+1)))
theorem ou (P:List Nat) (k f:Nat):∀ e,(dE P k f e).2.length<=f:=by
 induction f with
 |zero=>exact λø=>ZA _
 |succ f ih=>
  intro e
  rw[dE]
  by_cases h:k<e
  .rw[if_pos h];exact aaP (ih _)
  .rw[if_neg h];exact ZM _
theorem ow {P:List Nat} (T:Tree P) (k f:Nat):∀ e,e<5->(dE P k f e).1<5:=by
 induction f with
 |zero=>exact λø h=>h
 |succ f ih=>
  intro e h
  rw[dE]
  by_cases z:k<e
  .rw[if_pos z];exact ih _ (T.d h)
  .rw[if_neg z];exact h
theorem B8 {P L:List Nat} (T:Tree P) (hL:eD L) {q:Int} (hq:q.natAbs<=4) {i j k:Nat} (hi:i<5) (hj:j<5) (hk:k<=3):(gM P L q i j k).natAbs<2^400:=by
 have w1:bL L (bs P i j)<=72:=Zu (rI hL _) (by have:=ko (P:=P) (f:=i) (s:=j);exact la [_,_,_] [] [.t .v0 (.n 5),.t .v1 (.n 5),.l .v2 (.a .v0 .v1)] (.l (.m 4 .v2) (.n 72)) (.f [4,4,4,1]) rfl hi hj this)
 have w2:ib P L i j k<=72:=by
  rw[tP]
  refine Zu (rI hL _) ?_
  unfold jv
  rw[Zw,Zw]
  have a:=ou P k 5 i
  have b:=ou P k 5 j
  have c:=ko (P:=P) (f:=(dE P k 5 i).1) (s:=(dE P k 5 j).1)
  have d:=ow T k 5 i hi
  have e:=ow T k 5 j hj
  exact la [_,_,_,_,_] [] [.l .v0 (.n 5),.l .v1 (.n 5),.l .v2 (.a .v3 .v4),.t .v3 (.n 5),.t .v4 (.n 5)] (.l (.m 4 (.a .v0 (.a .v1 .v2))) (.n 72)) (.f [4,4,4,4,4,1]) rfl a b c d e
 have p1:=vg hq w1
 have p2:=vg hq w2
 have hd:(q^bL L (bs P i j)-q^ib P L i j k).natAbs<2^146:=by
  have:(2:Nat)^146=2*2^145:=by rw[<-Nat.pow_succ']
  omega
 refine ZD (EX hL hq hd k) (Z3 (by decide) (by exact la [_] [] [.l .v0 (.n 3)] (.l (.a (.n 146) (.m 17 .v0)) (.n 400)) (.f [17,1]) rfl hk))
theorem Ka {P L:List Nat} (hL:eD L) {q:Int} (hq:q.natAbs<=4) {a b:Nat} (ha:a<5) (hb:b<5):(lw P L q a b).natAbs<2^65:=by
 unfold lw
 split
 .decide
 .refine vg hq (m:=32) ?_
  refine Zu (rI hL _) ?_
  have:=ko (P:=P) (f:=max a b) (s:=min a b)
  exact la [_,_,_] [] [.t .v0 (.n 5),.t .v1 (.n 5),.l .v2 (.a (.x .v0 .v1) (.i .v0 .v1))] (.l (.m 4 .v2) (.n 32)) (.k true (.x .v0 .v1) (.o 0 (.k true (.i .v0 .v1) (.o 0 (.f [0,4,0,0,4,0,4,4,4,1]) (.f [0,4,0,0,4,0,4,8,0,1]))) (.k true (.i .v0 .v1) (.o 0 (.f [0,4,0,0,4,0,4,0,8,1]) (.f [0,4,0,0,4,0,4,4,4,1]))))) rfl ha hb this
theorem GO {M:d5} {n:Nat} (h:∀ a b,a<5->b<5->(M a b).natAbs<2^n) {k a b:Nat} (hk:k<5) (ha:a<5) (hb:b<5):(GL k M a b).natAbs<2^(2*n+1):=
 qq (h k k hk hk) (h a b ha hb) (h a k ha hk) (h k b hk hb)
section
variable {P L:List Nat} {q:Int} (T:Tree P)
include T
theorem GP (L:List Nat) (q:Int) {a b:Nat} (ha:a<5) (hb:b<5):ev (xq L q) (Vd P a b)=tW P L q 1 a b:=
 GN (λa b ha hb=>O5 (c5 T) L q ha hb) (by decide) ha hb
theorem O9 (L:List Nat) (q:Int) {a b:Nat} (ha:a<5) (hb:b<5):ev (xq L q) (WA P a b)=tW P L q 2 a b:=
 GN (λa b ha hb=>GP T L q ha hb) (by decide) ha hb
theorem oy (L:List Nat) (q:Int) {y:Nat×Nat} (hy:y∈tQ):tW P L q 2 y.1 y.2=ev (xq L q) (iy 1)*ev (xq L q) (vP P 1 y.1 y.2):=by
 have hb:y.1<5/\y.2<5:=(by decide:∀ y∈tQ,y.1<5/\y.2<5) y hy
 have h:=(kI P (c5 T)).1
 simp only[EV,ZK,ZU] at h
 rw[<-O9 T L q hb.1 hb.2,<-fB]
 exact kJ (h.2 y hy)
theorem Pa (L:List Nat) (q:Int):tW P L q 1 1 1=ev (xq L q) (iy 1):=by
 have h:=(kI P (c5 T)).1
 simp only[EV,ZK,ZU] at h
 rw[<-GP T L q (by decide) (by decide)]
 exact kJ h.1.1
theorem Y0 (L:List Nat) (q:Int):ev (xq L q) (vP P 1 2 2)=ev (xq L q) (iy 2):=by
 have h:=(kI P (c5 T)).1
 simp only[EV,ZK,ZU] at h
 exact kJ h.1.2
theorem vB (L:List Nat) (q:Int) {y:Nat×Nat} (hy:y∈J9):ev (xq L q) (vP P 1 2 2)*ev (xq L q) (vP P 1 y.1 y.2)-ev (xq L q) (vP P 1 y.1 2)*ev (xq L q) (vP P 1 y.2 2)=ev (xq L q) (vP P 2 y.1 y.2)*ev (xq L q) (iy 2):=by
 have h:=(kI P (c5 T)).2.1
 simp only[O6,ZU] at h
 have:=kJ (x:=xq L q) (h y hy)
 rw[kH,fB,fB,fB] at this
 exact this
theorem vC (L:List Nat) (q:Int):ev (xq L q) (vP P 2 3 3)*ev (xq L q) (vP P 2 4 4)-ev (xq L q) (vP P 2 4 3)*ev (xq L q) (vP P 2 4 3)=ev (xq L q) (vP P 3 4 4)*ev (xq L q) (iy 3):=by
 have h:=(kI P (c5 T)).2.2
 simp only[O7] at h
 have:=kJ (x:=xq L q) h
 rw[kH,fB,fB,fB] at this
 exact this
theorem oz (L:List Nat) (q:Int) {i j k:Nat} (hi:i<5) (hj:j<5) (hk:k=2\/k=3):gM P L q i j k=mh L q k (ev (xq L q) (vP P k i j)):=by
 obtain⟨w1,w2,w3⟩:=xu P (c5 T) i (ZN.mpr hi) j (ZN.mpr hj)
 unfold gM vP
 rw[kH,rH L q _ (vf w1),rH L q _ (vf (by rcases hk with rfl|rfl;exact w2;exact w3)),tP]
theorem Pb (hL:eD L) (hq:q.natAbs<=4):uZ P L q (tW P L q):=by
 have f1:=ve L q (e:=1) (by decide) (by decide)
 have f2:=ve L q (e:=2) (by decide) (by decide)
 have f3:=ve L q (e:=3) (by decide) (by decide)
 have s0:=EW P L q
 have s1:O8 (tW P L q 1):=B6 s0 0
 have s2:O8 (tW P L q 2):=B6 s1 1
 refine⟨λk i j hk Ea rL hi=>?_,λk i j hk FT Ea rL hi=>?_,λk i j hk hi hj=>?_⟩
 .have:k=0\/k=1:=by exact la [_] [] [.t .v0 .n2] (.r (.e .v0 .n0) (.e .v0 .n1)) (.o 0 (.o 1 (.f [1]) (.f [1,1])) (.f [1,1])) rfl hk
  rcases this with rfl|rfl
  .exact⟨rfl,(s1 j i).trans rfl⟩
  .exact⟨rfl,(s2 j i).trans rfl⟩
 .have:k=2\/k=3:=by exact la [_] [] [.l .n2 .v0,.t .v0 (.n 4)] (.r (.e .v0 .n2) (.e .v0 (.n 3))) (.o 0 (.o 1 (.f [1,0,0,1]) (.f [1,1])) (.f [1,1])) rfl hk FT
  rcases this with rfl|rfl
  .refine⟨by show gM P L q (max i j) (min i j) 2=_;rw[Nat.max_eq_left rL,Nat.min_eq_right rL],by show gM P L q (max j i) (min j i) 2=_;rw[Nat.max_eq_right rL,Nat.min_eq_left rL],λø=>?_⟩
   have hy:(i,j)∈J9/\(i,j)∈tQ/\(i,2)∈tQ/\(j,2)∈tQ:=by
    have:(i=3/\j=3)\/(i=4/\j=3)\/(i=4/\j=4):=by exact la [_,_] [] [.l .v0 .v1,.t .v1 (.n 5),.t .n2 .v0] (.r (.a (.e .v1 (.n 3)) (.e .v0 (.n 3))) (.r (.a (.e .v1 (.n 4)) (.e .v0 (.n 3))) (.a (.e .v1 (.n 4)) (.e .v0 (.n 4))))) (.o 1 (.o 0 (.o 3 (.o 0 (.f [1,0,1,0,1]) (.f [1,1])) (.o 0 (.f [1,0,1]) (.f [1,1,0,0,1]))) (.f [1,0,1])) (.o 0 (.f [1,1]) (.o 1 (.o 0 (.f [1,1,0,0,1]) (.f [1,0,0,1])) (.o 0 (.f [1,1]) (.f [1,0,0,1,1]))))) rfl rL hi Ea
    rcases this with⟨rfl,rfl⟩|⟨rfl,rfl⟩|⟨rfl,rfl⟩<;>decide
   have b:=vB T L q hy.1
   have Pd:=oy T L q (show((2,2):Nat×Nat)∈tQ by decide)
   have WB:=oy T L q hy.2.1
   have WC:=oy T L q hy.2.2.1
   have WD:=oy T L q hy.2.2.2
   have Y1:=Pa T L q
   have d:=oz T L q (i:=i) (j:=j) (k:=2) hi (by exact la [_,_] [] [.l .v0 .v1,.t .v1 (.n 5)] (.t .v0 (.n 5)) (.f [1,1,1]) rfl rL hi) (.inl rfl)
   dsimp only at b Pd WB WC WD
   show tW P L q 2 2 2*tW P L q 2 i j-tW P L q 2 i 2*tW P L q 2 2 j=gM P L q i j 2*tW P L q 1 1 1
   rw[s2 2 j,Pd,WB,WC,WD,Y1,d]
   show _=ev (xq L q) (vP P 2 i j)*(1-q^(2*L.getD 1 0))*(1-q^(2*L.getD 2 0))*_
   rw[<-f1,<-f2]
   generalize ev (xq L q) (iy 1)=F1 at*
   generalize ev (xq L q) (iy 2)=F2 at*
   have:=congrArg (λz=>F1*F1*z) b
   have this:=id this
   grind
  .obtain⟨rfl,rfl⟩:i=4/\j=4:=by exact la [_,_] [] [.l .v0 .v1,.t .v1 (.n 5),.t (.n 3) .v0] (.a (.e .v1 (.n 4)) (.e .v0 (.n 4))) (.o 0 (.o 0 (.f [1,1,0,1]) (.f [1,0,1])) (.o 0 (.f [1,1]) (.f [1,0,1,1]))) rfl rL hi Ea
   refine⟨rfl,rfl,λø=>?_⟩
   have c:=vC T L q
   have Pd:=oy T L q (show((2,2):Nat×Nat)∈tQ by decide)
   have v:=Y0 T L q
   have Y2:=oz T L q (i:=3) (j:=3) (k:=2) (by decide) (by decide) (.inl rfl)
   have Y3:=oz T L q (i:=4) (j:=4) (k:=2) (by decide) (by decide) (.inl rfl)
   have Y4:=oz T L q (i:=4) (j:=3) (k:=2) (by decide) (by decide) (.inl rfl)
   have d:=oz T L q (i:=4) (j:=4) (k:=3) (by decide) (by decide) (.inr rfl)
   dsimp only at Pd
   show gM P L q 3 3 2*gM P L q 4 4 2-gM P L q 4 3 2*gM P L q 4 3 2=gM P L q 4 4 3*tW P L q 2 2 2
   rw[Pd,v,Y2,Y3,Y4,d]
   show ev (xq L q) (vP P 2 3 3)*(1-q^(2*L.getD 1 0))*(1-q^(2*L.getD 2 0))*(ev (xq L q) (vP P 2 4 4)*(1-q^(2*L.getD 1 0))*(1-q^(2*L.getD 2 0)))-ev (xq L q) (vP P 2 4 3)*(1-q^(2*L.getD 1 0))*(1-q^(2*L.getD 2 0))*(ev (xq L q) (vP P 2 4 3)*(1-q^(2*L.getD 1 0))*(1-q^(2*L.getD 2 0)))=ev (xq L q) (vP P 3 4 4)*(1-q^(2*L.getD 1 0))*(1-q^(2*L.getD 2 0))*(1-q^(2*L.getD 3 0))*(ev (xq L q) (iy 1)*ev (xq L q) (iy 2))
   rw[<-f1,<-f2,<-f3]
   generalize ev (xq L q) (iy 1)=F1 at*
   generalize ev (xq L q) (iy 2)=F2 at*
   generalize ev (xq L q) (iy 3)=F3 at*
   have:=congrArg (λz=>F1*F1*F2*F2*z) c
   have this:=id this
   grind
 .have m1:max i j<5:=by exact la [_,_] [] [.t .v0 (.n 5),.t .v1 (.n 5)] (.t (.x .v0 .v1) (.n 5)) (.k true (.x .v0 .v1) (.o 0 (.f [0,1,0,1,0,1]) (.f [0,1,0,0,1,1]))) rfl hi hj
  have m2:min i j<5:=by exact la [_,_] [] [.t .v0 (.n 5)] (.t (.i .v0 .v1) (.n 5)) (.k true (.i .v0 .v1) (.o 0 (.f [0,1,0,1,1]) (.f [0,1,1,1,1]))) rfl hi
  have b0:∀ a b,a<5->b<5->(tW P L q 0 a b).natAbs<2^65:=λa b ha hb=>Ka hL hq ha hb
  have b1:∀ a b,a<5->b<5->(tW P L q 1 a b).natAbs<2^131:=λa b ha hb=>GO b0 (by decide) ha hb
  have b2:∀ a b,a<5->b<5->(tW P L q 2 a b).natAbs<2^263:=λa b ha hb=>GO b1 (by decide) ha hb
  rcases Ks hk with rfl|rfl|rfl|rfl|rfl
  .exact ZD (b0 i j hi hj) (Z3 (by decide) (by decide))
  .exact ZD (b1 i j hi hj) (Z3 (by decide) (by decide))
  .exact ZD (b2 i j hi hj) (Z3 (by decide) (by decide))
  .exact B8 T hL hq m1 m2 (by decide)
  .exact B8 T hL hq m1 m2 (by decide)
end
theorem B9 (c:Nat->Nat):1<=ij c/\ij c<=4:=by unfold ij;exact la [_] [] [] (.a (.l .n1 (.a .n1 (.r (.r .v0 262144) 4))) (.l (.a .n1 (.r (.r .v0 262144) 4)) (.n 4))) (.k true (.r (.r .v0 262144) 4) (.k true (.r .v0 262144) (.k true (.d .v0 262144) (.k true (.d (.r .v0 262144) 4) (.o 0 (.f [1]) (.f [1,0,0,0,0,0,0,0,0,0,0,1])))))) rfl
theorem Ca (c:Nat->Nat) {k:Nat} (h:k<5):kN (fN c) k=yA c k:=by
 unfold kN fN
 rw[ZC,Z9,List.getElem?_range h];rfl
theorem Kb (c:Nat->Nat) {k:Nat} (h1:1<=k) (h2:k<=4):(tA c).getD k 0=ph c k:=by
 have:k=1\/k=2\/k=3\/k=4:=by exact la [_] [] [.l .n1 .v0,.l .v0 (.n 4)] (.r (.e .v0 .n1) (.r (.e .v0 .n2) (.r (.e .v0 (.n 3)) (.e .v0 (.n 4))))) (.o 0 (.o 2 (.o 3 (.f [1,0,0,0,1]) (.f [1,1])) (.o 1 (.f [1,1]) (.f [1,0,1]))) (.f [1,1])) rfl h1 h2
 rcases this with rfl|rfl|rfl|rfl<;>rfl
theorem oA (c:Nat->Nat):Tree (lA c):=by
 refine⟨rfl,λk v h=>?_⟩
 have hk:k<5:=(Zv.mp h).1
 rcases Ks hk with rfl|rfl|rfl|rfl|rfl
 .cases h;exact⟨ZA 0,nofun⟩
 .cases h;exact⟨Zx (Z5 _ (by decide)),λø=>Z5 _ (by decide)⟩
 .cases h;exact⟨Zx (Z5 _ (by decide)),λø=>Z5 _ (by decide)⟩
 .cases h;exact⟨Zx (Z5 _ (by decide)),λø=>Z5 _ (by decide)⟩
 .cases h;exact⟨Zx (Z5 _ (by decide)),λø=>Z5 _ (by decide)⟩
theorem tR (c:Nat->Nat):KindsOk (kN (fN c)):=by
 obtain⟨o1,o4⟩:=B9 c
 refine⟨ij c,o1,o4,λk h1 h2=>?_⟩
 rw[Ca c (by exact la [_] [] [.l .v0 (.n 4)] (.t .v0 (.n 5)) (.f [1,1]) rfl h2)]
 unfold tH yA
 by_cases h:k=ij c
 .rw[if_pos h,jW.mpr h]
  simp only[cond_true,ZK,abo]
  omega
 .rw[if_neg h,rB.mpr h,Kb c h1 h2]
  unfold ph
  by_cases z:k+ij c=5
  .rw[if_pos z,jW.mpr z]
   simp only[cond_false,cond_true,abo]
   omega
  .rw[if_neg z,rB.mpr z]
   simp only[cond_false,abo]
   omega
theorem qB (c:Nat->Nat):Kinds (fN c):=by
 refine⟨by simp [fN],λv hv=>?_⟩
 obtain⟨k,hk,rfl⟩:=aal.mp hv
 have hk:=ZN.mp hk
 by_cases h0:k=0
 .subst h0
  unfold yA
  have:=B9 c
  rw[if_neg (by exact la [_] [] [.l .n1 .v0] (.n (.e .n0 .v0)) (.f [1,1]) rfl this.1)]
  exact ZM _
 .have:=fQ (tR c) (k:=k) (by exact la [_] [] [.n (.e .v0 .n0)] (.l .n1 .v0) (.o 0 (.f [1]) (.f [1,1])) rfl h0) (by exact la [_] [] [.t .v0 (.n 5)] (.l .v0 (.n 4)) (.f [1,1]) rfl hk)
  rw[Ca c hk] at this
  exact la [_] [] [.t .v0 (.n 5)] (.l .v0 (.n 4)) (.f [1,1]) rfl this
theorem Kc {x:Nat} (h:x<5):Gw x<=4:=by
 exact(by decide:∀ x<5,Gw x<=4) x h
theorem tS (c:Nat->Nat):eD (oa c):=by
 refine⟨by simp [oa,fN],λv hv=>?_⟩
 rcases ZF.mp hv with rfl|hv
 .exact ZM _
 .obtain⟨x,hx,rfl⟩:=aal.mp hv
  have:=(qB c).le x (List.mem_of_mem_drop hx)
  exact Kc (by exact la [_] [] [.l .v0 (.n 4)] (.t .v0 (.n 5)) (.f [1,1]) rfl this)
theorem EY (c:Nat->Nat):rD (fN c) (oa c):=λk h1 h2=>by
 have:k=1\/k=2\/k=3\/k=4:=by exact la [_] [] [.l .n1 .v0,.l .v0 (.n 4)] (.r (.e .v0 .n1) (.r (.e .v0 .n2) (.r (.e .v0 (.n 3)) (.e .v0 (.n 4))))) (.o 0 (.o 2 (.o 3 (.f [1,0,0,0,1]) (.f [1,1])) (.o 1 (.f [1,1]) (.f [1,0,1]))) (.f [1,1])) rfl h1 h2
 rcases this with rfl|rfl|rfl|rfl<;>rfl
theorem Ke (c:Nat->Nat):mu c where
 tree:=oA c
 kinds:=qB c
 lens:=tS c
 tab:=J3 (oA c) (tR c) (EY c) (Z5 _ (by decide))
 out:=⟨_,rfl,Pb (oA c) (tS c) (by exact la [_] [] [] (.l (.b (.s (.c (.r .v0 9)) (.n 4))) (.n 4)) (.k true (.b (.s (.c (.r .v0 9)) (.n 4))) (.o 0 (.k true (.r .v0 9) (.f [0,0,1,0,0,1,0,1])) (.f [0,1,0,1]))) rfl)⟩
 ln:=by
  unfold fj
  rw[kt]
  have h1:∀ v,1<=(fL v).length:=λv=>by unfold fL;split<;>(try split)<;>simp
  have h2:∀ vs:List Nat,vs.length<=(cr vs).length:=λvs=>by
   induction vs with
   |nil=>exact ZA _
   |cons v r ih=>rw[cr,Zw,ZL];have:=h1 v;exact la [_,_,_] [] [.l .v0 .v1,.l .n1 .v2] (.l (.a .v0 .n1) (.a .v2 .v1)) (.f [1,1,1]) rfl ih this
  exact h2 _
 rd:=B3 _ (kA c)
 rd':=yL [c 0%9,c 1%262144,c 2%262144,c 3%262144,c 4%262144] (c 5%262144) (kA c)
structure EZ (h:Heap) (t1 t2 l:Addr):Prop where
 a1:h.get? t1=some (tabObj #[])
 a2:h.get? t2=some (tabObj #[])
 al:∃ o xs n,h.get? l=some o/\o.cls=.type "list"/\o.data=.seq xs n
section
variable {h:Heap} {t1 t2 l:Addr}
noncomputable abbrev dp (h:Heap) (t1 t2 l:Addr):Heap:=hideAll h [t1,t2,l]
theorem xw (H:EZ h t1 t2 l) {b:Addr} {o:Obj} (e:h.get? b=some o) (n1:o≠tabObj #[]) (n2:∀ xs n,o.data≠ .seq xs n):(dp h t1 t2 l).get? b=some o:=by
 refine hideAll_get _ e λm=>?_
 simp only[ZF,aaG,or_false] at m
 rcases m with rfl|rfl|rfl
 .rw[H.a1] at e;cases e;exact n1 rfl
 .rw[H.a2] at e;cases e;exact n1 rfl
 .obtain⟨o',xs,n,e1,_,e2⟩:=H.al
  rw[e1] at e;cases e;exact n2 xs n e2
theorem gS (H:EZ h t1 t2 l) {b:Addr} {o:Obj} (e:h.get? b=some o) (n1:o.data≠ .fields #[]) (n2:∀ xs n,o.data≠ .seq xs n):(dp h t1 t2 l).get? b=some o:=
 xw H e (λq=>n1 (by rw[q])) n2
theorem vj (H:EZ h t1 t2 l) {a:Addr} {m:Str->Option Value} (x:h.Ns a m):(dp h t1 t2 l).Ns a m:=by
 obtain⟨o,es,ep,e,hd,r⟩:=x
 exact⟨o,es,ep,gS H e (by rw[hd];nofun) (by rw[hd];nofun),hd,r⟩
theorem Cb (H:EZ h t1 t2 l) {cd:Value} {q:Str} (x:h.CodeRec cd q):(dp h t1 t2 l).CodeRec cd q:=by
 obtain⟨c,o,vs,t,e1,e2,e3,e4⟩:=x
 refine⟨c,o,vs,t,e1,gS H e2 (λz=>?_) (by rw[e3];nofun),e3,e4⟩
 rw[e3] at z
 injection z with z
 rw[z] at e4
 simp at e4
theorem rJ (H:EZ h t1 t2 l) {x:String} {a:Addr} {c:Value} (F:FnAt h x a c):FnAt (dp h t1 t2 l) x a c:=by
 obtain⟨o,pm,jp,e1,e2,e3⟩:=F
 exact⟨o,pm,jp,gS H e1 (by rw[e2];nofun) (by rw[e2];nofun),e2,Cb H e3⟩
theorem Cd (H:EZ h t1 t2 l) {c P:Addr} (x:CodeHd h c P):CodeHd (dp h t1 t2 l) c P:=by
 obtain⟨o,vs,f,tf,fl,tg,b,n,tt,e,e1,e2,r⟩:=x
 exact⟨o,vs,f,tf,fl,tg,b,n,tt,xw H e (λq=>by rw[q] at e1;cases e1) (by rw[e2];nofun),e1,e2,r⟩
theorem yN (H:EZ h t1 t2 l) {a:Addr} {D:List (Int×PyData)} (x:KTD.Keyed h a D):KTD.Keyed (dp h t1 t2 l) a D:=λprog w=>by
 obtain⟨lo,WE,⟨o,es,ep,ho,hc,hd,r⟩,hf⟩:=x prog w
 exact⟨lo,WE,⟨o,es,ep,gS H ho (by rw[hd];nofun) (by rw[hd];nofun),hc,hd,r⟩,hf⟩
theorem yO (H:EZ h t1 t2 l) {mg mb:Str->Option Value} {A:Nat->Addr} (F:jd h mg mb A):jd (dp h t1 t2 l) mg mb A where
 g:=vj H F.g
 b:=vj H F.b
 lim:=F.lim.imp λø=>And.imp_left (vj H)
 mb:=F.mb
 c97:=F.c97
 c98:=F.c98
 c99:=F.c99
 c100:=F.c100
 ref:=F.ref
 no:=F.no
 bm:=by
  obtain⟨bm,ob,e1,e2,e3,e4,e5,e6⟩:=F.bm
  exact⟨bm,ob,e1,e2,gS H e3 (by rw[e6];nofun) (by rw[e6];nofun),e4,e5,e6⟩
 dict:=by
  obtain⟨k,o,e1,e2,e3,e4⟩:=F.dict
  refine⟨yN H k,o,gS H e1 (λq=>?_) (λxs n q=>?_),e2,e3,e4⟩
  .unfold eP at e4;rw[q] at e4;cases e4
  .unfold eP at e4;rw[q] at e4;cases e4
end
noncomputable def gh (k:Nat):String:=Ck.getD k ""
theorem kK:∀ k∈List.range 139,nm k=Str.ofString (gh k):=by decide+kernel
structure Defs (h:Heap) (A:Nat->Addr):Prop where
 f:∀ k,102<=k->k<=120->∃ c,FnAt h (gh k) (A k) c
theorem Defs.fn {h:Heap} {A:Nat->Addr} (D:Defs h A) (k:Nat) (h1:102<=k) (h2:k<=120):∃ o fd,h.get? (A k)=some o/\o.data=.func fd:=by
 obtain⟨c,o,pm,jp,e1,e2,_⟩:=D.f k h1 h2
 exact⟨o,_,e1,e2⟩
theorem Defs.inj {h:Heap} {mg mb:Str->Option Value} {A:Nat->Addr} (D:Defs h A) (F:jd h mg mb A) (i j:Nat) (h1:101<=i) (h2:i<=120) (h3:101<=j) (h4:j<=120) (e:A i=A j):i=j:=by
 have dict:∀ k,102<=k->k<=120->A 101≠A k:=λk a b q=>by
  obtain⟨_,o,e1,_,_,e4⟩:=F.dict
  obtain⟨o',fd,f1,f2⟩:=D.fn k a b
  rw[q,f1] at e1
  cases e1
  unfold eP at e4
  rw[f2] at e4;cases e4
 by_cases z1:i=101
 .by_cases z2:j=101
  .exact la [_,_] [] [.e .v0 (.n 101),.e .v1 (.n 101)] (.e .v0 .v1) (.o 0 (.f [1,0,1,1]) (.f [1,1,0,0,1])) rfl z1 z2
  .subst z1;exact absurd e (dict j (by exact la [_] [] [.l (.n 101) .v0,.n (.e .v0 (.n 101))] (.l (.n 102) .v0) (.o 0 (.f [1,1]) (.f [1,0,1])) rfl h3 z2) h4)
 .by_cases z2:j=101
  .subst z2;exact absurd e.symm (dict i (by exact la [_] [] [.l (.n 101) .v0,.n (.e .v0 (.n 101))] (.l (.n 102) .v0) (.o 0 (.f [1,1]) (.f [1,0,1])) rfl h1 z1) h2)
  .obtain⟨c,o,pm,jp,e1,e2,_⟩:=D.f i (by exact la [_] [] [.l (.n 101) .v0,.n (.e .v0 (.n 101))] (.l (.n 102) .v0) (.o 0 (.f [1,1]) (.f [1,0,1])) rfl h1 z1) h2
   obtain⟨c',o',Zq,Y5,f1,f2,_⟩:=D.f j (by exact la [_] [] [.l (.n 101) .v0,.n (.e .v0 (.n 101))] (.l (.n 102) .v0) (.o 0 (.f [1,1]) (.f [1,0,1])) rfl h3 z2) h4
   rw[e,f1] at e1
   cases e1
   rw[f2] at e2
   have n:Str.ofString (gh j)=Str.ofString (gh i):=congrArg (λd=>match d with|.func fd=>fd.name|_=>Str.empty) e2
   rw[<-kK j (ZN.mpr (by exact la [_] [] [.l .v0 (.n 120)] (.t .v0 (.n 139)) (.f [1,1]) rfl h4)),<-kK i (ZN.mpr (by exact la [_] [] [.l .v0 (.n 120)] (.t .v0 (.n 139)) (.f [1,1]) rfl h2))] at n
   exact(kO n).symm
theorem Kf {cx:Cx} {A:Nat->Addr} (D:Defs cx.h₀ A):mU cx A:=by
 have g:∀ {k:Nat} {ps:List Nat},102<=k->k<=120->dn (gh k) ps->∃ c,dD cx (A k) (am (gh k)) ps (aQ (gh k)) c (Str.ofString (gh k)):=λa b d=>by
  obtain⟨c,F⟩:=D.f _ a b
  exact⟨c,d.defC F⟩
 exact⟨g (by decide) (by decide) UP,g (by decide) (by decide) UQ,g (by decide) (by decide) UR,g (by decide) (by decide) UU,g (by decide) (by decide) UV,g (by decide) (by decide) UW,g (by decide) (by decide) UX,g (by decide) (by decide) UY,g (by decide) (by decide) UZ,g (by decide) (by decide) U0,g (by decide) (by decide) U1,g (by decide) (by decide) U2,g (by decide) (by decide) U3,g (by decide) (by decide) U4,g (by decide) (by decide) U5,g (by decide) (by decide) U6⟩
theorem oB {prog:Program} {w:World} {h₀:Heap} {mg mb:Str->Option Value} {A:Nat->Addr} {t1 t2:Addr} (F:jd h₀ mg mb A) {I:CI} {c T:Addr} (NK:(jc prog w h₀ A t1 t2).tb I.j=some T) (hc:CodeHd h₀ c T) (oE:∀ as ob,NH I as ob->IX I.k as ob)
  (d0:I.params.defaults=[]) (k0:I.params.kw_defaults=[]) (ann:∀ env,annTrees I.params none env=[]) (free:∀ y∈I.sc.names,y.2=.free->∃ x∈I.fr,y.1=nm x) (mem:∀ x∈I.fr,(nm x,NameKind.free)∈I.sc.names):ie (jc prog w h₀ A t1 t2) I c T where
 tb:=NK
 code:=hc
 bm:=⟨mg,F.bm.imp λø=>.imp λø=>Zt F.g⟩
 cs:=oE
 d0:=d0
 k0:=k0
 ann:=ann
 free:=free
 mem:=mem
theorem Pe:∀ y∈mj.sc.names,y.2=.free->∃ x∈mj.fr,y.1=nm x:=by decide+kernel
theorem Pf:∀ y∈mm.sc.names,y.2=.free->∃ x∈mm.fr,y.1=nm x:=by decide+kernel
theorem Ve:∀ x∈mj.fr,(nm x,NameKind.free)∈mj.sc.names:=by decide+kernel
theorem Vf:∀ x∈mm.fr,(nm x,NameKind.free)∈mm.sc.names:=by decide+kernel
theorem yP {prog:Program} {w:World} {h₀:Heap} {mg mb:Str->Option Value} {A:Nat->Addr} {t1 t2 c1 c2:Addr} (F:jd h₀ mg mb A) (f1:FnAt h₀ "_int2digits" (A 106) (.ref c1)) (f2:FnAt h₀ "_digits2int" (A 107) (.ref c2)) (k1:CodeHd h₀ c1 t1) (k2:CodeHd h₀ c2 t2):fO (jc prog w h₀ A t1 t2) A where
 cs:=rfl
 m1:=⟨c1,t1,US.defC f1,oB F rfl k1 (λas ob h=>.inl ⟨rfl,h⟩) rfl rfl (λø=>rfl) Pe Ve⟩
 m2:=⟨c2,t2,UT.defC f2,oB F rfl k2 (λas ob h=>.inr ⟨rfl,h⟩) rfl rfl (λø=>rfl) Pf Vf⟩
theorem Pg {cx:Cx} {A:Nat->Addr} (B:cF cx A) (G:GG cx A) (F:mU cx A) (M:fO cx A) (hT:cx.T (A 101)=some An):lE cx A 21 u7:=
 .cons (by decide) (by decide) (by decide) (OQ B G F) (.cons (by decide) (by decide) (by decide) (OX B G F) (.cons (by decide) (by decide) (by decide) (O0 B G F hT) (.cons (by decide) (by decide) (ZA _) (O1 B G F M) .nil)))
theorem xx:∀ y∈u7,101<=y.1/\y.1<=120:=by
 intro y hy
 simp only[u7,ZF,aaG,or_false] at hy
 rcases hy with rfl|rfl|rfl|rfl<;>exact⟨by decide,by decide⟩
theorem Kg {cx:Cx} {A:Nat->Addr} (B:cF cx A) (G:GG cx A) {ps:List PV} {hp:List PO} {K:PV->List PO->Prop} (h:Wp ps hp K):bc (aA cx (cO A u7)) (am "law") [92] [92,47,95,96] [] (aQ "law") ps hp K:=
 JS (eY G _) G.en (kB B xx (by decide) (by decide) (S:=(113,Ja)) rfl) (kB B xx (by decide) (by decide) (S:=(114,Gl)) rfl) (kB B xx (by decide) (by decide) (S:=(118,mH)) rfl) (kB B xx (by decide) (by decide) (S:=(120,toS)) rfl) h
theorem E0 {prog:Program} {w:World} {s:Shared} {mg mb:Str->Option Value} {A:Nat->Addr} {t1 t2 c1 c2 fa l:Addr} {cd:Value} {vs:List Value} {ns:List Int} (F:jd s.heap mg mb A) (D:Defs s.heap A) (f1:FnAt s.heap "_int2digits" (A 106) (.ref c1)) (f2:FnAt s.heap "_digits2int" (A 107) (.ref c2)) (k1:CodeHd s.heap c1 t1) (k2:CodeHd s.heap c2 t2)
  (a1:s.heap.get? t1=some (tabObj #[])) (a2:s.heap.get? t2=some (tabObj #[])) (iw:t1≠t2) (fl:FnAt s.heap "law" fa cd) (hl:s.heap.IsList l vs.toArray) (hi:IntsAre vs ns) (hn:ns.length<=1000) {Q:Value->Shared->Prop} {E:Value->Shared->Prop}
  (k:∀ h' tk,(∀ b o,b≠t1->b≠t2->s.heap.get? b=some o->h'.get? b=some o)->(∃ ps,h'.get? t1=some (tabObj ps))->(∃ ps,h'.get? t2=some (tabObj ps))->Q (.bool true) {s with heap:=h',toks:=tk}):
  wpAny (model prog w) callerA (call (.ref fa) [.ref l]) Q E s:=by
 obtain⟨ol,Kh,jY,nl,WF⟩:=hl
 have H:EZ s.heap t1 t2 l:=⟨a1,a2,ol,_,_,Kh,jY,WF⟩
 have F0:=yO H F
 have D0:Defs (dp s.heap t1 t2 l) A:=⟨λk a b=>(D.f k a b).imp λø=>rJ H⟩
 have B:cF (jc prog w (dp s.heap t1 t2 l) A t1 t2) A:=BO F0 D0.fn (D0.inj F0)
 have G:GG (jc prog w (dp s.heap t1 t2 l) A t1 t2) A:=JY
 have FN:mU (jc prog w (dp s.heap t1 t2 l) A t1 t2) A:=Kf D0
 have M:fO (jc prog w (dp s.heap t1 t2 l) A t1 t2) A:=yP F0 (rJ H f1) (rJ H f2) (Cd H k1) (Cd H k2)
 have hT:(jc prog w (dp s.heap t1 t2 l) A t1 t2).T (A 101)=some An:=if_pos rfl
 have t:=Pg B G FN M hT
 have TZ:l≠t1:=λq=>by rw[q,a1] at Kh;cases Kh;cases jY
 have Oi:l≠t2:=λq=>by rw[q,a2] at Kh;cases Kh;cases jY
 generalize KU:jc prog w (dp s.heap t1 t2 l) A t1 t2=cx at*
 have h0:cx.h₀=dp s.heap t1 t2 l:=by rw[<-KU];rfl
 have oE:cx.cs=IX:=by rw[<-KU];rfl
 have qF:cx.fr=[]:=by rw[<-KU];rfl
 have NK:cx.tb=λi=>if i=0 then some t1 else if i=1 then some t2 else none:=by rw[<-KU];rfl
 have Y6:cx.prog=prog:=by rw[<-KU];rfl
 have hw:cx.w=w:=by rw[<-KU];rfl
 have Ph:=rJ H fl
 rw[<-h0] at Ph
 obtain⟨o,pm,jp,e1,e2,e3⟩:=Ph
 have DC:=U7.defC (cx:=cx) ⟨o,pm,jp,e1,e2,e3⟩
 obtain⟨of,fd,g1,g2,g3,g4,g5,_⟩:=DC.h
 have ok:ge (am "law") [92] [92,47,95,96]=true:=by decide+kernel
 simp only[ge,ZK,ZU,abe,beq_iff_eq,decide_eq_true_eq,List.contains_iff_mem] at ok
 have keep:∀ b o,cx.h₀.get? b=some o->s.heap.get? b=some o:=λb o e=>by rw[h0] at e;exact of_hideAll _ e
 have Pj:∀ b∈[t1,t2,l],cx.h₀.get? b=none:=λb hb=>by rw[h0];exact hideAll_none _ hb
 have R:Ey (aA cx (cO A u7)) [t1,t2,l] [.ctab iU none,.ctab iV none,.slist (aa ns) ol] s.heap:=by
  refine⟨keep,λi a e=>Pj a (ZE e),λi j a ei ej=>?_,rfl,λi o e=>?_,λi a e=>?_⟩
  .have nd:[t1,t2,l].Nodup:=.cons (λb hb=>by
    rcases ZF.mp hb with rfl|hb
    .exact iw
    .rw[ZG.mp hb];exact TZ.symm) (.cons (λb hb=>by rw[ZG.mp hb];exact Oi.symm) (.cons (λø h=>nomatch h) .nil))
   exact(List.getElem?_inj (Zv.mp ei).1 nd).mp (ei.trans ej.symm)
  .rcases i with _|_|_|i
   .cases e;exact⟨t1,_,rfl,a1,rfl⟩
   .cases e;exact⟨t2,_,rfl,a2,rfl⟩
   .cases e;exact⟨l,ol,rfl,Kh,vs,nl,pw hi,jY,WF,rfl⟩
   .cases e
  .have e:cx.tb i=some a:=e
   rw[NK] at e
   dsimp only at e
   by_cases z:i=0
   .subst z;rw[if_pos rfl] at e;cases e;rfl
   .rw[if_neg z] at e
    by_cases z1:i=1
    .subst z1;rw[if_pos rfl] at e;cases e;rfl
    .rw[if_neg z1] at e;cases e
 have Vg:Good (aA cx (cO A u7)) 22 callerA:=by
  refine⟨rfl,?_,?_,?_⟩
  .show some ([]:List Env)=some cx.fr
   rw[qF]
  .show 1+claimMargin+22<recursionLimit
   decide
  .show 4+16*22+100<cLine
   decide
 subst Y6
 subst hw
 refine yF (cx:=aA cx (cO A u7)) (n:=21) (hp:=[.ctab iU none,.ctab iV none,.slist (aa ns) ol]) (ab:=[t1,t2,l]) (params:=[92]) (cl:=[92,47,95,96]) (body:=aQ "law") (P:=λp aE=>p=.bool true/\aq [.ctab iU none,.ctab iV none,.slist (aa ns) ol] aE) qF (λL=>lF B t _) Vg g3 (keep _ _ g1) g2 B.lim (g4.keeps keep) g5 ok.1.1 ok.1.2 ok.2 (ps:=[.ref 2]) R ⟨⟨l,rfl,rfl⟩,trivial⟩ (Kg B G ⟨2,ns,ol,rfl,rfl,hn,ZA _,by simp,⟨.inl rfl,.inl rfl⟩,Ke _,λaE g=>⟨rfl,g⟩⟩) ?_
 rintro p aE aj v h' tk ⟨rfl,g⟩ dv hE hk Ki
 have dv:v=.bool true:=dv
 subst dv
 have hk:∀ b o,cx.h₀.get? b=some o->h'.get? b=some o:=hk
 have tabs:∀ (i:Nat) (p:Pos) (q:Str) (t:Addr),TabAt aE i p q->aj[i]? =some t->∃ ps,h'.get? t=some (tabObj ps):=λi p q t ht ha=>by
  rcases ht with e|⟨j,_,e,_⟩
  .obtain⟨a,ob,x1,x2,x3⟩:=Ki i _ e
   rw[ha] at x1;cases x1
   have x3:ob=tabObj #[]:=x3
   exact⟨_,by rw[x2,x3]⟩
  .obtain⟨a,ob,x1,x2,c,_,x3⟩:=Ki i _ e
   rw[ha] at x1;cases x1
   exact⟨_,by rw[x2,x3]⟩
 have gt:=g.tabs ⟨.inl rfl,.inl rfl⟩
 refine k h' tk (λb o n1 n2 e=>?_) (tabs 0 _ _ t1 gt.1 (hE 0 t1 rfl)) (tabs 1 _ _ t2 gt.2 (hE 1 t2 rfl))
 by_cases z:b=l
 .subst z
  have e3:=g.keep 2 _ (by decide) (show _=some (PO.slist (aa ns) ol) from rfl)
  obtain⟨a,ob,x1,x2,Zr,n',_,_,_,x3⟩:=Ki 2 _ e3
  rw[hE 2 b rfl] at x1;cases x1
  rw[Kh] at e;cases e
  rw[x2,x3]
 .exact hk b o (by rw[h0];exact hideAll_get _ e (λm=>by
   simp only[ZF,aaG,or_false] at m
   rcases m with q|q|q
   .exact n1 q
   .exact n2 q
   .exact z q))
noncomputable def dictOf (K:Frag):Addr:=match nsIn K mainGlobals (nm 101) with
 |some (some (.ref a))=>a
 |_=>0
noncomputable def dP (K:Frag) (x:String):Addr×Addr:=(tabIn K (Str.ofString x)).getD (0,0)
noncomputable def Kj:Option (Option Value)->Bool
 |some none=>true
 |_=>false
theorem E1 {x:Option (Option Value)} (h:Kj x=true):x=some none:=by
 rcases x with _|_|x
 .cases h
 .rfl
 .cases h
noncomputable def WG:List Nat:=(List.range 18).map (121+.)
noncomputable def E2:List Nat:=(List.range 19).map (102+.)
structure rK (view:Program) (K:Frag):Prop where
 recs:(E2.map λk=>(recsOf view).find? λe=>e.name==Str.ofString (gh k))=E2.map λk=>some (gP (gh k))
 law:((recsOf view).find? λe=>e.name==Str.ofString "law")=some (gP "law")
 c97:valOf view (nm 97)=some (.int 1)
 c98:valOf view (nm 98)=some (.int 2)
 c99:valOf view (nm 99)=some (.int 40)
 c100:valOf view (nm 100)=some (.int 4000)
 no:(WG.all λk=>Kj (nsIn K mainGlobals (nm k)))=true
 dict:nsIn K mainGlobals (nm 101)=some (some (.ref (dictOf K)))
 look:KTD.keyedLook (λb=>K.lookup b) (dictOf K) P8=true
 t1:tabIn K (Str.ofString "_int2digits")=some (dP K "_int2digits")
 t2:tabIn K (Str.ofString "_digits2int")=some (dP K "_digits2int")
 ne:Nat.beq (dP K "_int2digits").2 (dP K "_digits2int").2=false
section
variable {view:Program} {loose:List Str} {E3:ExcName->Option Value} {mg mb:Str->Option Value} {K:Frag} {h:Heap}
theorem kL (T:Top view loose E3 mg mb h) {x:Str} {i:Int} (e:valOf view x=some (.int i)):∃ t,mg x=some (.int i t):=by
 obtain⟨v,h1,h2⟩:=T.const x _ e
 have:=h2 h
 cases this
 exact⟨_,h1⟩
theorem Ce (H:rK view K) {k:Nat} (h1:102<=k) (h2:k<=120):((recsOf view).find? λe=>e.name==Str.ofString (gh k))=some (gP (gh k)):=by
 have:=congrArg (λl=>l[k-102]?) H.recs
 have hk:E2[k-102]? =some k:=by
  unfold E2
  rw[Z9,List.getElem?_range (by exact la [_] [] [.l .v0 (.n 120)] (.t (.s .v0 (.n 102)) (.n 19)) (.k true (.s .v0 (.n 102)) (.o 0 (.f [0,1,0,0,1]) (.f [0,1,0,1,1]))) rfl h2)]
  show some (102+(k-102))=some k
  congr 1;exact la [_] [] [.l (.n 102) .v0] (.e (.a (.n 102) (.s .v0 (.n 102))) .v0) (.o 0 (.k true (.s .v0 (.n 102)) (.o 0 (.f [0,0,1,1]) (.f [1,0,0,1]))) (.k true (.s .v0 (.n 102)) (.o 0 (.f [0,1,0,1,1]) (.f [0,1,0,1])))) rfl h1
 simp only[Z9,hk,Option.map_some] at this
 exact aan this
theorem Cf (T:Top view loose E3 mg mb h) {x:String} (e:((recsOf view).find? λe=>e.name==Str.ofString x)=some (gP x)):∃ a c,mg (Str.ofString x)=some (.ref a)/\FnAt h x a c:=by
 have hm:=List.mem_of_find?_eq_some e
 have hn:(gP x).name=Str.ofString x:=beq_iff_eq.mp (List.find?_some (p:=λe:DefRec=>e.name==Str.ofString x) e)
 obtain⟨a,o,pm,code,jp,e1,e2,e3,e4⟩:=T.fn _ hm
 rw[hn] at e1 e3 e4
 exact⟨a,code,e1,o,pm,jp,e2,e3,e4⟩
theorem vk (w:World) (T:Top view loose E3 mg mb h) (X:K.In h) (H:rK view K):jd h mg mb (kD mg)/\Defs h (kD mg):=by
 have Pk:∀ k,102<=k->k<=120->mg (nm k)=some (.ref (kD mg k))/\∃ c,FnAt h (gh k) (kD mg k) c:=λk a b=>by
  obtain⟨x,c,e1,e2⟩:=Cf T (Ce H a b)
  have hn:=kK k (ZN.mpr (by exact la [_] [] [.l .v0 (.n 120)] (.t .v0 (.n 139)) (.f [1,1]) rfl b))
  have:kD mg k=x:=by unfold kD;rw[hn,e1]
  rw[this,hn]
  exact⟨e1,c,e2⟩
 have hd:=mg_of X T.g H.dict
 have Dm:kD mg 101=dictOf K:=by unfold kD;rw[hd]
 have hk:KTD.Keyed h (dictOf K) P8:=kt_keyed_in X H.look
 refine⟨⟨T.g,T.b,T.nolimit,T.builtins,kL T H.c97,kL T H.c98,kL T H.c99,kL T H.c100,λk a b=>?_,λk a b=>?_,T.bmain,?_⟩,⟨λk a b=>(Pk k a b).2⟩⟩
 .by_cases z:k=101
  .subst z;rw[Dm,hd]
  .exact(Pk k (by exact la [_] [] [.l (.n 101) .v0,.n (.e .v0 (.n 101))] (.l (.n 102) .v0) (.o 0 (.f [1,1]) (.f [1,0,1])) rfl a z) b).1
 .have:=ZU.mp H.no k (aal.mpr ⟨k-121,ZN.mpr (by exact la [_] [] [.l .v0 (.n 138)] (.t (.s .v0 (.n 121)) (.n 18)) (.k true (.s .v0 (.n 121)) (.o 0 (.f [0,1,0,0,1]) (.f [0,1,0,1,1]))) rfl b),by exact la [_] [] [.l (.n 121) .v0] (.e (.a (.n 121) (.s .v0 (.n 121))) .v0) (.o 0 (.k true (.s .v0 (.n 121)) (.o 0 (.f [0,0,1,1]) (.f [1,0,0,1]))) (.k true (.s .v0 (.n 121)) (.o 0 (.f [0,1,0,1,1]) (.f [0,1,0,1])))) rfl a⟩)
  exact mg_none_of X T.g (E1 this)
 .rw[Dm]
  refine⟨hk,?_⟩
  obtain⟨_,WE,⟨o,es,ep,ho,hc,PN,_⟩,_⟩:=hk PySem.Challenge.pw_rw0084_01 w
  exact⟨o,ho,hc.1,hc.2.1,by unfold eP;rw[PN]⟩
theorem Cg {prog:Program} {w:World} {s:Shared} (T:Top view loose E3 mg mb s.heap) (X:K.In s.heap) (H:rK view K) {fa l:Addr} (Ga:mg (Str.ofString "law")=some (.ref fa)) {vs:List Value} {ns:List Int} (hl:s.heap.IsList l vs.toArray) (hi:IntsAre vs ns) (hn:ns.length<=1000) {Q:Value->Shared->Prop} {E:Value->Shared->Prop}
  (k:∀ h' tk,OldK s.heap h'->Q (.bool true) {s with heap:=h',toks:=tk}):wpAny (model prog w) callerA (call (.ref fa) [.ref l]) Q E s:=by
 obtain⟨F,D⟩:=vk w T X H
 obtain⟨Zs,cd,e1,fl⟩:=Cf T H.law
 rw[Ga] at e1
 cases e1
 have m:∀ (x:String) (kk:Nat),102<=kk->kk<=120->gh kk=x->tabIn K (Str.ofString x)=some (dP K x)->FnAt s.heap x (kD mg kk) (.ref (dP K x).1)/\CodeHd s.heap (dP K x).1 (dP K x).2/\s.heap.get? (dP K x).2=some (tabObj #[]):=λx kk a b hx ht=>by
  obtain⟨c,f⟩:=D.f kk a b
  rw[hx] at f
  have r:=Ce H a b
  rw[hx] at r
  obtain⟨h1,h2⟩:=tab_of T X r ht
  have WH:=F.ref kk (by exact la [_] [] [.l (.n 102) .v0] (.l (.n 101) .v0) (.f [1,1]) rfl a) b
  rw[kK kk (ZN.mpr (by exact la [_] [] [.l .v0 (.n 120)] (.t .v0 (.n 139)) (.f [1,1]) rfl b)),hx] at WH
  obtain⟨o,pm,jp,g1,g2,g3⟩:=f
  have hc:=law_code X T.g ht WH g1 g2
  have hc:c=.ref (dP K x).1:=hc
  subst hc
  exact⟨⟨o,pm,jp,g1,g2,g3⟩,h1,h2⟩
 obtain⟨f1,k1,a1⟩:=m "_int2digits" 106 (by decide) (by decide) rfl H.t1
 obtain⟨f2,k2,a2⟩:=m "_digits2int" 107 (by decide) (by decide) rfl H.t2
 have iw:(dP K "_int2digits").2≠(dP K "_digits2int").2:=Nat.ne_of_beq_eq_false H.ne
 refine E0 F D f1 f2 k1 k2 a1 a2 iw fl hl hi hn λh' tk keep p1 p2=>k h' tk ⟨λb o e=>?_,λb o e=>?_⟩
 .by_cases z1:b=(dP K "_int2digits").2
  .subst z1
   rw[a1] at e;cases e
   obtain⟨ps,p1⟩:=p1
   exact .inr (.inl ⟨(k1.tab a1).isCodeTable,rfl,#[],ps,rfl,by rw[Array.empty_append];exact p1⟩)
  .by_cases z2:b=(dP K "_digits2int").2
   .subst z2
    rw[a2] at e;cases e
    obtain⟨ps,p2⟩:=p2
    exact .inr (.inl ⟨(k2.tab a2).isCodeTable,rfl,#[],ps,rfl,by rw[Array.empty_append];exact p2⟩)
   .exact .inl (keep b o z1 z2 e)
 .by_cases z1:b=(dP K "_int2digits").2
  .subst z1;obtain⟨ps,p1⟩:=p1;exact⟨_,p1⟩
  .by_cases z2:b=(dP K "_digits2int").2
   .subst z2;obtain⟨ps,p2⟩:=p2;exact⟨_,p2⟩
   .exact⟨_,keep b o z1 z2 e⟩
end
end Mine
namespace Mine
open PySem PySem.W PySem.Calls PyProof PyProof.Rows PySem.Builtin.Str PySem.Builtin.Int
noncomputable def Ch (h:Heap):Frag:=(List.range 150).filterMap λa=>(h.get? a).map λo=>(a,o)
noncomputable def Vh (K:Frag):Bool:=(WG.all λk=>Kj (nsIn K mainGlobals (nm k)))&&((match nsIn K mainGlobals (nm 101) with|some (some (.ref _))=>true|_=>false)&&(KTD.keyedLook (λb=>K.lookup b) (dictOf K) P8&&((tabIn K (Str.ofString "_int2digits")).isSome&&((tabIn K (Str.ofString "_digits2int")).isSome&& !Nat.beq (dP K "_int2digits").2 (dP K "_digits2int").2))))
theorem Ci (h:Heap):(Ch h).In h:=by
 unfold Ch
 intro a o
 generalize List.range 150=l
 induction l with
 |nil=>exact nofun
 |cons b r ih=>
  intro e
  cases hb:h.get? b with
  |none=>rw[List.filterMap_cons_none (by rw[hb];rfl)] at e;exact ih e
  |some o'=>
   rw[aad (by rw[hb];rfl)] at e
   by_cases z:a=b
   .subst z;rw[List.lookup_cons_self] at e;cases e;exact hb
   .rw[aax,beq_false_of_ne z] at e;exact ih e
noncomputable def Cj:Program:=view PySem.Challenge.pw_rw0084_01 ((List.range 29).filter (. !=15))
theorem Kk {K:Frag} (e:Vh K=true):rK Cj K:=by
 obtain⟨e1,e⟩:=aas.mp e
 obtain⟨e2,e⟩:=aas.mp e
 obtain⟨e3,e⟩:=aas.mp e
 obtain⟨e4,e⟩:=aas.mp e
 obtain⟨e5,e6⟩:=aas.mp e
 have t:∀ x,(tabIn K (Str.ofString x)).isSome=true->tabIn K (Str.ofString x)=some (dP K x):=λx h=>by
  unfold dP
  obtain⟨y,hy⟩:=ZJ.mp h
  rw[hy];rfl
 refine⟨by kernel_rfl,by kernel_rfl,by kernel_rfl,by kernel_rfl,by kernel_rfl,by kernel_rfl,e1,?_,e3,t _ e4,t _ e5,by simpa using e6⟩
 unfold dictOf
 revert e2
 cases nsIn K mainGlobals (nm 101) with
 |none=>exact nofun
 |some x=>
  cases x with
  |none=>exact nofun
  |some v=>
   cases v
   case ref a=>exact λø=>rfl
   all_goals exact nofun
theorem E4:LeftO PySem.Challenge.pw_rw0084_01 Cj [Str.ofString "COMPILER_FLAG_NAMES"] (λø=>true) (λs=>Vh (Ch s.heap)) (λø=>true) 1808:=
 .of_split "special-get-raises" λw=>by kernel_rfl
theorem E5:PySem.Challenge.rw_rw0084_01.wellSaid=true:=by
 delta OpenLaw.wellSaid
 iterate 18 refine look_both ?_ (by kernel_rfl)
 delta OpenRow.wellSaid
 iterate 2 refine look_both ?_ (by kernel_rfl)
 delta OpenRow.partSaid
 iterate 12 refine look_both ?_ (by kernel_rfl)
 delta looksOpen
 iterate 5 refine look_both ?_ (by decide+kernel)
 decide+kernel
end Mine
open PySem PySem.W PySem.Calls PyProof PyProof.Rows
theorem PySem.Challenge.cw_rw0084_01_holds : PySem.Challenge.rw_rw0084_01.Holds := by
 refine holds_law Mine.E5 fun Vi=>?_
 refine holds_open (q:=Mine.Cj) (loose:=[Str.ofString "COMPILER_FLAG_NAMES"]) (XP:=fun _ _=>True) (YP:=fun _ h=>∃ K:Frag,K.In h∧Mine.Vh K=true) Mine.E4 (fun w s e=>⟨_,Mine.Ci _,e⟩) (fun w h h' x k=>x.elim fun K y=>⟨K,y.1.keeps k,y.2⟩) (fun _ _=>trivial) (fun _ _ _ _ _=>trivial) (by rfl) (by rfl) (by rfl) (fun _ _=>recFacts_nil rfl) (by rfl) Vi (by decide+kernel) ⟨rfl,rfl,rfl,rfl,rfl,by decide+kernel⟩ ?hw ?hc
 case hw=>w_witness2
 case hc=>
  intro w bC bz mg mb G Y fa o pm cd jp dV kV ho Y7 HS hD Ga hg bo c8 as Vj Vk Y8 FU po
  obtain⟨K,KX,KO⟩:=Y
  refine Ground.open G ?_
  intro T B D TE TW
  clear ho Y7 HS hD B D TE TW G
  wrow_args Vj Vk Y8 FU po
  all_goals (
   refine Mine.Cg T KX (Mine.Kk KO) Ga (by assumption) (by assumption) ?hn ?hk
   case hn=>omega
   case hk=>
    intro h' tk O
    exact⟨.inl ⟨_,.bool true,[],rfl,fun _=>rfl,.bool true,by kernel_rfl,fun _=>⟨List.nodup_nil,nofun⟩⟩,O,rfl,AllBare.of_eq hg⟩)
