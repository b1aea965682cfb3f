import PyProof.Rows.All
import Wide.All
import OpenK.AllK
import Wide.FinOn
import Open.FastRun
import PyProof.Rows.Range3
import PyProof.SumAny
import PyProof.WalkInts
import Lean
import PySem.Challenge.RW_rl0134_01
set_option synthInstance.maxSize 100000
set_option synthInstance.maxHeartbeats 0
set_option linter.all false
set_option maxRecDepth 1000000
set_option maxHeartbeats 0
set_option Elab.async false
set_option genSizeOf false
set_option genInjectivity false
noncomputable section
namespace Mine
open PySem PySem.W PySem.W.X PyProof.Rows PySem.Builtin.List
theorem C6{a b c:Nat}(h:a+b≤c):a≤c:=Nat.le_trans (Nat.le_add_right a b) h
theorem Er{a b:Nat}:a≤a+b:=Nat.le_add_right a b
theorem F5{a b:Nat}:a≤b+a:=Nat.le_add_left a b
theorem G2{a b c:Nat}(h:a≤b):a+c≤b+c:=Nat.add_le_add_right h c
theorem Ey{a b c:Nat}(h:a≤b):a≤b+c:=Nat.le_trans h (Nat.le_add_right b c)
theorem z_6{a b:Nat}(h:a < b+1)(h1:¬a=b):a < b:=Nat.lt_of_le_of_ne (Nat.le_of_lt_succ h) h1
theorem Rs{a b:Nat}:¬a+b < b:=Nat.not_lt.mpr (Nat.le_add_left b a)
theorem E4{a b c d:Nat} (h:a+(b+c)=d):a+c+b=d:=h▸(Nat.add_assoc a c b).trans (congrArg (a+·) (Nat.add_comm c b))
theorem E1{a b c:Nat} (h:a+(b+1)=c):a < c:=h▸Nat.lt_add_of_pos_right (Nat.succ_pos b)
theorem S5{a:Nat}:a≤a:=Nat.le_refl a
theorem Dr{a b c:Nat}:a+b≤a+c+b:=Nat.add_le_add_right (Nat.le_add_right a c) b
theorem Sy{a b i j k:Nat}(h:a+k≤b) (d:Nat.ble j (k+i)=true:=by rfl):a+j≤b+i:=Nat.le_trans (Nat.add_le_add_left (Nat.le_of_ble_eq_true d) a) (Nat.add_assoc a k i▸Nat.add_le_add_right h i)
theorem J8{a b c:Nat}(h:b≤a)(d:Nat.ble c b=true:=by rfl):c≤a:=Nat.le_trans (Nat.le_of_ble_eq_true d) h
theorem A32{a b c:Nat}(h:a≤b)(d:Nat.ble b c=true:=by rfl):a≤c:=Nat.le_trans h (Nat.le_of_ble_eq_true d)
theorem Dp{a b c:Nat}:a+b+c=a+c+b:=Nat.add_right_comm a b c
theorem Aj5{a b c:Nat}:a+b+c=a+(c+b):=by rw [Nat.add_comm c b,Nat.add_assoc]
theorem Ep{a b:Nat}:a+b=b+a:=Nat.add_comm a b
theorem Aad{a b c d e:Nat}(h:a+b≤c)(h1:c+d≤e):a≤e:=C6 (Nat.le_trans h (C6 h1))
theorem Ajs{a b c d:Nat}(h:a+b≤c)(h1:c≤d):a≤d:=C6 (Nat.le_trans h h1)
theorem G8{a b c:Nat}(h:a≤b)(h1:b≤c):a≤c:=Nat.le_trans h h1
theorem N9{a b c:Nat}(h:a=b)(h1:c < a):c < b:=h▸h1
theorem Dx{a b c:Nat}(h:a≤b)(h1:c=b):a≤c:=h1▸h
theorem Acg{a b c:Nat}(h:a≤b)(h1:c=a):c≤b:=h1▸h
theorem Hn{a b:Nat}(h:a≤b)(h1:b < a):False:=Nat.not_le_of_lt h1 h
theorem A2j{a b:Nat}(h:a < b):b=b - 1+1:=(Nat.sub_add_cancel (Nat.succ_le_of_lt (Nat.lt_of_le_of_lt (Nat.zero_le a) h))).symm
theorem Kx{a m b c:Nat}:a+m+m*b+c=a+m*(b+1)+c:=by rw [Nat.mul_add,Nat.mul_one,Nat.add_comm (m*b),Nat.add_assoc a]
theorem Aaa{a b:Nat}(h:¬a < b):b≤a:=Nat.not_lt.mp h
theorem A26{a b:Nat}(h:a < b):¬a=b:=Nat.ne_of_lt h
theorem E0{a b c d:Nat} (h:a+(b+c)≤d):a+c+b≤d:=by rw [Nat.add_assoc,Nat.add_comm c b];exact h
theorem Ajp{a b:Nat}(h:a≤b):b=b - a+a:=(Nat.sub_add_cancel h).symm
theorem Pa{a b c d:Nat}(h:a≤b+c):a≤b+(c+d):=Nat.le_trans h (Nat.add_le_add_left (Nat.le_add_right c d) b)
theorem X4{a b c d:Nat}(h:a+b≤c):a≤c+d:=Ey (C6 h)
theorem A4w{a b c:Nat}(h:a=b+c):b≤a:=h▸Nat.le_add_right b c
theorem Aeb{a b c:Nat}(h:a=b)(h1:c=b):a=c:=h.trans h1.symm
theorem Ve{a b c d:Nat}(h:a=b)(h1:c=a+d):c=b+d:=h▸h1
theorem Abq{a b:Nat}(h:a=b):a≤b:=Nat.le_of_eq h
theorem Mz{a b:Nat}(h:a=b):b≤a:=Nat.le_of_eq h.symm
theorem Af7{a b c:Nat}(h:a+b≤c):a≤c - b:=Nat.le_sub_of_add_le h
theorem Aji{a b i j:Nat}(h:a+b≤i)(k:Nat.ble i j=true:=by rfl):a≤j:=Nat.le_trans (C6 h) (Nat.le_of_ble_eq_true k)
theorem Hj{a:Nat}:¬a+1=0:=Nat.succ_ne_zero a
theorem Nh{a b c d e:Nat}(h:a≤b) (h1:c+(d+1)=a) (h2:e=c):e < b:=h2▸Nat.lt_of_lt_of_le (E1 h1) h
theorem Nl{a b c d:Nat}(h:a < b+c+d):a < b+(d+c):=by rw [Nat.add_comm d c,← Nat.add_assoc];exact h
theorem P9{a b:Nat}:a < a+(b+1):=Nat.lt_add_of_pos_right (Nat.succ_pos b)
theorem S2{a b c d:Nat}(h:a=b) (h1:c+(d+1)=b):c < a:=h▸E1 h1
theorem Sn{a b c:Nat}:a+(b+c)=a+c+b:=by rw [Nat.add_comm b c,Nat.add_assoc]
theorem V7{a b c d:Nat}(h:a≤b) (h1:b+(c+a)≤d):a≤b∧b≤d:=⟨h,C6 h1⟩
theorem Vk{a b c d:Nat} (h:a < b+(c+d)):a < b+d+c:=by rw [Nat.add_assoc,Nat.add_comm d c];exact h
theorem T8{a b i j:Nat}(h:a≤b∧b≤i)(d:Nat.ble i j=true:=by rfl):b≤j:=Nat.le_trans h.2 (Nat.le_of_ble_eq_true d)
theorem y_1{a b c:Int}(h:b≤a) (d:decide (c≤b)=true:=by rfl):c≤a:=Int.le_trans (of_decide_eq_true d) h
theorem Fl{a:Nat}:(0:Int) < ((a+1:Nat):Int):=Int.ofNat_lt.mpr (Nat.succ_pos a)
theorem Fh{a:Nat}:((a+1:Nat):Int) - 1=a:=Int.add_sub_cancel a 1
theorem Bs{a:Nat}:(0:Int)≤a:=Int.natCast_nonneg a
theorem y_8{a b:Int}(h:a≤b):a≤b+1:=Int.le_trans h (Int.le_of_lt (Int.lt_succ b))
theorem Fq{a b:Nat}:(a:Int)+b=((a+b:Nat):Int):=rfl
theorem A28{a:Nat}{b:Int} (h:b=(a:Int)):0≤b:=h▸Int.natCast_nonneg a
theorem A14{a b:Nat} (h:((a+1:Nat):Int)≤(b:Int)):a < b:=Int.ofNat_le.mp h
theorem Abm{a b:Int}(h:¬a < b):b≤a:=Int.not_lt.mp h
theorem J9{a b c:Int}(h:a≤b)(h1:b≤c):a≤c:=Int.le_trans h h1
theorem Wk{a b d:Int}{c:Nat} (h:a - b≤((c+1:Nat):Int)) (h1:b≤d):a - (d+1)≤c:=by omega
theorem A4r{a b d:Int}{c:Nat} (h:a - b≤((c+1:Nat):Int)) (h1:d < a):d - b≤c:=by omega
theorem A2l{a b c:Int}(h:a≤b)(h1:b≤c):a≤c+1:=y_8 (Int.le_trans h h1)
theorem A1u{a c:Int}{b:Nat}(h:a≤b)(h1:c < a):c≤b:=Int.le_trans (Int.le_of_lt h1) h
theorem A0v{a:Int}:a≤a:=Int.le_refl a
theorem N8{a b:Nat}(h:a < b):(a:Int) < b:=Int.ofNat_lt.mpr h
theorem Aju{a b d:Int}{c:Nat}(h0:0≤a)(h1:b≤c)(h2:a < b)(h3:d < b):d.toNat < c:=by omega
theorem A1t{a b:Int} (h0:a - b≤((0:Nat):Int)):¬b < a:=by omega
theorem Aa9{a:Nat}:¬(a:Int) < 0:=Int.not_lt.mpr (Int.natCast_nonneg a)
theorem A3n{a b:Int}(h:a≤b):¬b < a:=Int.not_lt.mpr h
theorem Ajk{a b:Int}(h:a < b)(h1:c < a):c < b:=Int.lt_trans h1 h
theorem Aij{a b:Int}{c d:Nat}(h:a≤b∧b≤c)(h1:d=c):b≤d:=h1▸h.2
theorem Aj0{a b:Int}(h:¬a≤b):b < a:=Int.not_le.mp h
theorem J6{a:Int}{b:Nat}(h:a=b):a+1=((b+1:Nat):Int):=h▸rfl
theorem Ly{a:Nat}{i:Nat}{j:Int}(h:a≤i) (d:decide ((i:Int)≤j)=true:=by rfl):(a:Int)≤j:=Int.le_trans (Int.ofNat_le.mpr h) (of_decide_eq_true d)
theorem Af8{a:Int}{i:Int}{j:Nat}(h:a≤i) (d:decide (i≤j)=true:=by rfl):a.toNat≤j:=by have:=of_decide_eq_true d;omega
theorem Aii{a:Nat}:2*(a:Int)=((2*a:Nat):Int):=rfl
theorem Ajc{a b:Int}(h:a < b):¬b≤a:=Int.not_le.mpr h
theorem T6{a b c i:Nat}{j:Int} (h:a+(b+c)≤i) (d:decide ((i:Int)≤j)=true:=by rfl):(a:Int)≤j:=Int.le_trans (Int.ofNat_le.mpr (C6 h)) (of_decide_eq_true d)
theorem La{a b i:Nat}{j:Int}(h:a≤b∧b≤i) (d:decide ((i:Int)≤j)=true:=by rfl):(b:Int)≤j:=Int.le_trans (Int.ofNat_le.mpr h.2) (of_decide_eq_true d)
theorem Af{G:Prop} (h:∀P:Prop,(G→P)→P):G:=h G id
noncomputable def den:Code→Sem PySem.Fin:=PySem.W.Fast.tw11892475500146522536 PySem.W.Fast.tw14364793385576792824
theorem O2:denote table=den:=by
 unfold den
 rw [PySem.W.Fast.te11892475500146522536,← PySem.W.Fast.te14364793385576792824,PySem.table_eq_tree]
noncomputable def H0:Code→Bool:=PySem.W.ZFast.zw17772548960776305114
theorem Iw:Code.quiet=H0:=PySem.W.ZFast.ze17772548960776305114
theorem Vo{a b:Addr}(h:a≠b):listSameRef (.ref a) (.ref b)=false:=by
 show (a == b)=false
 exact beq_false_of_ne h
theorem Vi{α β:Type}(a:α)(f:α→Sem β):(pure a >>= f)=f a:=rfl
noncomputable def Ad3(a b:Addr)(r:Value):Sem PySem.Fin:=
 listItems (.ref b) >>= fun new=>listItems (.ref a) >>= fun own=>
  if (!own.isEmpty && listTooLong (own.size+new.size))=true then unsupported "list.extend:memory" >>= fun (_:Unit)=>listUpdate (.ref a) (·++new) >>= fun _=>ret r
  else listUpdate (.ref a) (·++new) >>= fun _=>ret r
noncomputable def Ack(a b:Addr)(r t:Value):Sem PySem.Fin:=
 pyIter (.ref b) >>= fun it=>holding [it] (listLengthHint (.ref b)) >>= fun room=>
  if (room || ["set","frozenset","dict","dict_keys","dict_values","dict_items"].any fun n=>t == .type n)=true then rule "list.extend.makes-room" >>= fun _=>listTouch (.ref a) >>= fun _=>again (.builtin "list.extend.loop" ⟨[.ref a,it,r],[]⟩)
  else again (.builtin "list.extend.loop" ⟨[.ref a,it,r],[]⟩)
noncomputable def extT(a b:Addr)(r:Value):Sem PySem.Fin:=
 typeOf (.ref b) >>= fun t=>if (t == .type "list" || t == .type "tuple")=true then Ad3 a b r else Ack a b r t
theorem A9b{a b:Addr}(h:a≠b):Builtin.«list.__iadd__» ⟨[.ref a,.ref b],[]⟩=extT a b (.ref a):=by
 unfold Builtin.«list.__iadd__» listExtendWith
 rw [show slotArgs "__iadd__" 1 ⟨[.ref a,.ref b],[]⟩=pure (.ref a,[.ref b]) from rfl,Vi]
 dsimp only
 rw [Vo h]
 rfl
theorem Aab{a b:Addr}(h:a≠b):Builtin.«list.extend» ⟨[.ref a,.ref b],[]⟩=extT a b .none:=by
 unfold Builtin.«list.extend» listExtendWith
 rw [show selfAndOne "list.extend" ⟨[.ref a,.ref b],[]⟩=pure (.ref a,.ref b) from rfl,Vi]
 dsimp only
 rw [Vo h]
 rfl
noncomputable def Ab0(a:Addr)(p:Value×Value×Value)(new:Array Value):Sem PySem.Fin:=do
 let xs←listItems (.ref a)
 let (lo,hi,by_)←sliceIndices p.1 p.2.1 p.2.2 xs.size
 if by_ == 1 then
  rule "list.__setitem__.slice"
  if listTooLong (xs.size+new.size) then unsupported "list.__setitem__:memory"
  listUpdate (.ref a) fun xs=>xs.extract 0 lo.toNat++new++xs.extract (max lo hi).toNat xs.size
  letGo (xs.extract lo.toNat (max lo hi).toNat).toList.reverse
  return←ret .none
 let at_:=sliceRange lo hi by_
 if new.size != at_.length then
  rule "list.__setitem__.extended-slice-size"
  raiseError "ValueError" s!"attempt to assign sequence of size {new.size} to extended slice of size {at_.length}"
 rule "list.__setitem__.extended-slice"
 listUpdate (.ref a) fun xs=>(at_.zip new.toList).foldl (fun xs (k,x)=>xs.setIfInBounds k x) xs
 letGo (at_.filterMap (xs[·]?))
 ret .none
noncomputable def Lh(a i b:Addr):Sem PySem.Fin:=
 listSliceParts (.ref i) >>= fun p=>listAllItems (.ref b) "must assign iterable to extended slice" >>= fun new=>Ab0 a p new
theorem Zo(a i b:Addr):∃G:Option Int→Sem PySem.Fin,Builtin.«list.__setitem__» ⟨[.ref a,.ref i,.ref b],[]⟩=(listSubscript? (.ref i) >>= G) ∧
  (a≠b→G none=typeOf (.ref i) >>= fun t=>if (t != .type "slice")=true then listBadSubscript (.ref i) >>= fun (_:Unit)=>Lh a i b else Lh a i b):=by
 unfold Builtin.«list.__setitem__» Lh Ab0
 rw [show listBlankSlotArgs "__setitem__" 2 ⟨[.ref a,.ref i,.ref b],[]⟩=pure (.ref a,[.ref i,.ref b]) from rfl,Vi]
 dsimp only
 refine ⟨_,rfl,fun h=>?_⟩
 rw [Vo h]
 rfl
noncomputable def Ajb(a i b:Addr)(k:Int):Sem PySem.Fin:=(Zo a i b).choose (some k)
noncomputable def setT(a i b:Addr):Sem PySem.Fin:=
 listSubscript? (.ref i) >>= fun k=>match k with
  |some k=>Ajb a i b k
  |none=>typeOf (.ref i) >>= fun t=>if (t != .type "slice")=true then listBadSubscript (.ref i) >>= fun (_:Unit)=>Lh a i b else Lh a i b
theorem Ae4{a i b:Addr}(h:a≠b):Builtin.«list.__setitem__» ⟨[.ref a,.ref i,.ref b],[]⟩=setT a i b:=by
 obtain ⟨h1,h2⟩:=(Zo a i b).choose_spec
 rw [h1]
 unfold setT
 congr 1
 funext k
 cases k with
 |none=>exact h2 h
 |some k=>rfl
lay_quick extT setT
theorem extT_e:extT=extT:=rfl
name_quick extF for extT by extT_e
theorem setT_e:setT=setT:=rfl
name_quick setF for setT by setT_e
noncomputable def alt(c:Code):Option (Addr×Addr×Sem PySem.Fin):=match c with
 |.builtin id args=>match args.pos with
  |.ref a::rest=>match args.kw with
   |[]=>match rest with
    |[.ref b]=>match Nat.beq (code id) (code "list.__iadd__") with
     |true=>some (a,b,PySem.W.Fast.extF a b (.ref a))
     |false=>match Nat.beq (code id) (code "list.extend") with
      |true=>some (a,b,PySem.W.Fast.extF a b .none)
      |false=>none
    |[.ref i,.ref b]=>match Nat.beq (code id) (code "list.__setitem__") with
     |true=>some (a,b,PySem.W.Fast.setF a i b)
     |false=>none
    |_=>none
   |_=>none
  |_=>none
 |_=>none
theorem Ja{id:String}{args:Args}{b:Builtin}(h:entryFor table id=some b):denote table (.builtin id args)=b args:=by
 show (match entryFor table id with | some b=>b args | none=>_)=_
 rw [h]
theorem Acm{c:Code}{a b:Addr}{t:Sem PySem.Fin} (e:alt c=some (a,b,t)) (h:a≠b):den c=t:=by
 rw [← O2]
 unfold alt at e
 split at e
 ·rename_i id args
  obtain ⟨ps,kw⟩:=args
  split at e
  ·rename_i a' rest hp
   split at e
   ·rename_i hk
    dsimp only at hp hk
    subst hp hk
    split at e
    ·rename_i b'
     split at e
     ·rename_i hc
      have hid:=code_inj _ _ (Nat.eq_of_beq_eq_true hc)
      subst hid
      simp only [Option.some.injEq,Prod.mk.injEq] at e
      refine Af fun Gz hGz=>?_
      obtain ⟨rfl,rfl,rfl⟩:=e
      refine hGz ?_
      rw [Ja (show entryFor table "list.__iadd__"=some Builtin.«list.__iadd__» from entryFor_of_tree (by kernel_rfl)),A9b h,PySem.W.Fast.extF_eq]
     ·split at e
      ·rename_i hc
       have hid:=code_inj _ _ (Nat.eq_of_beq_eq_true hc)
       subst hid
       simp only [Option.some.injEq,Prod.mk.injEq] at e
       refine Af fun Gz hGz=>?_
       obtain ⟨rfl,rfl,rfl⟩:=e
       refine hGz ?_
       rw [Ja (show entryFor table "list.extend"=some Builtin.«list.extend» from entryFor_of_tree (by kernel_rfl)),Aab h,PySem.W.Fast.extF_eq]
      ·cases e
    ·rename_i i b'
     split at e
     ·rename_i hc
      have hid:=code_inj _ _ (Nat.eq_of_beq_eq_true hc)
      subst hid
      simp only [Option.some.injEq,Prod.mk.injEq] at e
      refine Af fun Gz hGz=>?_
      obtain ⟨rfl,rfl,rfl⟩:=e
      refine hGz ?_
      rw [Ja (show entryFor table "list.__setitem__"=some Builtin.«list.__setitem__» from entryFor_of_tree (by kernel_rfl)),Ae4 h,PySem.W.Fast.setF_eq]
     ·cases e
    ·cases e
   ·cases e
  ·cases e
 ·cases e
section
noncomputable abbrev LO:=List (Addr×Obj)
noncomputable def Kb:Nat:=0x1000400102
noncomputable def Ud:Nat:=0x20408002000a14082
noncomputable def Uz:Nat:=0xe043870e04381021c0000e000870e1c3870e1c3870e04081
noncomputable def o3_:Nat:=0xb162c0800000000002408100000001204089122448e183030c18006001830606183000c003060c0c30600180060c00180060c184011000081022800a00285801400500142800006041020204082000410002040810204107122408108040880004100020408202040820e04080021c38102000810204100
noncomputable def o4_:Nat:=0x2c58b02000000000009020400000004810224489123860c0c30600180060c181860c003000c183030c180060018300060018306100440010004001020081022800a00285801400500142800006041020204082000410002040810204107122408108040880004100020408202040820e04080021c38102000810204100
noncomputable def o5_:Nat:=0x58b160478f00004890224489123860c0c30600180060c181860c003000c183030c180060018300060018306100440010004001020081022800a002800b162c58b162850a002800a14284090200500140050a14000091204084020440002080010204101020410702000870e0408002040810400000
noncomputable def o6_:Nat:=0x3060c0458b0000204021020408284080e204001000408101c4080020008102038810004001020007001c387060418002040850014005
noncomputable def o7_:Nat:=0x18581120418002040850014005
noncomputable def o8_:Nat:=0xd1a34091220000b160458b162c80e1c1470e003800e1c3828e1c007001c387051c3800e00387000a002850a1c087001c007001c381020460018006001a3468d1a3460c1800600183060a160400c003000c1830000162c0810810204020438002080010204101020410602000860c0408002040810400000
noncomputable def o9_:Nat:=0x106041020204082000408104180830208101020410002040820c04084081000108003870a10081021008102100810210380021c3870e1c38102000860c1420102040840204084020408406041020204082000408104180010c183060c18081
noncomputable def A2r:Nat:=0x50a140840204084021000108000810210904081020f1e4c993264c6820204200020408402109122400092244890102040010e14201020408402040840204084060410202040820004081041c081060410202040820004081041c0810c18306060410202040820004081041c3871a10204084081122448911c08081080008102100841a3468d083870e1c380010800081021008402040841a340011a3468d0204080021c284020408108040810804081080c082040408104000810208380001c0000e000000e1c380120048012244800800084000408108042010204207060410202040820004081041c0000e1c38c183060c183000c003000c162c580160058b1600580162c000000000000000810a100810204201020420102042030208101020410002040820e040870e2850a14005001400500000c082040408104000810208381060410202040820004081041c0830208101020410002040820e04084081000108004080a100810210081021008102104000220408102040102000870e14201020408402040840204084060410202040820004081041c0010e1c3870e1c081
noncomputable def A3g:Nat:=0xa14281080408108042000210001020420f08102042040891224488e04040840004081080420f1e3c78f000478f1e3c08102000850804081021008102100810210181040808102080010204108020418104080810208001020410802043060c181810408081020800102041080204701020408102100810210700001408408040810800084000408102040841c0008e1c0408002142010204084020408402040840604102020408200040810420000020c082040408104000810208401021020400042001830284020408402040840204084180008c183060c1804080140008a162c58b161c385120400710000800a0420402040810204200021000102040810210181040808102080010204108021c4871020401021420102040840204084020408406041020204082000408104200011020081
noncomputable def A0u:Nat:=0x102000020a100810204201020420102042020408083
noncomputable def A4i:Nat:=0x1021828102040850204085020408504044010e1c3800e003870000000021020404080810408083
noncomputable def A3i:Nat:=0x1408408040810800081021018114044891200480122400000000830204081060c08102041810004183060c081
noncomputable def Abe:Nat:=0x28049070e08387001c00700040811800600183400d1a340800000000002c0810000000160408b162c5901c3820e1c007001c387041c3800e003870e08387001c0070e001000408103870e08387001c007001c007001c3810204600180060d003000c0030600000c08204040810400082000408102040820c2c58102142850a040870004100020408202040820c04080021830102000810204100
noncomputable def Aa3:Nat:=0xa01241c3820e1c007001c0010204600180060d003468d0200000000000b02040000000581022c58b164070e08387001c0070e1c1070e003800e1c3820e1c007001c3800400102040e1c3820e1c007001c0010204600180060d003000c0030600000c08204040810400082000408102040820c2c58102142850a040870004100020408202040820c04080021830102000810204100
noncomputable def A1a:Nat:=0x102040408104042850a08101081020204040820214285040808408101020408083
noncomputable def A2g:Nat:=0x408104042850a08101081020204040820214285040808408101020408083
noncomputable def A2n:Nat:=0x41060c183020214281021428204044010e1c3800e003870000000020808102041020408083
noncomputable def A18:Nat:=0x3060448110204001000408000000006040830618306060c0840008002040c001060c183060c081
noncomputable def A12:Nat:=0x20408002000a0408602140810a14082
noncomputable def A3p:Nat:=0x408602140810a14082
noncomputable def A4s:Nat:=0x81020210284020c183040810204040820404102
noncomputable def A3b:Nat:=0x4080820210284020c183040810204040820404102
noncomputable def A40:Nat:=0x40210204021008108000040004204081020408102040204081
noncomputable def A3m:Nat:=0x204041020408083
noncomputable def A4t:Nat:=0x40810404082020808104040820408083
noncomputable def A0t:Nat:=0x2040820208084081010204040820408083
noncomputable def A0p:Nat:=0x20408202040820218306040810108102020408081041c3870e080860c040860c081020404008002000810200850a142820408083
noncomputable def A1b:Nat:=0x6047011a346801a0068d00000000604083062c58b060c0890008002040c088021c387001c0070e00000000418102040830604281081020008002040000000020c081060c001060c183060c081
noncomputable def A0y:Nat:=0x408082040808200001020408083
noncomputable def A3d:Nat:=0x4080870e08101021c387040810202103040214280001408102080810408081040408204080820408082000010200001020408083
noncomputable def A50:Nat:=0x408084080810102102040408081040408204080820408082000010200001020408083
noncomputable def A3o:Nat:=0x40010004080c183060c10200040800400000
noncomputable def A0x:Nat:=0x8102020c081020c083000418002040830804084020410204041810204181060008300040810610201080408204080830204083020c0010600081020c204040810106040810604180020c0010204184080450104041830204083000408106102040810204081020408104060c1430600180060c182860c003000c183050c1800600183000a002850a0408102040010004081020408100040010208102020c081020c083000418002040830810001081020402040010204083020c0810204081020408102040800204081020408002040800200081
noncomputable def A1w:Nat:=0x1020204084081010202081020408083
noncomputable def A1y:Nat:=0x102041810408081020800102041060c18301160450a140050014280000000086020430102183060c183090e1c2070e003800e1c3840e1c007001c387081c3800e003870010004081018104080810208001020410600043060c18081
noncomputable def A3k:Nat:=0x4081042848102040890204089020408904040820c140810204281020428102042820408083
noncomputable def A3h:Nat:=0x204082142408102044810204481020448202041060a0408102140810214081021410208102040404081042848102040890204089020408904040820c140810204281020428102042820408083
noncomputable def A2y:Nat:=0x280920244891004401122000000004501022850a140468d1a3c60c1630600180060d003468d023060b183000c00306801a3468c182c60c003000c1a00600160058b00000810e1808102043010204301020430a02041820204081040408104040810428081000450a1428081
noncomputable def A19:Nat:=0x14049012244880220089100000000228081142850a023468d1e3060b183000c0030680023060b183000c00306801a3468c182c60c003000c1a00600160058b00000810e1808102043010204301020430a02041820204081040408104040810428081000450a1428081
noncomputable def A2u:Nat:=0x2040410202040000c183080a142050a002800a180060c180850a1028500140050c003060c142840a1400500143000a00200081000004080810000000040c1830608082
noncomputable def A33:Nat:=0x102020810102000060c184050a1028500140050c000850a1028500140050c003060c142840a1400500143000a00200081000004080810000000040c1830608082
noncomputable def A4y:Nat:=0x1040808408101020408083
noncomputable def A1i:Nat:=0x6043010a142800a002850000000020c08102041830004183060c081
noncomputable def A0z:Nat:=0x3060c00300040840810082
noncomputable def A3u:Nat:=0x3060c003000408110204040a040870e1c2060810082
noncomputable def A1d:Nat:=0x1830600180020440810102810e1c3840c0408810202050810082
noncomputable def A4v:Nat:=0x408810202050810082
noncomputable def A1x:Nat:=0xc183000c0040810082
noncomputable def A1f:Nat:=0x4080820208084020c183040810204040820404102
noncomputable def A17:Nat:=0x81020208084020c183040810204040820404102
noncomputable def A15:Nat:=0x81020204201060c182040810204040820404102
noncomputable def A3l:Nat:=0x4080820204201060c182040810204040820404102
noncomputable def A3q:Nat:=0x60c180060008100000840810082
noncomputable def A4b:Nat:=0xc183000c00102000040810082
noncomputable def A2t:Nat:=0xc183000c00102180840810082
noncomputable def A3w:Nat:=0x183060018002043040810082
noncomputable def A4q:Nat:=0x1830600180020458b16044800e003870c0408502202850a14082
noncomputable def A4h:Nat:=0x18306001800220281022c58b0224007001c38602042850a14082
structure Zed where
 prog:Program
 w:World
 kt:KT
 tabs:List Nat
 n₁:Nat
 os:OsState
structure Zed.Ok (z:Zed):Prop where
 low:∀b o,z.kt.get b=some o→b < z.n₁
noncomputable def Av (below:List (Code×Pos)):List Frame:=below.map fun x=>.ret (fun _=>.unsupported "") none false [] x.1 x.2 []
noncomputable def Cx(c:Code) (below:List (Code×Pos)):PySem.Ctx:=⟨c,none,none,below,none⟩
noncomputable def Jb(l:List Nat)(a:Nat):Bool:=match l with
 |[]=>false
 |b::l=>match Nat.beq a b with
  |true=>true
  |false=>Jb l a
structure St (z:Zed) (s:Shared) (n t g:Nat) (l:LO):Prop where
 ok:z.Ok
 knows:∀p∈l,s.heap.get? p.1=some p.2
 nodup:(l.map (·.1)).Nodup
 fit:∀a∈l.map (·.1),Jb z.tabs a=true∨z.n₁≤a
 stat:∀b o,z.kt.get b=some o→Jb z.tabs b=false→s.heap.get? b=some o
 low:z.n₁≤n
 bare:AllBare s.gens
 os:s.os=z.os
 hn:s.heap.objs.size=n
 ht:s.toks=t
 hg:s.gens.size=g
structure Keep (s s':Shared) (as:List Addr):Prop where
 heap:∀b o,s.heap.get? b=some o→b ∉ as→s'.heap.get? b=some o
 gens:∀j,j < s.gens.size→s'.gens[j]?=s.gens[j]?
 size:s.heap.objs.size≤s'.heap.objs.size
 gsize:s.gens.size≤s'.gens.size
def Does(z:Zed)(c:Code) (below:List (Code×Pos)) (l:LO) (n t g:Nat) (res:Result) (l':LO) (n' t' g':Nat):Prop:=
 ∀s p,St z s n t g l→wpCode (model z.prog z.w) (Cx c below) (fun r s'=>r=res∧St z s' n' t' g' l'∧Keep s s' (l.map (·.1))) p s
structure Ans where
 res:Result
 js:List Nat
 os:List Obj
 news:LO
 nb:Nat
 m:Nat
 tb:Nat
 i:Nat
 gb:Nat
 gi:Nat
structure Log where
 c':Code
 bl:List (Code×Pos)
 l:LO
 n:Nat
 t:Nat
 g:Nat
 x:Ans
 pa:Option (LO×LO)
noncomputable def Ch(A:BT)(j:Nat):Nat:=match A.get j with
 |some o=>match o.cls with
  |.ref a=>a
  |_=>0
 |none=>0
noncomputable def Hy(a:Nat):Obj:={cls:=.ref a,data:=.plain}
noncomputable def nth:List Nat→Nat→Nat
 |[],_=>0
 |a::_,0=>a
 |_::l,j+1=>nth l j
def Hk(T A:BT):List Nat→Option LO
 |[]=>some []
 |j::js=>match T.get j with
  |none=>none
  |some o=>match Hk T A js with
   |none=>none
   |some l=>some ((Ch A j,o)::l)
noncomputable def Ih:BT→List Nat→List Obj→BT
 |T,j::js,o::os=>Ih (T.set j fun _=>o) js os
 |T,_,_=>T
def Fd:BT→BT→Nat→LO→Option (BT×BT×Nat)
 |T,A,k,[]=>some (T,A,k)
 |T,A,k,x::l=>match (T.ins k x.2).get k with
  |none=>none
  |some _=>match (A.ins k (Hy x.1)).get k with
   |none=>none
   |some _=>Fd (T.ins k x.2) (A.ins k (Hy x.1)) (k+1) l
noncomputable def K3:List Frame→Bool
 |[]=>true
 |.ret _ none _ _ _ _ _::l=>K3 l
 |.gen ..::l=>K3 l
 |_=>false
structure PP where
 ps:LO
 pq:List (Option LO)
noncomputable def PP.told(x:PP):Option (LO×LO):=match x.pq with
 |some ps'::_=>some (x.ps,ps')
 |_=>none
noncomputable def PP.next(x:PP):PP:=match x.pq with
 |[]=>x
 |some ps'::r=>⟨ps',r⟩
 |none::r=>⟨x.ps,r⟩
structure Out where
 why:Nat
 t:Sem Fin
 c:Code
 p:Pos
 pre:List Frame
 T:BT
 A:BT
 k:Nat
 nb:Nat
 m:Nat
 tb:Nat
 i:Nat
 gb:Nat
 gi:Nat
 GA:List Nat
 gs:List GenState
 ob:List (Nat×Nat)
 lg:List Log
 orc:Nat
 xs:List Ans
 pp:PP
structure Q where
 nb:Nat
 tb:Nat
 gb:Nat
 gi:Nat
 GA:List Nat
 gs:List GenState
 lg:List Log
 xs:List Ans
 pp:PP
noncomputable abbrev A5g:=Code→Pos→List Frame→BT→BT→Nat→Nat→Nat→List (Nat×Nat)→Nat→Q→Out
abbrev Iu:=Sem Fin→A5g
noncomputable def Bq(why:Nat):Iu:=fun t c p pre T A k m i ob orc q=>⟨why,t,c,p,pre,T,A,k,q.nb,m,q.tb,i,q.gb,q.gi,q.GA,q.gs,ob,q.lg,orc,q.xs,q.pp⟩
noncomputable def R6(T:BT)(c:Code)(i j:Nat):Option (Addr×Addr×Sem Fin):=match Nat.beq i j with
 |true=>none
 |false=>match T.get i with
  |none=>none
  |some _=>match T.get j with
   |none=>none
   |some _=>alt c
section
variable (z:Zed) (below:List (Code×Pos)) (ih:Iu)
def Iz(g:Nat)(t:Sem Fin)(x:GenState)(c:Code)(p:Pos)(pre:List Frame)(T A:BT)(k m i:Nat) (ob:List (Nat×Nat)) (d orc:Nat) (q:Q):Out:=match d with
 |0=>Bq 9 t c p pre T A k m i ob orc q
 |j+1=>match q with
  |⟨nb,tb,gb,gi,GA,gs,lg,xs,pp⟩=>match gs[j]? with
   |none=>Bq 9 t c p pre T A k m i ob orc q
   |some _=>ih t c p pre T A k m i ((g,nth GA j)::ob) orc ⟨nb,tb,gb,gi,GA,gs.set j x,lg,xs,pp⟩
noncomputable def Aa0(f:Flow)(c:Code)(p:Pos)(pre:List Frame):BT→BT→Nat→Nat→Nat→List (Nat×Nat)→Nat→Q→Out:=match pre with
 |[]=>Bq 2 (.pure (.done f)) c p []
 |F::pre'=>match F with
  |.ret kk _ _ _ c' p' _=>ih (kk (.ok f)) c' p' pre'
  |.gen g kk _ c' p'=>fun T A k m i ob orc q=>Iz ih g (kk (.returned (match f with |.ret v=>v |_=>.none))) .finished c' p' pre' T A k m i ob (orc % 128) (orc / 128) q
noncomputable def Jr(c':Code)(c:Code)(p:Pos)(pre:List Frame)(T A:BT)(k m i:Nat) (ob:List (Nat×Nat)) (d orc:Nat) (q:Q):Out:=match H0 c' with
 |false=>Bq 5 (.pure (.again c')) c p pre T A k m i ob orc q
 |true=>match d with
  |0=>ih (den c') c' p pre T A k m i ob orc q
  |_+1=>match R6 T c' (orc % 128) (orc / 128 % 128) with
   |none=>Bq 12 (.pure (.again c')) c p pre T A k m i ob orc q
   |some r=>ih r.2.2 c' p pre T A k m i ((r.1,Ch A (orc % 128))::(r.2.1,Ch A (orc / 128 % 128))::ob) (orc / 128 / 128) q
noncomputable def Acj(fin:Fin)(c:Code)(p:Pos)(pre:List Frame):BT→BT→Nat→Nat→Nat→List (Nat×Nat)→Nat→Q→Out:=match fin with
 |.done f=>Aa0 ih f c p pre
 |.again c'=>fun T A k m i ob orc q=>Jr ih c' c p pre T A k m i ob (orc % 128) (orc / 128) q
noncomputable def A7g(e:Value)(c:Code)(p:Pos)(pre:List Frame):BT→BT→Nat→Nat→Nat→List (Nat×Nat)→Nat→Q→Out:=match pre with
 |[]=>Bq 2 (.raise e) c p []
 |F::pre'=>match F with
  |.ret kk _ _ _ c' p' _=>ih (kk (.error e)) c' p' pre'
  |.gen g kk _ c' p'=>fun T A k m i ob orc q=>Iz ih g (kk (.raised e)) .finished c' p' pre' T A k m i ob (orc % 128) (orc / 128) q
noncomputable def F7(a:Addr)(kk:Obj→Sem Fin)(c:Code)(p:Pos)(pre:List Frame)(T A:BT)(k m i:Nat) (ob:List (Nat×Nat)) (d orc:Nat) (q:Q):Out:=match d with
 |0=>Bq 1 (.load a none kk) c p pre T A k m i ob orc q
 |d+1=>match d with
  |0=>match Jb z.tabs a with
   |true=>Bq 1 (.load a none kk) c p pre T A k m i ob orc q
   |false=>match z.kt.get a with
    |none=>Bq 1 (.load a none kk) c p pre T A k m i ob orc q
    |some o=>ih (kk o) c p pre T A k m i ob orc q
  |j+1=>match T.get j with
   |none=>Bq 1 (.load a none kk) c p pre T A k m i ob orc q
   |some o=>ih (kk o) c p pre T A k m i ((a,Ch A j)::ob) orc q
noncomputable def Jj(o:Obj)(kk:Addr→Sem Fin)(c:Code)(p:Pos)(pre:List Frame)(T A:BT)(k m i:Nat) (ob:List (Nat×Nat)) (orc:Nat) (q:Q):Out:=match o.isFreed with
 |true=>Bq 4 (.alloc o kk) c p pre T A k m i ob orc q
 |false=>match (T.ins k o).get k with
  |none=>Bq 4 (.alloc o kk) c p pre T A k m i ob orc q
  |some _=>match (A.ins k (Hy (q.nb+m))).get k with
   |none=>Bq 4 (.alloc o kk) c p pre T A k m i ob orc q
   |some _=>ih (kk (q.nb+m)) c p pre (T.ins k o) (A.ins k (Hy (q.nb+m))) (k+1) (m+1) i ob orc q
noncomputable def I5(a:Addr)(f:Obj→Obj)(kk:Unit→Sem Fin)(c:Code)(p:Pos)(pre:List Frame)(T A:BT)(k m i:Nat) (ob:List (Nat×Nat)) (d orc:Nat) (q:Q):Out:=match d with
 |0=>Bq 3 (.update a none f kk) c p pre T A k m i ob orc q
 |d+1=>match d with
  |0=>Bq 3 (.update a none f kk) c p pre T A k m i ob orc q
  |j+1=>match T.get j with
   |none=>Bq 3 (.update a none f kk) c p pre T A k m i ob orc q
   |some o=>match (f o).isFreed with
    |true=>Bq 4 (.update a none f kk) c p pre T A k m i ob orc q
    |false=>ih (kk ()) c p pre (T.set j f) A k m i ((a,Ch A j)::ob) orc q
noncomputable def Zs(own:Bool)(kk:Option Value→Sem Fin)(c:Code)(p:Pos)(pre:List Frame):BT→BT→Nat→Nat→Nat→List (Nat×Nat)→Nat→Q→Out:=match own with
 |false=>ih (kk (topHandled (pre++Av below))) c p pre
 |true=>Bq 7 (.handled true kk) c p pre
noncomputable def N1(c':Code)(h:Option Value)(gd:Bool)(lv:List Value)(kk:Result→Sem Fin)(c:Code)(p:Pos)(pre:List Frame)(T A:BT)(k m i:Nat) (ob:List (Nat×Nat)) (orc:Nat) (q:Q):Out:=match h with
 |some _=>Bq 10 (.call c' h gd lv kk) c p pre T A k m i ob orc q
 |none=>match K3 pre with
  |false=>Bq 10 (.call c' h gd lv kk) c p pre T A k m i ob orc q
  |true=>match q with
   |⟨nb,tb,gb,gi,GA,gs,lg,xs,pp⟩=>match xs with
    |[]=>Bq 11 (.call c' h gd lv kk) c p pre T A k m i ob orc q
    |x::xs'=>match Hk T A x.js with
     |none=>Bq 11 (.call c' h gd lv kk) c p pre T A k m i ob orc q
     |some l=>match Fd (Ih T x.js x.os) A k x.news with
      |none=>Bq 11 (.call c' h gd lv kk) c p pre T A k m i ob orc q
      |some r=>ih (kk x.res) c p pre r.1 r.2.1 r.2.2 x.m x.i ob orc ⟨x.nb,x.tb,x.gb,x.gi,GA,gs,⟨c',(c,p)::(pre.map Frame.where_++below),l,nb+m,tb+i,gb+gi,x,pp.told⟩::lg,xs',pp.next⟩
noncomputable def M0(c':Code)(h:Option Value)(gd:Bool)(lv:List Value)(kk:Result→Sem Fin)(c:Code)(p:Pos)(pre:List Frame)(T A:BT)(k m i:Nat) (ob:List (Nat×Nat)) (d orc:Nat) (q:Q):Out:=match d with
 |0=>ih (den c') c' p (.ret kk h gd lv c p []::pre) T A k m i ob orc q
 |d+1=>match d with
  |0=>N1 below ih c' h gd lv kk c p pre T A k m i ob orc q
  |_+1=>match R6 T c' (orc % 128) (orc / 128 % 128) with
   |none=>Bq 12 (.call c' h gd lv kk) c p pre T A k m i ob orc q
   |some r=>ih r.2.2 c' p (.ret kk h gd lv c p []::pre) T A k m i ((r.1,Ch A (orc % 128))::(r.2.1,Ch A (orc / 128 % 128))::ob) (orc / 128 / 128) q
noncomputable def A4n(c':Code)(kk:Nat→Sem Fin)(c:Code)(p:Pos)(pre:List Frame)(T A:BT)(k m i:Nat) (ob:List (Nat×Nat)) (orc:Nat) (q:Q):Out:=match q with
 |⟨nb,tb,gb,gi,GA,gs,lg,xs,pp⟩=>ih (kk (gb+gi)) c p pre T A k m i ob orc ⟨nb,tb,gb,gi+1,GA++[gb+gi],gs++[.fresh c'],lg,xs,pp⟩
noncomputable def Fy(g:Nat) (kk:GenStatus×Option (List (Code×Pos))→Sem Fin) (c:Code) (p:Pos) (pre:List Frame) (T A:BT) (k m i:Nat) (ob:List (Nat×Nat)) (d orc:Nat) (q:Q):Out:=match d with
 |0=>Bq 6 (.genState g kk) c p pre T A k m i ob orc q
 |j+1=>match q.gs[j]? with
  |none=>Bq 6 (.genState g kk) c p pre T A k m i ob orc q
  |some x=>ih (kk x.seen) c p pre T A k m i ((g,nth q.GA j)::ob) orc q
noncomputable def Gg(g:Nat)(r:Resume)(lv:List Value)(kk:GenResult→Sem Fin)(c:Code)(p:Pos)(pre:List Frame)(T A:BT)(k m i:Nat) (ob:List (Nat×Nat)) (d orc:Nat) (q:Q):Out:=match d with
 |0=>Bq 6 (.resume g r lv kk) c p pre T A k m i ob orc q
 |j+1=>match q with
  |⟨nb,tb,gb,gi,GA,gs,lg,xs,pp⟩=>match gs[j]? with
   |none=>Bq 6 (.resume g r lv kk) c p pre T A k m i ob orc q
   |some x=>match x with
    |.fresh c₀=>match r with
     |.send v=>match v with
      |.none=>ih (den c₀) c₀ p (.gen g kk lv c p::pre) T A k m i ((g,nth GA j)::ob) orc ⟨nb,tb,gb,gi,GA,gs.set j .running,lg,xs,pp⟩
      |_=>Bq 6 (.resume g r lv kk) c p pre T A k m i ob orc q
     |.throw _=>Bq 6 (.resume g r lv kk) c p pre T A k m i ob orc q
    |.suspended k₀ _ c₀ p₀ fs₀ _=>ih (k₀ r) c₀ p₀ (fs₀++.gen g kk lv c p::pre) T A k m i ((g,nth GA j)::ob) orc ⟨nb,tb,gb,gi,GA,gs.set j .running,lg,xs,pp⟩
    |.running=>Bq 6 (.resume g r lv kk) c p pre T A k m i ob orc q
    |.finished=>ih (kk .finished) c p pre T A k m i ((g,nth GA j)::ob) orc q
noncomputable def Jm(v:Value)(gd:Bool)(lv:List Value)(kk:Resume→Sem Fin)(c:Code)(p:Pos)(pre:List Frame)(T A:BT)(k m i:Nat) (ob:List (Nat×Nat)) (orc:Nat) (q:Q):Out:=match splitAtGen pre with
 |none=>Bq 8 (.yield v gd lv kk) c p pre T A k m i ob orc q
 |some (fs,(g,k₀,c',p'),rest)=>match (gd ||fs.any Frame.guarded) with
  |true=>Bq 8 (.yield v gd lv kk) c p pre T A k m i ob orc q
  |false=>Iz ih g (k₀ (.yielded v)) (.suspended kk lv c p fs false) c' p' rest T A k m i ob (orc % 128) (orc / 128) q
noncomputable def Pb:Iu:=fun t=>@Sem.rec Fin (fun _=>A5g)
 (fun fin=>Acj ih fin)
 (fun e=>A7g ih e)
 (fun w=>Bq 20 (.unsupported w))
 (fun e=>Bq 20 (.finish e))
 (fun _ kk _=>ih (kk ()))
 (fun q kk _ c _=>ih (kk ()) c q)
 (fun a _ kk _ c p pre T A k m i ob orc q=>F7 z ih a kk c p pre T A k m i ob (orc % 128) (orc / 128) q)
 (fun a _ f kk _ c p pre T A k m i ob orc q=>I5 ih a f kk c p pre T A k m i ob (orc % 128) (orc / 128) q)
 (fun o kk _=>Jj ih o kk)
 (fun a kk _ c p pre T A k m i ob orc q=>F7 z ih a (fun o=>kk (some o)) c p pre T A k m i ob (orc % 128) (orc / 128) q)
 (fun _ kk _=>ih (kk ()))
 (fun a kk _=>Bq 20 (.register a kk))
 (fun kk _ c p pre T A k m i ob orc q=>ih (kk (q.tb+i)) c p pre T A k m (i+1) ob orc q)
 (fun kk _=>ih (kk ⟨z.prog,z.w.params⟩))
 (fun s n kk _=>Bq 20 (.choose s n kk))
 (fun r l kk _=>Bq 20 (.os r l kk))
 (fun c' h gd lv kk _ c p pre T A k m i ob orc q=>M0 below ih c' h gd lv kk c p pre T A k m i ob (orc % 128) (orc / 128) q)
 (fun own kk _=>Zs below ih own kk)
 (fun c' kk _=>A4n ih c' kk)
 (fun g kk _ c p pre T A k m i ob orc q=>Fy ih g kk c p pre T A k m i ob (orc % 128) (orc / 128) q)
 (fun g r lv kk _ c p pre T A k m i ob orc q=>Gg ih g r lv kk c p pre T A k m i ob (orc % 128) (orc / 128) q)
 (fun v gd lv kk _=>Jm ih v gd lv kk)
 (fun kk _ c p pre=>ih (kk ((c,p)::(pre++Av below).map Frame.where_)) c p pre)
 (fun c kk _=>Bq 20 (.fork c kk))
 (fun kk _=>ih (kk 0))
 (fun a f b l kk _=>Bq 20 (.await a f b l kk))
 t
end
noncomputable def Ou(z:Zed) (below:List (Code×Pos)) (n:Nat):Iu:=@Nat.rec (fun _=>Iu) (Bq 0) (fun _ ih=>Pb z below ih) n
structure Oblig (z:Zed) (e:Log):Prop where
 nodup:e.x.js.Nodup
 len:e.x.os.length=e.x.js.length
 news:∀q∈e.x.news,e.n≤q.1
 does:match e.pa with
  |none=>Does z e.c' e.bl e.l e.n e.t e.g e.x.res ((e.l.map (·.1)).zip e.x.os++e.x.news) (e.x.nb+e.x.m) (e.x.tb+e.x.i) (e.x.gb+e.x.gi)
  |some pa=>(∀q∈pa.2,q.1∈pa.1.map (·.1)∨e.n≤q.1)∧Does z e.c' e.bl (e.l++pa.1) e.n e.t e.g e.x.res (((e.l.map (·.1)).zip e.x.os++e.x.news)++pa.2) (e.x.nb+e.x.m) (e.x.tb+e.x.i) (e.x.gb+e.x.gi)
end
section
structure GB where
 G:Array GenState
 B:List Nat
structure Rep (z:Zed) (h₀:Heap) (G₀:GB) (A₀:List Addr) (s:Shared) (T A:BT) (k nb m tb i gb gi:Nat) (GA:List Nat) (gs:List GenState):Prop where
 ok:z.Ok
 size:s.heap.objs.size=nb+m
 own:∀j o,T.get j=some o→j < k∧s.heap.get? (Ch A j)=some o
 inj:∀i j,i < k→j < k→Ch A i=Ch A j→i=j
 lt:∀j,j < k→Ch A j < nb+m
 fit:∀j,j < k→Jb z.tabs (Ch A j)=true∨z.n₁≤Ch A j
 newer:∀j,j < k→Ch A j∈A₀∨h₀.objs.size≤Ch A j
 grow:h₀.objs.size≤nb+m
 low:z.n₁≤nb+m
 stat:∀b o,z.kt.get b=some o→Jb z.tabs b=false→s.heap.get? b=some o
 toks:s.toks=tb+i
 gsize:s.gens.size=gb+gi
 glen:GA.length=gs.length
 gkn:∀(j:Nat) x,gs[j]?=some x→s.gens[nth GA j]?=some x
 ginj:∀i j,i < gs.length→j < gs.length→nth GA i=nth GA j→i=j
 gnew:∀j,j < gs.length→nth GA j∈G₀.B∨G₀.G.size≤nth GA j
 glt:∀j,j < gs.length→nth GA j < gb+gi
 gold:∀j,j < G₀.G.size→j ∉ G₀.B→s.gens[j]?=G₀.G[j]?
 ggrow:G₀.G.size≤gb+gi
 bare:AllBare s.gens
 os:s.os=z.os
 keep:∀b o,h₀.get? b=some o→b ∉ A₀→s.heap.get? b=some o
theorem Ml{A:BT}{k a:Nat} (h:((A.ins k (Hy a)).get k).isSome=true) (j:Nat):Ch (A.ins k (Hy a)) j=if j=k then a else Ch A j:=by
 unfold Ch
 rw [BT.get_ins (Hy a) A k h]
 by_cases e:j=k
 ·rw [if_pos e,if_pos e];rfl
 ·rw [if_neg e,if_neg e]
theorem Up:∀(l:List Nat) (a j:Nat),nth (l++[a]) j=if j=l.length then a else if j < l.length then nth l j else 0
 |[],a,0=>rfl
 |[],a,j+1=>by simp [nth]
 |b::l,a,0=>by simp [nth]
 |b::l,a,j+1=>by
  show nth (l++[a]) j=_
  rw [Up l a j]
  simp [nth]
section
variable {z:Zed}{h₀:Heap}{G₀:GB}{A₀:List Addr}{s:Shared}{T A:BT}{k nb m tb i gb gi:Nat}{GA:List Nat}{gs:List GenState}
theorem Rep.learn(R:Rep z h₀ G₀ A₀ s T A k nb m tb i gb gi GA gs){a:Addr}{o:Obj}(ha:s.heap.get? a=some o)(hno:∀j,j < k→Ch A j≠a)
  (hf:Jb z.tabs a=true∨z.n₁≤a) (hn:a∈A₀∨h₀.objs.size≤a) (h1:((T.ins k o).get k).isSome=true) (h2:((A.ins k (Hy a)).get k).isSome=true):
  Rep z h₀ G₀ A₀ s (T.ins k o) (A.ins k (Hy a)) (k+1) nb m tb i gb gi GA gs:=by
 have hlt:a < nb+m:=by have:=Heap.lt_size ha;rw [R.size] at this;exact this
 have ad:=Ml h2
 refine {R with own:=fun j o' e=>?_,inj:=fun i j hi hj e=>?_,lt:=fun j hj=>?_,fit:=fun j hj=>?_,newer:=fun j hj=>?_}
 ·rw [BT.get_ins o T k h1] at e
  rw [ad]
  by_cases q:j=k
  ·rw [if_pos q] at e ⊢;cases e;exact ⟨by lia,ha⟩
  ·rw [if_neg q] at e ⊢;have:=R.own j o' e;exact ⟨by lia,this.2⟩
 ·rw [ad,ad] at e
  by_cases q:i=k
  ·by_cases q':j=k
   ·exact Aeb q q'
   ·rw [if_pos q,if_neg q'] at e;exact absurd e.symm (hno j (z_6 hj q'))
  ·by_cases q':j=k
   ·rw [if_neg q,if_pos q'] at e;exact absurd e (hno i (z_6 hi q))
   ·rw [if_neg q,if_neg q'] at e;exact R.inj i j (z_6 hi q) (z_6 hj q') e
 ·rw [ad];by_cases q:j=k
  ·rw [if_pos q];exact hlt
  ·rw [if_neg q];exact R.lt j (z_6 hj q)
 ·rw [ad];by_cases q:j=k
  ·rw [if_pos q];exact hf
  ·rw [if_neg q];exact R.fit j (z_6 hj q)
 ·rw [ad];by_cases q:j=k
  ·rw [if_pos q];exact hn
  ·rw [if_neg q];exact R.newer j (z_6 hj q)
theorem Rep.push(R:Rep z h₀ G₀ A₀ s T A k nb m tb i gb gi GA gs)(o:Obj):Rep z h₀ G₀ A₀ {s with heap:=s.heap.push o} T A k nb (m+1) tb i gb gi GA gs:=by
 refine {R with size:=?_,own:=fun j o' e=>?_,lt:=fun j hj=>?_,grow:=?_,low:=?_,stat:=fun b o' e q=>Heap.get?_push_of_some _ (R.stat b o' e q),keep:=fun b o' e q=>Heap.get?_push_of_some _ (R.keep b o' e q)}
 ·show (s.heap.push o).objs.size=_
  rw [Heap.size_push,R.size,Nat.add_assoc]
 ·have:=R.own j o' e;exact ⟨this.1,Heap.get?_push_of_some _ this.2⟩
 ·have:=R.lt j hj;exact Pa this
 ·have:=R.grow;exact Pa this
 ·have:=R.low;exact Pa this
theorem Rep.alloc(R:Rep z h₀ G₀ A₀ s T A k nb m tb i gb gi GA gs){o:Obj}(hf:o.isFreed=false) (h1:((T.ins k o).get k).isSome=true) (h2:((A.ins k (Hy (nb+m))).get k).isSome=true):
  Rep z h₀ G₀ A₀ {s with heap:=s.heap.push o} (T.ins k o) (A.ins k (Hy (nb+m))) (k+1) nb (m+1) tb i gb gi GA gs:=
 (R.push o).learn (by rw [← R.size];exact Heap.get?_push_size _ hf) (fun j hj e=>by have:=R.lt j hj;lia) (.inr R.low) (.inr R.grow) h1 h2
theorem Rep.upd(R:Rep z h₀ G₀ A₀ s T A k nb m tb i gb gi GA gs){j:Nat}{o:Obj}{f:Obj→Obj}(e:T.get j=some o) (hf:(f o).isFreed=false):
  (s.heap.get? (Ch A j)).isSome=true∧Rep z h₀ G₀ A₀ {s with heap:=s.heap.update (Ch A j) f} (T.set j f) A k nb m tb i gb gi GA gs:=by
 have zo:=R.own j o e
 have hs:Heap.SameBut (Ch A j) s.heap (s.heap.update (Ch A j) f):=Heap.SameBut.update ..
 have ge:(s.heap.update (Ch A j) f).get? (Ch A j)=some (f o):=by
  first | exact Heap.get?_update_self f zo.2 hf | exact Heap.get?_update_self _ zo.2 hf
 refine ⟨by rw [zo.2];rfl,{R with size:=?_,own:=fun j' o' e'=>?_,stat:=fun b o' e' q=>?_,keep:=fun b o' e' q=>?_}⟩
 ·show (s.heap.update _ f).objs.size=_;rw [hs.1,R.size]
 ·rw [BT.get_set] at e'
  by_cases q:j'=j
  ·subst q
   rw [if_pos rfl,e] at e'
   cases e'
   exact ⟨zo.1,ge⟩
  ·rw [if_neg q] at e'
   have w:=R.own j' o' e'
   exact ⟨w.1,(hs.2 _ fun x=>q (R.inj _ _ w.1 zo.1 x)).trans w.2⟩
 ·refine (hs.2 b fun w=>?_).trans (R.stat b o' e' q)
  subst w
  rcases R.fit j zo.1 with h | h
  ·rw [h] at q;cases q
  ·have:=R.ok.low _ _ e';exact Hn h this
 ·refine (hs.2 b fun w=>?_).trans (R.keep b o' e' q)
  subst w
  rcases R.newer j zo.1 with h | h
  ·exact q h
  ·exact absurd (Heap.lt_size e') (Nat.not_lt.mpr h)
theorem Rep.fresh(R:Rep z h₀ G₀ A₀ s T A k nb m tb i gb gi GA gs):Rep z h₀ G₀ A₀ {s with toks:=s.toks+1} T A k nb m tb (i+1) gb gi GA gs:=
 {R with toks:=by show s.toks+1=_;rw [R.toks,Nat.add_assoc]}
theorem Rep.setGen(R:Rep z h₀ G₀ A₀ s T A k nb m tb i gb gi GA gs){j:Nat}{x₀:GenState}(hj:gs[j]?=some x₀){x:GenState}(hx:x.bare=true):
  Rep z h₀ G₀ A₀ (s.setGen (nth GA j) x) T A k nb m tb i gb gi GA (gs.set j x):=by
 have hl:j < gs.length:=(List.getElem?_eq_some_iff.mp hj).1
 refine {R with gsize:=?_,glen:=?_,gkn:=fun j' y e=>?_,ginj:=?_,gnew:=?_,glt:=?_,gold:=fun j' hj' hm=>?_,bare:=fun y hy=>?_}
 ·show (s.gens.setIfInBounds _ x).size=_
  rw [Array.size_setIfInBounds,R.gsize]
 ·rw [List.length_set];exact R.glen
 ·show (s.gens.setIfInBounds _ x)[nth GA j']?=some y
  rw [List.getElem?_set] at e
  rw [Array.getElem?_setIfInBounds]
  by_cases h:j=j'
  ·subst h
   rw [if_pos rfl,if_pos hl] at e
   rw [if_pos rfl,R.gsize,if_pos (R.glt j hl)];exact e
  ·rw [if_neg h] at e
   have hl':j' < gs.length:=(List.getElem?_eq_some_iff.mp e).1
   rw [if_neg (fun w=>h (R.ginj _ _ hl hl' w))]
   exact R.gkn j' y e
 ·rw [List.length_set];exact R.ginj
 ·rw [List.length_set];exact R.gnew
 ·rw [List.length_set];exact R.glt
 ·show (s.gens.setIfInBounds _ x)[j']?=G₀.G[j']?
  rw [Array.getElem?_setIfInBounds,if_neg (fun w=>by
   rcases R.gnew j hl with u | u
   ·exact hm (w▸u)
   ·lia)]
  exact R.gold j' hj' hm
 ·refine Af fun Gz hGz=>?_
  obtain ⟨q,hq,rfl⟩:=Array.mem_iff_getElem.mp hy
  have e:(s.gens.setIfInBounds (nth GA j) x)[q]?=some (s.setGen (nth GA j) x).gens[q]:=Array.getElem?_eq_getElem hq
  rw [Array.getElem?_setIfInBounds] at e
  refine hGz ?_
  by_cases h:nth GA j=q
  ·rw [if_pos h] at e
   split at e
   ·rw [← Option.some.inj e];exact hx
   ·cases e
  ·rw [if_neg h] at e
   exact R.bare _ (Array.mem_of_getElem? e)
theorem Rep.newGen(R:Rep z h₀ G₀ A₀ s T A k nb m tb i gb gi GA gs)(c:Code):Rep z h₀ G₀ A₀ {s with gens:=s.gens.push (.fresh c)} T A k nb m tb i gb (gi+1) (GA++[gb+gi]) (gs++[.fresh c]):=by
 have na:=Up GA (gb+gi)
 rw [R.glen] at na
 refine {R with gsize:=?_,glen:=?_,gkn:=fun j' y e=>?_,ginj:=fun a b ha hb e=>?_,gnew:=fun j hj=>?_,glt:=fun j hj=>?_,gold:=fun j' hj' hm=>?_,ggrow:=?_,bare:=R.bare.push rfl}
 ·show (s.gens.push _).size=_
  rw [Array.size_push,R.gsize];rfl
 ·simp [R.glen]
 ·show (s.gens.push _)[nth (GA++[gb+gi]) j']?=some y
  rw [na,Array.getElem?_push,R.gsize]
  by_cases h:j'=gs.length
  ·subst h
   rw [if_pos rfl,if_pos rfl]
   simpa using e
  ·rw [if_neg h]
   have hl:j' < gs.length:=by have:=(List.getElem?_eq_some_iff.mp e).1;simp at this;exact z_6 this h
   rw [if_pos hl,if_neg (by have:=R.glt j' hl;exact A26 this)]
   rw [List.getElem?_append_left hl] at e
   exact R.gkn j' y e
 ·simp at ha hb
  rw [na,na] at e
  by_cases h:a=gs.length
  ·by_cases h':b=gs.length
   ·exact Aeb h h'
   ·rw [if_pos h,if_neg h',if_pos (by exact z_6 hb h')] at e
    have:=R.glt b (z_6 hb h');lia
  ·by_cases h':b=gs.length
   ·rw [if_neg h,if_pos (by exact z_6 ha h:a < gs.length),if_pos h'] at e
    have:=R.glt a (z_6 ha h);lia
   ·rw [if_neg h,if_pos (by exact z_6 ha h:a < gs.length),if_neg h',if_pos (by exact z_6 hb h')] at e
    exact R.ginj a b (z_6 ha h) (z_6 hb h') e
 ·simp at hj
  rw [na]
  by_cases h:j=gs.length
  ·rw [if_pos h];exact .inr R.ggrow
  ·rw [if_neg h,if_pos (by exact z_6 hj h)];exact R.gnew j (z_6 hj h)
 ·simp at hj
  rw [na]
  by_cases h:j=gs.length
  ·rw [if_pos h];exact S5
  ·rw [if_neg h,if_pos (by exact z_6 hj h)];have:=R.glt j (z_6 hj h);exact Pa this
 ·show (s.gens.push _)[j']?=G₀.G[j']?
  have:=R.ggrow
  rw [Array.getElem?_push,R.gsize,if_neg (by lia)]
  exact R.gold j' hj' hm
 ·have:=R.ggrow;exact Pa this
theorem Eo:∀{js:List Nat} {l:LO},Hk T A js=some l→l.map (·.1)=js.map (Ch A)∧(∀j∈js,∃o,T.get j=some o)∧∀q∈l,∃j∈js,T.get j=some q.2∧q.1=Ch A j
 |[],l,h=>by cases h;exact ⟨rfl,by simp,by simp⟩
 |j::js,l,h=>by
  unfold Hk at h
  split at h
  ·cases h
  ·rename_i o ho
   split at h
   ·cases h
   ·rename_i l' hl
    cases h
    refine Af fun Gz hGz=>?_
    obtain ⟨h1,h2,h3⟩:=Eo hl
    refine hGz ?_
    refine ⟨by simp [h1],fun j' hj'=>?_,fun q hq=>?_⟩
    ·rcases List.mem_cons.mp hj' with rfl | hj'
     ·exact ⟨o,ho⟩
     ·exact h2 j' hj'
    ·rcases List.mem_cons.mp hq with rfl | hq
     ·exact ⟨j,.head _,ho,rfl⟩
     ·refine Af fun Gz hGz=>?_
      obtain ⟨j',m1,m2⟩:=h3 q hq
      refine hGz ?_
      exact ⟨j',.tail _ m1,m2⟩
theorem Ob:∀{js:List Nat} {os:List Obj} {T:BT} {j:Nat} {o:Obj},js.Nodup→os.length=js.length→(Ih T js os).get j=some o →
  (j ∉ js∧T.get j=some o)∨((j,o)∈js.zip os∧∃o',T.get j=some o')
 |[],os,T,j,o,_,_,h=>by
  left
  refine ⟨by simp,?_⟩
  cases os<;>exact h
 |a::js,[],T,j,o,_,hl,h=>by cases hl
 |a::js,b::os,T,j,o,hn,hl,h=>by
  have hn:=List.nodup_cons.mp hn
  rcases Ob (js:=js) (os:=os) (T:=T.set a fun _=>b) hn.2 (Nat.succ.inj hl) h with ⟨h1,h2⟩ | ⟨h1,o',h2⟩
  ·rw [BT.get_set] at h2
   by_cases q:j=a
   ·subst q
    rw [if_pos rfl] at h2
    refine Af fun Gz hGz=>?_
    obtain ⟨o',e,rfl⟩:=Option.map_eq_some_iff.mp h2
    refine hGz ?_
    exact .inr ⟨.head _,o',e⟩
   ·rw [if_neg q] at h2
    exact .inl ⟨by simp [q,h1],h2⟩
  ·right
   rw [BT.get_set] at h2
   by_cases q:j=a
   ·subst q
    exact absurd (List.of_mem_zip h1).1 hn.1
   ·rw [if_neg q] at h2
    exact ⟨.tail _ h1,o',h2⟩
theorem Rep.learnN:∀{l:LO} {T A:BT} {k:Nat} {r:BT×BT×Nat},Fd T A k l=some r→Rep z h₀ G₀ A₀ s T A k nb m tb i gb gi GA gs →
  (∀q∈l,s.heap.get? q.1=some q.2)→(∀j,j < k→Ch A j ∉ l.map (·.1))→(l.map (·.1)).Nodup→(∀q∈l,Jb z.tabs q.1=true∨z.n₁≤q.1)→(∀q∈l,q.1∈A₀∨h₀.objs.size≤q.1) →
  Rep z h₀ G₀ A₀ s r.1 r.2.1 r.2.2 nb m tb i gb gi GA gs
 |[],T,A,k,r,h,R,_,_,_,_,_=>by cases h;exact R
 |x::l,T,A,k,r,h,R,h1,h2,h3,h4,h5=>by
  unfold Fd at h
  split at h
  ·cases h
  ·rename_i o1 e1
   split at h
   ·cases h
   ·rename_i o2 e2
    have h3:=List.nodup_cons.mp h3
    have e2':((A.ins k (Hy x.1)).get k).isSome=true:=by rw [e2];rfl
    refine Rep.learnN h (R.learn (h1 x (.head _)) (fun j hj e=>h2 j hj (by rw [e];exact .head _)) (h4 x (.head _)) (h5 x (.head _)) (by rw [e1];rfl) e2') (fun q hq=>h1 q (.tail _ hq)) (fun j hj=>?_) h3.2 (fun q hq=>h4 q (.tail _ hq)) (fun q hq=>h5 q (.tail _ hq))
    rw [Ml e2']
    by_cases q:j=k
    ·rw [if_pos q];exact h3.1
    ·rw [if_neg q];exact fun w=>h2 j (z_6 hj q) (.tail _ w)
theorem Rep.st(R:Rep z h₀ G₀ A₀ s T A k nb m tb i gb gi GA gs){js:List Nat}{l:LO}(hp:Hk T A js=some l)(hn:js.Nodup):St z s (nb+m) (tb+i) (gb+gi) l:=by
 refine Af fun Gz hGz=>?_
 obtain ⟨h1,h2,h3⟩:=Eo hp
 refine hGz ?_
 refine ⟨R.ok,fun q hq=>?_,?_,fun a ha=>?_,R.stat,R.low,R.bare,R.os,R.size,R.toks,R.gsize⟩
 ·refine Af fun Gz hGz=>?_
  obtain ⟨j,_,e,e'⟩:=h3 q hq
  refine hGz ?_
  rw [e'];exact (R.own j _ e).2
 ·rw [h1]
  unfold List.Nodup
  rw [List.pairwise_map]
  refine List.Pairwise.imp_of_mem (fun {a b} ha hb hab e=>hab ?_) hn
  refine Af fun Gz hGz=>?_
  obtain ⟨oa,ea⟩:=h2 a ha
  obtain ⟨ob,eb⟩:=h2 b hb
  refine hGz ?_
  exact R.inj a b (R.own a _ ea).1 (R.own b _ eb).1 e
 ·rw [h1] at ha
  refine Af fun Gz hGz=>?_
  obtain ⟨j,hj,rfl⟩:=List.mem_map.mp ha
  obtain ⟨o,e⟩:=h2 j hj
  refine hGz ?_
  exact R.fit j (R.own j _ e).1
theorem Us{α β:Type}:∀{l:List α} {l':List β},l.length=l'.length→(l.zip l').map (·.1)=l
 |[],[],_=>rfl
 |a::l,b::l',h=>by rw [List.zip_cons_cons,List.map_cons,Us (Nat.succ.inj h)]
 |[],_::_,h=>by cases h
 |_::_,[],h=>by cases h
structure Pas (z:Zed) (h₀:Heap) (A₀:List Addr) (s:Shared) (A:BT) (k:Nat) (ps:LO):Prop where
 knows:∀q∈ps,s.heap.get? q.1=some q.2
 nodup:(ps.map (·.1)).Nodup
 apart:∀q∈ps,∀j,j < k→Ch A j≠q.1
 fit:∀q∈ps,Jb z.tabs q.1=true∨z.n₁≤q.1
 newer:∀q∈ps,q.1∈A₀∨h₀.objs.size≤q.1
theorem Rep.called(R:Rep z h₀ G₀ A₀ s T A k nb m tb i gb gi GA gs){x:Ans}{l:LO}{r:BT×BT×Nat}(hp:Hk T A x.js=some l)
  (hr:Fd (Ih T x.js x.os) A k x.news=some r) (hnd:x.js.Nodup) (hlen:x.os.length=x.js.length) (hnew:∀q∈x.news,nb+m≤q.1) {s':Shared} (S:St z s' (x.nb+x.m) (x.tb+x.i) (x.gb+x.gi) ((l.map (·.1)).zip x.os++x.news))
  {extra:List Addr} (K:Keep s s' (l.map (·.1)++extra)) (x1:∀a∈extra,∀j,j < k→Ch A j≠a) (x2:∀a∈extra,a∈A₀∨h₀.objs.size≤a):
  Rep z h₀ G₀ A₀ s' r.1 r.2.1 r.2.2 x.nb x.m x.tb x.i x.gb x.gi GA gs:=by
 refine Af fun Gz hGz=>?_
 obtain ⟨h1,h2,h3⟩:=Eo hp
 have len:(l.map (·.1)).length=x.os.length:=by rw [h1,List.length_map];exact hlen.symm
 have hsz:=K.size
 rw [R.size,S.hn] at hsz
 have hgz:=K.gsize
 rw [R.gsize,S.hg] at hgz
 have hnd2:=S.nodup
 rw [List.map_append,Us len] at hnd2
 have hnd2:=List.nodup_append.mp hnd2
 have B:Rep z h₀ G₀ A₀ s' (Ih T x.js x.os) A k x.nb x.m x.tb x.i x.gb x.gi GA gs:=by
  refine ⟨R.ok,S.hn,fun j o e=>?_,R.inj,fun j hj=>Nat.lt_of_lt_of_le (R.lt j hj) hsz,R.fit,R.newer,Nat.le_trans R.grow hsz,S.low,S.stat,S.ht,S.hg,R.glen,fun j y e=>?_,R.ginj,R.gnew,fun j hj=>Nat.lt_of_lt_of_le (R.glt j hj) hgz,fun j hj hm=>?_,Nat.le_trans R.ggrow hgz,S.bare,S.os,fun b o e q=>?_⟩
  ·rcases Ob hnd hlen e with ⟨h,e⟩ | ⟨h,o',e⟩
   ·have w:=R.own j o e
    refine ⟨w.1,K.heap _ _ w.2 fun m=>?_⟩
    rcases List.mem_append.mp m with m | m
    ·rw [h1] at m
     obtain ⟨j',hj',e'⟩:=List.mem_map.mp m
     obtain ⟨o'',e''⟩:=h2 j' hj'
     have:=R.inj _ _ (R.own j' _ e'').1 w.1 e'
     exact h (this▸hj')
    ·exact x1 _ m j w.1 rfl
   ·have w:=R.own j o' e
    refine ⟨w.1,?_⟩
    have mem:(Ch A j,o)∈(l.map (·.1)).zip x.os:=by
     rw [h1,List.zip_map_left]
     exact List.mem_map.mpr ⟨(j,o),h,rfl⟩
    exact S.knows _ (List.mem_append_left _ mem)
  ·have hl:j < gs.length:=(List.getElem?_eq_some_iff.mp e).1
   rw [K.gens _ (by rw [R.gsize];exact R.glt j hl)]
   exact R.gkn j y e
  ·rw [K.gens _ (by rw [R.gsize];exact Nat.lt_of_lt_of_le hj R.ggrow)]
   exact R.gold j hj hm
  ·refine K.heap b o (R.keep b o e q) fun m=>?_
   rcases List.mem_append.mp m with m | m
   ·rw [h1] at m
    obtain ⟨j,hj,rfl⟩:=List.mem_map.mp m
    obtain ⟨o',e'⟩:=h2 j hj
    rcases R.newer j (R.own j _ e').1 with h | h
    ·exact q h
    ·exact absurd (Heap.lt_size e) (Nat.not_lt.mpr h)
   ·rcases x2 b m with h | h
    ·exact q h
    ·exact absurd (Heap.lt_size e) (Nat.not_lt.mpr h)
 refine hGz ?_
 refine Rep.learnN hr B (fun q hq=>S.knows q (List.mem_append_right _ hq)) (fun j hj m=>?_) hnd2.2.1 (fun q hq=>S.fit _ (by rw [List.map_append];exact List.mem_append_right _ (List.mem_map.mpr ⟨q,hq,rfl⟩))) (fun q hq=>.inr (Nat.le_trans R.grow (hnew q hq)))
 refine Af fun Gz hGz=>?_
 obtain ⟨q,hq,e⟩:=List.mem_map.mp m
 have:=hnew q hq
 have:=R.lt j hj
 have e:q.1=Ch A j:=e
 rw [e] at *
 refine hGz ?_
 lia
theorem Kq:∀{l:LO} {T A:BT} {k:Nat} {r:BT×BT×Nat},Fd T A k l=some r→∀j,j < r.2.2→(j < k∧Ch r.2.1 j=Ch A j)∨∃q∈l,Ch r.2.1 j=q.1
 |[],T,A,k,r,h,j,hj=>by cases h;exact .inl ⟨hj,rfl⟩
 |x::l,T,A,k,r,h,j,hj=>by
  unfold Fd at h
  split at h
  ·cases h
  ·split at h
   ·cases h
   ·rename_i o2 e2
    have e2':((A.ins k (Hy x.1)).get k).isSome=true:=by rw [e2];rfl
    rcases Kq h j hj with ⟨h1,h2⟩ | ⟨q,hq,h2⟩
    ·rw [Ml e2'] at h2
     by_cases e:j=k
     ·rw [if_pos e] at h2;exact .inr ⟨x,.head _,h2⟩
     ·rw [if_neg e] at h2;exact .inl ⟨by exact z_6 h1 e,h2⟩
    ·exact .inr ⟨q,.tail _ hq,h2⟩
section
variable {ps:LO}
theorem Pas.lt(P:Pas z h₀ A₀ s A k ps){q:Addr×Obj}(hq:q∈ps):q.1 < s.heap.objs.size:=Heap.lt_size (P.knows q hq)
theorem Pas.alloc(P:Pas z h₀ A₀ s A k ps)(R:Rep z h₀ G₀ A₀ s T A k nb m tb i gb gi GA gs){o:Obj} (h2:((A.ins k (Hy (nb+m))).get k).isSome=true):
  Pas z h₀ A₀ {s with heap:=s.heap.push o} (A.ins k (Hy (nb+m))) (k+1) ps:=by
 refine ⟨fun q hq=>Heap.get?_push_of_some _ (P.knows q hq),P.nodup,fun q hq j hj=>?_,P.fit,P.newer⟩
 rw [Ml h2]
 by_cases e:j=k
 ·rw [if_pos e]
  have h:=P.lt hq
  rw [R.size] at h
  exact Nat.ne_of_gt h
 ·rw [if_neg e];exact P.apart q hq j (z_6 hj e)
theorem Pas.upd(P:Pas z h₀ A₀ s A k ps){j:Nat}{f:Obj→Obj}(hj:j < k):Pas z h₀ A₀ {s with heap:=s.heap.update (Ch A j) f} A k ps:=by
 have hs:Heap.SameBut (Ch A j) s.heap (s.heap.update (Ch A j) f):=Heap.SameBut.update ..
 exact ⟨fun q hq=>(hs.2 _ fun w=>P.apart q hq j hj w.symm).trans (P.knows q hq),P.nodup,P.apart,P.fit,P.newer⟩
theorem Pas.fresh(P:Pas z h₀ A₀ s A k ps):Pas z h₀ A₀ {s with toks:=s.toks+1} A k ps:=⟨P.knows,P.nodup,P.apart,P.fit,P.newer⟩
theorem Pas.gens(P:Pas z h₀ A₀ s A k ps){G:Array GenState}:Pas z h₀ A₀ {s with gens:=G} A k ps:=⟨P.knows,P.nodup,P.apart,P.fit,P.newer⟩
theorem Pas.called(P:Pas z h₀ A₀ s A k ps)(R:Rep z h₀ G₀ A₀ s T A k nb m tb i gb gi GA gs){js:List Nat}{os:List Obj}{news:LO}{l:LO}{r:BT×BT×Nat}(hp:Hk T A js=some l)
  (hr:Fd (Ih T js os) A k news=some r) (hnew:∀q∈news,nb+m≤q.1) {s':Shared} (K:Keep s s' (l.map (·.1))):Pas z h₀ A₀ s' r.2.1 r.2.2 ps:=by
 refine Af fun Gz hGz=>?_
 obtain ⟨h1,h2,h3⟩:=Eo hp
 refine hGz ?_
 refine ⟨fun q hq=>K.heap _ _ (P.knows q hq) fun m=>?_,P.nodup,fun q hq j hj w=>?_,P.fit,P.newer⟩
 ·rw [h1] at m
  refine Af fun Gz hGz=>?_
  obtain ⟨j,hj,e⟩:=List.mem_map.mp m
  obtain ⟨o,e'⟩:=h2 j hj
  refine hGz ?_
  exact P.apart q hq j (R.own j _ e').1 e
 ·rcases Kq hr j hj with ⟨a,b⟩ | ⟨q',hq',b⟩
  ·exact P.apart q hq j a (b▸w)
  ·have h1:=hnew q' hq'
   have h:=P.lt hq
   rw [R.size] at h
   have e:q'.1=q.1:=b.symm.trans w
   rw [e] at h1
   exact absurd h (Nat.not_lt.mpr h1)
theorem Pas.turned(P:Pas z h₀ A₀ s A k ps)(R:Rep z h₀ G₀ A₀ s T A k nb m tb i gb gi GA gs){js:List Nat}{os:List Obj}{news:LO}{l:LO}{r:BT×BT×Nat}(hp:Hk T A js=some l)(hnd:js.Nodup)(hlen:os.length=js.length)
  (hr:Fd (Ih T js os) A k news=some r) (hnew:∀q∈news,nb+m≤q.1) {s':Shared} {ps':LO} {n' t' g':Nat} (S:St z s' n' t' g' (((l.map (·.1)).zip os++news)++ps')) (hps:∀q∈ps',q.1∈ps.map (·.1)∨nb+m≤q.1):Pas z h₀ A₀ s' r.2.1 r.2.2 ps':=by
 refine Af fun Gz hGz=>?_
 obtain ⟨h1,h2,h3⟩:=Eo hp
 have nd:=S.nodup
 rw [List.map_append] at nd
 have nd:=List.nodup_append.mp nd
 have new:∀q∈ps',q.1∈A₀∨h₀.objs.size≤q.1:=fun q hq=>by
  rcases hps q hq with h | h
  ·obtain ⟨q',hq',e⟩:=List.mem_map.mp h
   rw [← e];exact P.newer q' hq'
  ·exact .inr (Nat.le_trans R.grow h)
 refine hGz ?_
 refine ⟨fun q hq=>S.knows q (List.mem_append_right _ hq),nd.2.1,fun q hq j hj w=>?_,fun q hq=>S.fit _ (by rw [List.map_append];exact List.mem_append_right _ (List.mem_map.mpr ⟨q,hq,rfl⟩)),new⟩
 rcases Kq hr j hj with ⟨a,b⟩ | ⟨q',hq',b⟩
 ·rw [b] at w
  rcases hps q hq with h | h
  ·refine Af fun Gz hGz=>?_
   obtain ⟨q',hq',e⟩:=List.mem_map.mp h
   refine hGz ?_
   exact P.apart q' hq' j a (w.trans e.symm)
  ·have:=R.lt j a;lia
 ·refine nd.2.2 q'.1 ?_ q.1 (List.mem_map.mpr ⟨q,hq,rfl⟩) (b▸w)
  exact List.mem_map.mpr ⟨q',List.mem_append_right _ hq',rfl⟩
theorem Rep.stP(R:Rep z h₀ G₀ A₀ s T A k nb m tb i gb gi GA gs)(P:Pas z h₀ A₀ s A k ps){js:List Nat}{l:LO}(hp:Hk T A js=some l)(hn:js.Nodup):St z s (nb+m) (tb+i) (gb+gi) (l++ps):=by
 have S:=R.st hp hn
 refine Af fun Gz hGz=>?_
 obtain ⟨h1,h2,h3⟩:=Eo hp
 refine hGz ?_
 refine ⟨S.ok,fun q hq=>?_,?_,fun a ha=>?_,S.stat,S.low,S.bare,S.os,S.hn,S.ht,S.hg⟩
 ·rcases List.mem_append.mp hq with hq | hq
  ·exact S.knows q hq
  ·exact P.knows q hq
 ·rw [List.map_append]
  refine List.nodup_append.mpr ⟨S.nodup,P.nodup,fun a ha b hb e=>?_⟩
  rw [h1] at ha
  refine Af fun Gz hGz=>?_
  obtain ⟨j,hj,rfl⟩:=List.mem_map.mp ha
  obtain ⟨q,hq,rfl⟩:=List.mem_map.mp hb
  obtain ⟨o,e'⟩:=h2 j hj
  refine hGz ?_
  exact P.apart q hq j (R.own j _ e').1 e
 ·rw [List.map_append] at ha
  rcases List.mem_append.mp ha with ha | ha
  ·exact S.fit a ha
  ·refine Af fun Gz hGz=>?_
   obtain ⟨q,hq,rfl⟩:=List.mem_map.mp ha
   refine hGz ?_
   exact P.fit q hq
theorem St.left{n t g:Nat}{l l':LO} (S:St z s n t g (l++l')):St z s n t g l:=
 ⟨S.ok,fun q hq=>S.knows q (List.mem_append_left _ hq),(by have:=S.nodup;rw [List.map_append] at this;exact (List.nodup_append.mp this).1),fun a ha=>S.fit a (by rw [List.map_append];exact List.mem_append_left _ ha),S.stat,S.low,S.bare,S.os,S.hn,S.ht,S.hg⟩
end
end
end
section
theorem Rt (below:List (Code×Pos)):(Av below).map Frame.where_=below:=by
 unfold Av
 rw [List.map_map]
 conv=>rhs;rw [← List.map_id below]
 rfl
theorem Vy:∀below:List (Code×Pos),splitAtGen (Av below)=none:=by
 intro l;induction l with
 |nil=>
  exact rfl
 |cons x l hbI=>
  show (splitAtGen (Av l)).map _=none
  rw [hbI];rfl
theorem E7:∀{l:List Frame} (b:Bool) (below:List (Code×Pos)),K3 l=true→topHandled.go b (l++Av below)=none
 |[],b,[],_=>by cases b<;>rfl
 |[],true,x::l,_=>E7 (l:=[]) true l rfl
 |[],false,x::l,_=>E7 (l:=[]) false l rfl
 |.ret _ none _ _ _ _ _::l,true,below,h=>E7 (l:=l) true below h
 |.ret _ none _ _ _ _ _::l,false,below,h=>E7 (l:=l) false below h
 |.ret _ (some _) _ _ _ _ _::_,_,_,h=>by cases h
 |.gen ..::l,true,below,h=>E7 (l:=l) false below h
 |.gen ..::l,false,below,h=>E7 (l:=l) false below h
theorem I0{A0 A1:Type}{P:A0→A1→Prop}(a0:A0)(a1:A1)(h:P a0 a1):∃a0 a1,P a0 a1:=⟨a0,a1,h⟩
theorem Wn{A0 A1 A2:Type}{P:A0→A1→A2→Prop}(a0:A0)(a1:A1)(a2:A2)(h:P a0 a1 a2):∃a0 a1 a2,P a0 a1 a2:=⟨a0,a1,a2,h⟩
theorem Ci{A0 A1 A2 A3:Type}{P:A0→A1→A2→A3→Prop}(a0:A0)(a1:A1)(a2:A2)(a3:A3)(h:P a0 a1 a2 a3):∃a0 a1 a2 a3,P a0 a1 a2 a3:=⟨a0,a1,a2,a3,h⟩
theorem Ca{A0 A1 A2 A3 A4:Type}{P:A0→A1→A2→A3→A4→Prop}(a0:A0)(a1:A1)(a2:A2)(a3:A3)(a4:A4)(h:P a0 a1 a2 a3 a4):∃a0 a1 a2 a3 a4,P a0 a1 a2 a3 a4:=⟨a0,a1,a2,a3,a4,h⟩
theorem D8{A0 A1 A2 A3 A4 A5:Type}{P:A0→A1→A2→A3→A4→A5→Prop}(a0:A0)(a1:A1)(a2:A2)(a3:A3)(a4:A4)(a5:A5)(h:P a0 a1 a2 a3 a4 a5):∃a0 a1 a2 a3 a4 a5,P a0 a1 a2 a3 a4 a5:=⟨a0,a1,a2,a3,a4,a5,h⟩
theorem Lj{A0 A1 A2 A3 A4 A5 A6:Type}{P:A0→A1→A2→A3→A4→A5→A6→Prop}(a0:A0)(a1:A1)(a2:A2)(a3:A3)(a4:A4)(a5:A5)(a6:A6)(h:P a0 a1 a2 a3 a4 a5 a6):∃a0 a1 a2 a3 a4 a5 a6,P a0 a1 a2 a3 a4 a5 a6:=⟨a0,a1,a2,a3,a4,a5,a6,h⟩
theorem G7{A0 A1 A2 A3 A4 A5 A6 A7:Type}{P:A0→A1→A2→A3→A4→A5→A6→A7→Prop}(a0:A0)(a1:A1)(a2:A2)(a3:A3)(a4:A4)(a5:A5)(a6:A6)(a7:A7)(h:P a0 a1 a2 a3 a4 a5 a6 a7):∃a0 a1 a2 a3 a4 a5 a6 a7,P a0 a1 a2 a3 a4 a5 a6 a7:=⟨a0,a1,a2,a3,a4,a5,a6,a7,h⟩
theorem A6z{A0 A1 A2 A3 A4 A5 A6 A7 A8 A9 A10:Type}{P:A0→A1→A2→A3→A4→A5→A6→A7→A8→A9→A10→Prop}(a0:A0)(a1:A1)(a2:A2)(a3:A3)(a4:A4)(a5:A5)(a6:A6)(a7:A7)(a8:A8)(a9:A9)(a10:A10)(h:P a0 a1 a2 a3 a4 a5 a6 a7 a8 a9 a10):∃a0 a1 a2 a3 a4 a5 a6 a7 a8 a9 a10,P a0 a1 a2 a3 a4 a5 a6 a7 a8 a9 a10:=⟨a0,a1,a2,a3,a4,a5,a6,a7,a8,a9,a10,h⟩
theorem Pr:∀{l:List Frame} (below:List (Code×Pos)),K3 l=true→(splitAtGen (l++Av below)=none)∨∃fs b r,splitAtGen (l++Av below)=some (fs,b,r)∧topHandled.go false fs=none
 |[],below,_=>.inl (Vy below)
 |.ret k₁ none g₁ l₁ c₁ p₁ kp₁::l,below,h=>by
  rcases Pr (l:=l) below h with e | ⟨fs,b,r,e,q⟩
  ·left
   show (splitAtGen (l++Av below)).map _=none
   rw [e];rfl
  ·right
   refine Wn (.ret k₁ none g₁ l₁ c₁ p₁ kp₁::fs) b r ⟨?_,q⟩
   show (splitAtGen (l++Av below)).map _=_
   rw [e];rfl
 |.ret _ (some _) _ _ _ _ _::_,_,h=>by cases h
 |.gen ..::l,below,_=>.inr ⟨[],_,_,rfl,rfl⟩
theorem Hs{l:List Frame} (below:List (Code×Pos)) (c:Code) (h:K3 l=true):(Cx c (l.map Frame.where_++below)).Fits (l++Av below):=by
 refine ⟨(E7 false below h).symm,?_,?_,(E7 true below h).symm⟩
 ·show none=topHandled (ownFrames (l++Av below))
  unfold ownFrames
  rcases Pr below h with e | ⟨fs,b,r,e,q⟩
  ·rw [e];exact (E7 false below h).symm
  ·rw [e];exact q.symm
 ·show l.map Frame.where_++below=_
  rw [List.map_append,Rt]
theorem Sr(c:Code) (below:List (Code×Pos)):PySem.Ctx.of c (Av below)=Cx c below:=by
 have F:=Hs (l:=[]) below c rfl
 unfold PySem.Ctx.of
 have h1:topHandled (Av below)=none:=F.handled.symm
 have h2:topHandled (ownFrames (Av below))=none:=F.own.symm
 have h3:topHandled.go true (Av below)=none:=F.past.symm
 rw [h1,h2,h3,Rt];rfl
theorem Sd{z:Zed}{h₀:Heap}{G₀:GB}{A₀:List Addr}{s:Shared}{T A:BT}{k nb m tb i gb gi:Nat}{GA:List Nat}{gs:List GenState}(R:Rep z h₀ G₀ A₀ s T A k nb m tb i gb gi GA gs){c:Code}{x y:Nat}{q:Addr×Addr×Sem Fin}
  (e:R6 T c x y=some q) (h1:q.1=Ch A x) (h2:q.2.1=Ch A y):den c=q.2.2:=by
 unfold R6 at e
 split at e
 ·cases e
 ·rename_i hb
  split at e
  ·cases e
  ·rename_i o1 e1
   split at e
   ·cases e
   ·rename_i o2 e2
    refine Acm (a:=q.1) (b:=q.2.1) e fun w=>?_
    rw [h1,h2] at w
    have:=R.inj _ _ (R.own _ _ e1).1 (R.own _ _ e2).1 w
    exact absurd this (Nat.ne_of_beq_eq_false hb)
structure Got (z:Zed) (below:List (Code×Pos)) (h₀:Heap) (G₀:GB) (A₀:List Addr) (s:Shared) (t:Sem Fin) (c:Code) (p:Pos) (pre:List Frame) (o:Out):Prop where
 rep:∃s',Rep z h₀ G₀ A₀ s' o.T o.A o.k o.nb o.m o.tb o.i o.gb o.gi o.GA o.gs∧Pas z h₀ A₀ s' o.A o.k o.pp.ps ∧
  ∀s'' e,Reach (model z.prog z.w) (Av below) s' o.t o.c o.p o.pre s'' e→Reach (model z.prog z.w) (Av below) s t c p pre s'' e
structure FineAt (z:Zed) (below:List (Code×Pos)) (h₀:Heap) (G₀:GB) (A₀:List Addr) (s:Shared) (t:Sem Fin) (c:Code) (p:Pos) (pre:List Frame) (ob:List (Nat×Nat)) (lg:List Log) (o:Out):Prop where
 obs:∀x∈ob,x∈o.ob
 logs:∀e∈lg,e∈o.lg
 got:(∀x∈o.ob,x.1=x.2)→(∀e∈o.lg,Oblig z e)→o.why=0→Got z below h₀ G₀ A₀ s t c p pre o
noncomputable def Se(z:Zed) (below:List (Code×Pos)) (h₀:Heap) (G₀:GB) (A₀:List Addr) (ih:Iu):Prop:=
 ∀t c p pre T A k m i ob orc q s,Rep z h₀ G₀ A₀ s T A k q.nb m q.tb i q.gb q.gi q.GA q.gs→Pas z h₀ A₀ s A k q.pp.ps→FineAt z below h₀ G₀ A₀ s t c p pre ob q.lg (ih t c p pre T A k m i ob orc q)
noncomputable def N0(ih:Iu):Prop:=∀t c p pre T A k m i ob orc q,
 (∀x∈ob,x∈(ih t c p pre T A k m i ob orc q).ob)∧(∀e∈q.lg,e∈(ih t c p pre T A k m i ob orc q).lg)
section
variable {z:Zed} {below:List (Code×Pos)} {h₀:Heap} {G₀:GB} {A₀:List Addr} {ih:Iu}
theorem Am{s:Shared}{t t':Sem Fin}{c c':Code}{p p':Pos}{pre pre':List Frame}{T A:BT}{k m i:Nat} {ob:List (Nat×Nat)} {orc:Nat} {q:Q} {why:Nat} (h:why≠0):
  FineAt z below h₀ G₀ A₀ s t c p pre ob q.lg (Bq why t' c' p' pre' T A k m i ob orc q):=
 ⟨fun _ h=>h,fun _ h=>h,fun _ _ e=>absurd e h⟩
theorem Bf(MO:N0 ih)(IH:Se z below h₀ G₀ A₀ ih){s:Shared}{t t₁:Sem Fin}{c c₁:Code}{p p₁:Pos}{pre pre₁:List Frame}{T A:BT}{k m i:Nat} {ob ob₁:List (Nat×Nat)} {lg:List Log} {orc:Nat} {q:Q}
  (ho:∀x∈ob,x∈ob₁) (hl:∀e∈lg,e∈q.lg)
  (hs:(∀x∈ob₁,x.1=x.2)→(∀e∈q.lg,Oblig z e)→∃s₁,(∀s'' e,Reach (model z.prog z.w) (Av below) s₁ t₁ c₁ p₁ pre₁ s'' e→Reach (model z.prog z.w) (Av below) s t c p pre s'' e)∧Rep z h₀ G₀ A₀ s₁ T A k q.nb m q.tb i q.gb q.gi q.GA q.gs∧Pas z h₀ A₀ s₁ A k q.pp.ps):
  FineAt z below h₀ G₀ A₀ s t c p pre ob lg (ih t₁ c₁ p₁ pre₁ T A k m i ob₁ orc q):=by
 have M:=MO t₁ c₁ p₁ pre₁ T A k m i ob₁ orc q
 refine ⟨fun x hx=>M.1 x (ho x hx),fun e he=>M.2 e (hl e he),fun hob hlg hw=>?_⟩
 refine Af fun Gz hGz=>?_
 obtain ⟨s₁,hr,R,P⟩:=hs (fun x hx=>hob x (M.1 x hx)) (fun e he=>hlg e (M.2 e he))
 obtain ⟨s',R',P',h'⟩:=((IH t₁ c₁ p₁ pre₁ T A k m i ob₁ orc q s₁ R P).got hob hlg hw).rep
 refine hGz ?_
 exact ⟨s',R',P',fun s'' e r=>hr _ _ (h' s'' e r)⟩
theorem E2{s s₁:Shared}{t t₁:Sem Fin}{c c₁:Code}{p p₁:Pos}{pre pre₁:List Frame} (hs:(model z.prog z.w).step s ⟨t,c,p,pre++Av below⟩=.go s₁ ⟨t₁,c₁,p₁,pre₁++Av below⟩):
  ∀s'' e,Reach (model z.prog z.w) (Av below) s₁ t₁ c₁ p₁ pre₁ s'' e→Reach (model z.prog z.w) (Av below) s t c p pre s'' e:=fun _ _ r=>.step hs r
theorem N3(MO:N0 ih)(IH:Se z below h₀ G₀ A₀ ih){s:Shared}{t t₁:Sem Fin}{c c₁:Code}{p p₁:Pos}{pre pre₁:List Frame}{T A:BT}{k m i g:Nat}{x:GenState} {ob:List (Nat×Nat)} {d orc:Nat} {q:Q} (R:Rep z h₀ G₀ A₀ s T A k q.nb m q.tb i q.gb q.gi q.GA q.gs) (P:Pas z h₀ A₀ s A k q.pp.ps) (hx:x.bare=true)
  (hs:(model z.prog z.w).step s ⟨t,c,p,pre++Av below⟩=.go (s.setGen g x) ⟨t₁,c₁,p₁,pre₁++Av below⟩):
  FineAt z below h₀ G₀ A₀ s t c p pre ob q.lg (Iz ih g t₁ x c₁ p₁ pre₁ T A k m i ob d orc q):=by
 refine Af fun Gz hGz=>?_
 obtain ⟨nb,tb,gb,gi,GA,gs,lg,xs,pp⟩:=q
 refine hGz ?_
 unfold Iz
 split
 ·exact Am (by decide)
 ·rename_i j
  dsimp only
  split
  ·exact Am (q:=⟨nb,tb,gb,gi,GA,gs,lg,xs,pp⟩) (by decide)
  ·rename_i x₀ hj
   refine Bf MO IH (fun _ h=>.tail _ h) (fun _ h=>h) fun ho _=>?_
   have e:g=nth GA j:=ho _ (.head _)
   subst e
   exact ⟨_,E2 hs,R.setGen hj hx,P.gens⟩
theorem Zr(MO:N0 ih)(IH:Se z below h₀ G₀ A₀ ih):Se z below h₀ G₀ A₀ (Pb z below ih):=by
 have hden:(model z.prog z.w).den=den:=O2
 intro t c p pre T A k m i ob orc q s R P
 cases t with
 |pure fin=>
  cases fin with
  |done f=>
   cases pre with
   |nil=>exact Am (by decide)
   |cons F pre'=>
    cases F with
    |ret kk h g l c' p' kp=>exact Bf MO IH (fun _ h=>h) (fun _ h=>h) fun _ _=>⟨_,E2 (PySem.step_leaf_ret (r:=.ok f) ..),R,P⟩
    |gen g kk l c' p'=>exact N3 MO IH R P rfl (PySem.step_leaf_gen (r:=.ok f) ..)
  |again c'=>
   show FineAt _ _ _ _ _ _ _ _ _ _ _ _ (Jr ih c' c p pre T A k m i ob (orc % 128) (orc / 128) q)
   unfold Jr
   split
   ·exact Am (by decide)
   ·rename_i hq
    split
    ·refine Bf MO IH (fun _ h=>h) (fun _ h=>h) fun _ _=>⟨_,E2 ?_,R,P⟩
     rw [PySem.step_again (c':=c') (hq:=by rw [Iw];exact hq),hden]
    ·split
     ·exact Am (by decide)
     ·rename_i r e
      refine Bf MO IH (fun _ h=>.tail _ (.tail _ h)) (fun _ h=>h) fun ho _=>⟨_,E2 ?_,R,P⟩
      have hd:=Sd R e (ho _ (.head _)) (ho _ (.tail _ (.head _)))
      rw [PySem.step_again (c':=c') (hq:=by rw [Iw];exact hq),hden,hd]
 |raise x=>
  cases pre with
  |nil=>exact Am (by decide)
  |cons F pre'=>
   cases F with
   |ret kk h g l c' p' kp=>exact Bf MO IH (fun _ h=>h) (fun _ h=>h) fun _ _=>⟨_,E2 (PySem.step_leaf_ret (r:=.error x) ..),R,P⟩
   |gen g kk l c' p'=>exact N3 MO IH R P rfl (PySem.step_leaf_gen (r:=.error x) ..)
 |rule tag kk=>exact Bf MO IH (fun _ h=>h) (fun _ h=>h) fun _ _=>⟨_,E2 (PySem.step_rule ..),R,P⟩
 |«at» q' kk=>exact Bf MO IH (fun _ h=>h) (fun _ h=>h) fun _ _=>⟨_,E2 (PySem.step_at ..),R,P⟩
 |point l kk=>exact Bf MO IH (fun _ h=>h) (fun _ h=>h) fun _ _=>⟨_,E2 (PySem.step_point ..),R,P⟩
 |ask kk=>exact Bf MO IH (fun _ h=>h) (fun _ h=>h) fun _ _=>⟨_,E2 (PySem.step_ask ..),R,P⟩
 |load a part kk=>
  show FineAt _ _ _ _ _ _ _ _ _ _ _ _ (F7 z ih a kk c p pre T A k m i ob (orc % 128) (orc / 128) q)
  unfold F7
  split
  ·exact Am (by decide)
  ·split
   ·split
    ·exact Am (by decide)
    ·rename_i hb
     split
     ·exact Am (by decide)
     ·rename_i o e
      exact Bf MO IH (fun _ h=>h) (fun _ h=>h) fun _ _=>⟨_,E2 (PySem.step_load (h:=R.stat a o e hb) ..),R,P⟩
   ·split
    ·exact Am (by decide)
    ·rename_i o e
     refine Bf MO IH (fun _ h=>.tail _ h) (fun _ h=>h) fun ho _=>?_
     have ea:=ho _ (.head _)
     dsimp only at ea
     subst ea
     exact ⟨_,E2 (PySem.step_load (h:=(R.own _ o e).2) ..),R,P⟩
 |loadIfAlive a kk=>
  show FineAt _ _ _ _ _ _ _ _ _ _ _ _ (F7 z ih a (fun o=>kk (some o)) c p pre T A k m i ob (orc % 128) (orc / 128) q)
  unfold F7
  split
  ·exact Am (by decide)
  ·split
   ·split
    ·exact Am (by decide)
    ·rename_i hb
     split
     ·exact Am (by decide)
     ·rename_i o e
      exact Bf MO IH (fun _ h=>h) (fun _ h=>h) fun _ _=>⟨s,E2 (by rw [PySem.step_loadIfAlive,R.stat a o e hb]),R,P⟩
   ·split
    ·exact Am (by decide)
    ·rename_i o e
     refine Bf MO IH (fun _ h=>.tail _ h) (fun _ h=>h) fun ho _=>?_
     have ea:=ho _ (.head _)
     dsimp only at ea
     subst ea
     exact ⟨s,E2 (by rw [PySem.step_loadIfAlive,(R.own _ o e).2]),R,P⟩
 |alloc o kk=>
  show FineAt _ _ _ _ _ _ _ _ _ _ _ _ (Jj ih o kk c p pre T A k m i ob orc q)
  unfold Jj
  split
  ·exact Am (by decide)
  ·rename_i hf
   split
   ·exact Am (by decide)
   ·rename_i o1 e1
    split
    ·exact Am (by decide)
    ·rename_i o2 e2
     exact Bf MO IH (fun _ h=>h) (fun _ h=>h) fun _ _=>⟨{s with heap:=s.heap.push o},E2 (by rw [PySem.step_alloc,R.size]),R.alloc hf (by rw [e1];rfl) (by rw [e2];rfl),P.alloc R (by rw [e2];rfl)⟩
 |update a part f kk=>
  show FineAt _ _ _ _ _ _ _ _ _ _ _ _ (I5 ih a f kk c p pre T A k m i ob (orc % 128) (orc / 128) q)
  unfold I5
  split
  ·exact Am (by decide)
  ·split
   ·exact Am (by decide)
   ·split
    ·exact Am (by decide)
    ·rename_i o e
     split
     ·exact Am (by decide)
     ·rename_i hf
      refine Bf MO IH (fun _ h=>.tail _ h) (fun _ h=>h) fun ho _=>?_
      have ea:=ho _ (.head _)
      dsimp only at ea
      subst ea
      have w:=R.upd e hf
      exact ⟨_,E2 (PySem.step_update (h:=w.1) ..),w.2,P.upd (R.own _ o e).1⟩
 |fresh kk=>exact Bf MO IH (fun _ h=>h) (fun _ h=>h) fun _ _=>⟨{s with toks:=s.toks+1},E2 (by rw [PySem.step_fresh,R.toks]),R.fresh,P.fresh⟩
 |handled own kk=>
  cases own with
  |false=>exact Bf MO IH (fun _ h=>h) (fun _ h=>h) fun _ _=>⟨_,E2 (PySem.step_handled ..),R,P⟩
  |true=>exact Am (by decide)
 |stack kk=>exact Bf MO IH (fun _ h=>h) (fun _ h=>h) fun _ _=>⟨_,E2 (PySem.step_stack ..),R,P⟩
 |call c' h gd lv kk=>
  show FineAt _ _ _ _ _ _ _ _ _ _ _ _ (M0 below ih c' h gd lv kk c p pre T A k m i ob (orc % 128) (orc / 128) q)
  unfold M0
  split
  ·exact Bf MO IH (fun _ h=>h) (fun _ h=>h) fun _ _=>⟨s,E2 (pre₁:=.ret kk h gd lv c p []::pre) (by rw [PySem.step_call,hden];rfl),R,P⟩
  ·split
   ·refine Af fun Gz hGz=>?_
    obtain ⟨nb,tb,gb,gi,GA,gs,lg,xs,pp⟩:=q
    refine hGz ?_
    unfold N1
    split
    ·exact Am (q:=⟨nb,tb,gb,gi,GA,gs,lg,xs,pp⟩) (by decide)
    ·split
     ·exact Am (q:=⟨nb,tb,gb,gi,GA,gs,lg,xs,pp⟩) (by decide)
     ·rename_i hpl
      dsimp only
      split
      ·exact Am (q:=⟨nb,tb,gb,gi,GA,gs,_,_,pp⟩) (by decide)
      ·rename_i x xs'
       split
       ·exact Am (q:=⟨nb,tb,gb,gi,GA,gs,lg,x::xs',pp⟩) (by decide)
       ·rename_i l hp
        split
        ·exact Am (q:=⟨nb,tb,gb,gi,GA,gs,lg,x::xs',pp⟩) (by decide)
        ·rename_i r hr
         refine Bf MO IH (fun _ h=>h) (fun _ h=>.tail _ h) fun _ hl=>?_
         have O:=hl _ (.head _)
         have back:∀{r₁:Result} {s₁:Shared},Returns (model z.prog z.w) (Cx c' ((c,p)::(pre.map Frame.where_++below))) p s r₁ s₁→r₁=x.res→∀s'' e,Reach (model z.prog z.w) (Av below) s₁ (kk x.res) c p pre s'' e→Reach (model z.prog z.w) (Av below) s (.call c' none gd lv kk) c p pre s'' e:=by
          rintro r₁ s₁ hr₁ rfl s'' e y
          have w:=runs_reach (M:=model z.prog z.w) hr₁ ((.ret kk none gd lv c p []::pre)++Av below) (Hs (l:=.ret kk none gd lv c p []::pre) below _ hpl)
          refine .step (pre₁:=.ret kk none gd lv c p []::pre) (PySem.step_call ..) ?_
          refine Reach.under (B:=.ret kk none gd lv c p []::pre) (pre:=[]) (base:=Av below) w ?_
          rintro t' c₃ p₃ pre₃ ⟨rfl,rfl⟩
          exact .step (pre:=.ret kk none gd lv c p []::pre) (pre₁:=pre) (PySem.step_leaf_ret ..) y
         have D:=O.does
         obtain ⟨ps,pq⟩:=pp
         dsimp only at D
         cases pq with
         |nil=>
          dsimp only [PP.told] at D
          refine Af fun Gz hGz=>?_
          obtain ⟨r₁,s₁,hr₁,e₁,S,K⟩:=D s p (R.st hp O.nodup)
          refine hGz ?_
          refine ⟨s₁,back hr₁ e₁,R.called (extra:=[]) hp hr O.nodup O.len O.news S (by rw [List.append_nil];exact K) (fun _ h=>nomatch h) (fun _ h=>nomatch h),P.called R hp hr O.news K⟩
         |cons a pq=>
          cases a with
          |none=>
           dsimp only [PP.told] at D
           refine Af fun Gz hGz=>?_
           obtain ⟨r₁,s₁,hr₁,e₁,S,K⟩:=D s p (R.st hp O.nodup)
           refine hGz ?_
           refine ⟨s₁,back hr₁ e₁,R.called (extra:=[]) hp hr O.nodup O.len O.news S (by rw [List.append_nil];exact K) (fun _ h=>nomatch h) (fun _ h=>nomatch h),P.called R hp hr O.news K⟩
          |some ps'=>
           dsimp only [PP.told] at D
           refine Af fun Gz hGz=>?_
           obtain ⟨hps,D⟩:=D
           obtain ⟨r₁,s₁,hr₁,e₁,S,K⟩:=D s p (R.stP P hp O.nodup)
           rw [List.map_append] at K
           refine hGz ?_
           refine ⟨s₁,back hr₁ e₁,R.called hp hr O.nodup O.len O.news S.left K (fun a ha=>?_) (fun a ha=>?_),P.turned R hp O.nodup O.len hr O.news S hps⟩
           ·refine Af fun Gz hGz=>?_
            obtain ⟨q,hq,rfl⟩:=List.mem_map.mp ha
            refine hGz ?_
            exact P.apart q hq
           ·refine Af fun Gz hGz=>?_
            obtain ⟨q,hq,rfl⟩:=List.mem_map.mp ha
            refine hGz ?_
            exact P.newer q hq
   ·split
    ·exact Am (by decide)
    ·rename_i r e
     refine Bf MO IH (fun _ h=>.tail _ (.tail _ h)) (fun _ h=>h) fun ho _=>?_
     have hd:=Sd R e (ho _ (.head _)) (ho _ (.tail _ (.head _)))
     exact ⟨s,E2 (pre₁:=.ret kk h gd lv c p []::pre) (by rw [PySem.step_call,hden,hd];rfl),R,P⟩
 |newGen c' kk=>
  refine Af fun Gz hGz=>?_
  obtain ⟨nb,tb,gb,gi,GA,gs,lg,xs,pp⟩:=q
  refine hGz ?_
  exact Bf (q:=⟨nb,tb,gb,gi+1,GA++[gb+gi],gs++[.fresh c'],lg,xs,pp⟩) MO IH (fun _ h=>h) (fun _ h=>h) fun _ _=>⟨{s with gens:=s.gens.push (.fresh c')},E2 (by rw [PySem.step_newGen,R.gsize]),R.newGen c',P.gens⟩
 |genState g kk=>
  show FineAt _ _ _ _ _ _ _ _ _ _ _ _ (Fy ih g kk c p pre T A k m i ob (orc % 128) (orc / 128) q)
  unfold Fy
  split
  ·exact Am (by decide)
  ·split
   ·exact Am (by decide)
   ·rename_i x e
    refine Bf MO IH (fun _ h=>.tail _ h) (fun _ h=>h) fun ho _=>?_
    have ea:=ho _ (.head _)
    dsimp only at ea
    subst ea
    exact ⟨_,E2 (PySem.step_genState (h:=R.gkn _ x e) ..),R,P⟩
 |resume g r l kk=>
  refine Af fun Gz hGz=>?_
  obtain ⟨nb,tb,gb,gi,GA,gs,lg,xs,pp⟩:=q
  refine hGz ?_
  show FineAt _ _ _ _ _ _ _ _ _ _ _ _ (Gg ih g r l kk c p pre T A k m i ob (orc % 128) (orc / 128) ⟨nb,tb,gb,gi,GA,gs,lg,xs,pp⟩)
  unfold Gg
  split
  ·exact Am (q:=⟨nb,tb,gb,gi,GA,gs,lg,xs,pp⟩) (by decide)
  ·dsimp only
   split
   ·exact Am (q:=⟨nb,tb,gb,gi,GA,gs,lg,xs,pp⟩) (by decide)
   ·rename_i x e
    cases x with
    |fresh c₀=>
     cases r with
     |throw=>exact Am (q:=⟨nb,tb,gb,gi,GA,gs,lg,xs,pp⟩) (by decide)
     |send v=>
      cases v with
      |none=>
       refine Bf MO IH (fun _ h=>.tail _ h) (fun _ h=>h) fun ho _=>?_
       have ea:=ho _ (.head _)
       dsimp only at ea
       subst ea
       exact ⟨_,E2 (pre₁:=.gen _ kk l c p::pre) (by rw [PySem.step_resume_fresh (h:=R.gkn _ _ e),hden];rfl),R.setGen e rfl,P.gens⟩
      |_=>exact Am (q:=⟨nb,tb,gb,gi,GA,gs,lg,xs,pp⟩) (by decide)
    |suspended k₀ l₀ c₀ p₀ fs₀ cl=>
     refine Bf MO IH (fun _ h=>.tail _ h) (fun _ h=>h) fun ho _=>?_
     have ea:=ho _ (.head _)
     dsimp only at ea
     subst ea
     exact ⟨_,E2 (pre₁:=fs₀++.gen _ kk l c p::pre) (by rw [PySem.step_resume_suspended (h:=R.gkn _ _ e),List.append_assoc];rfl),R.setGen e rfl,P.gens⟩
    |running=>exact Am (q:=⟨nb,tb,gb,gi,GA,gs,lg,xs,pp⟩) (by decide)
    |finished=>
     refine Bf (q:=⟨nb,tb,gb,gi,GA,gs,lg,xs,pp⟩) MO IH (fun _ h=>.tail _ h) (fun _ h=>h) fun ho _=>?_
     have ea:=ho _ (.head _)
     dsimp only at ea
     subst ea
     exact ⟨_,E2 (PySem.step_resume_finished (h:=R.gkn _ _ e) ..),R,P⟩
 |yield v gd l kk=>
  show FineAt _ _ _ _ _ _ _ _ _ _ _ _ (Jm ih v gd l kk c p pre T A k m i ob orc q)
  unfold Jm
  split
  ·exact Am (by decide)
  ·rename_i fs g k₀ c' p' rest e
   split
   ·exact Am (by decide)
   ·rename_i hq
    have es:splitAtGen (pre++Av below)=some (fs,(g,k₀,c',p'),rest++Av below):=PySem.splitAtGen_append_some _ e
    refine N3 MO IH R P rfl ?_
    have w:=PySem.step_yield (M:=model z.prog z.w) (s:=s) (v:=v) (g₀:=gd) (l₀:=l) (k₀:=kk) (c:=c) (p:=p) (h:=es) (hq:=by show (!(gd || fs.any Frame.guarded))=true;rw [hq];rfl)
    have u:(End.susp v gd l kk c p fs).genState=.suspended kk l c p fs false:=by
     show GenState.suspended kk l c p fs (gd || fs.any Frame.guarded)=_
     rw [hq]
    rw [u] at w
    exact w
 |thread kk=>exact Bf MO IH (fun _ h=>h) (fun _ h=>h) fun _ _=>⟨_,E2 (PySem.step_thread ..),R,P⟩
 |unsupported=>exact Am (by decide)
 |finish=>exact Am (by decide)
 |register=>exact Am (by decide)
 |choose=>exact Am (by decide)
 |os=>exact Am (by decide)
 |fork=>exact Am (by decide)
 |await=>exact Am (by decide)
theorem Nk(MO:N0 ih)(g t x c p pre T A k m i ob d orc)(q:Q):(∀x'∈ob,x'∈(Iz ih g t x c p pre T A k m i ob d orc q).ob)∧(∀e∈q.lg,e∈(Iz ih g t x c p pre T A k m i ob d orc q).lg):=by
 refine Af fun Gz hGz=>?_
 obtain ⟨nb,tb,gb,gi,GA,gs,lg,xs,pp⟩:=q
 refine hGz ?_
 unfold Iz
 split
 ·exact ⟨fun _ h=>h,fun _ h=>h⟩
 ·dsimp only
  split
  ·exact ⟨fun _ h=>h,fun _ h=>h⟩
  ·exact ⟨fun _ h=>(MO _ _ _ _ _ _ _ _ _ _ _ _).1 _ (.tail _ h),fun _ h=>(MO _ _ _ _ _ _ _ _ _ _ _ _).2 _ h⟩
noncomputable def F6 (ob:List (Nat×Nat)) (q:Q) (o:Out):Prop:=(∀x∈ob,x∈o.ob)∧(∀e∈q.lg,e∈o.lg)
theorem Xz(MO:N0 ih):N0 (Pb z below ih):=by
 intro t c p pre T A k m i ob orc q
 show F6 ob q _
 have S:∀why t,F6 ob q (Bq why t c p pre T A k m i ob orc q):=fun _ _=>⟨fun _ h=>h,fun _ h=>h⟩
 cases t with
 |pure fin=>
  cases fin with
  |done f=>
   cases pre with
   |nil=>exact S _ _
   |cons F pre'=>
    cases F with
    |ret=>exact MO _ _ _ _ _ _ _ _ _ _ _ _
    |gen=>exact Nk MO ..
  |again c'=>
   show F6 ob q (Jr ih c' c p pre T A k m i ob (orc % 128) (orc / 128) q)
   unfold Jr
   split
   ·exact ⟨fun _ h=>h,fun _ h=>h⟩
   ·split
    ·exact MO _ _ _ _ _ _ _ _ _ _ _ _
    ·split
     ·exact ⟨fun _ h=>h,fun _ h=>h⟩
     ·exact ⟨fun _ h=>(MO _ _ _ _ _ _ _ _ _ _ _ _).1 _ (.tail _ (.tail _ h)),fun _ h=>(MO _ _ _ _ _ _ _ _ _ _ _ _).2 _ h⟩
 |raise x=>
  cases pre with
  |nil=>exact S _ _
  |cons F pre'=>
   cases F with
   |ret=>exact MO _ _ _ _ _ _ _ _ _ _ _ _
   |gen=>exact Nk MO ..
 |rule tag kk=>exact MO _ _ _ _ _ _ _ _ _ _ _ _
 |«at» q' kk=>exact MO _ _ _ _ _ _ _ _ _ _ _ _
 |point l kk=>exact MO _ _ _ _ _ _ _ _ _ _ _ _
 |ask kk=>exact MO _ _ _ _ _ _ _ _ _ _ _ _
 |fresh kk=>exact MO _ _ _ _ _ _ _ _ _ _ _ _
 |stack kk=>exact MO _ _ _ _ _ _ _ _ _ _ _ _
 |thread kk=>exact MO _ _ _ _ _ _ _ _ _ _ _ _
 |load a part kk=>
  show F6 ob q (F7 z ih a kk c p pre T A k m i ob (orc % 128) (orc / 128) q)
  unfold F7
  repeat' split
  all_goals first
   |exact ⟨fun _ h=>h,fun _ h=>h⟩
   |exact MO _ _ _ _ _ _ _ _ _ _ _ _
   |exact ⟨fun _ h=>(MO _ _ _ _ _ _ _ _ _ _ _ _).1 _ (.tail _ h),fun _ h=>(MO _ _ _ _ _ _ _ _ _ _ _ _).2 _ h⟩
 |loadIfAlive a kk=>
  show F6 ob q (F7 z ih a (fun o=>kk (some o)) c p pre T A k m i ob (orc % 128) (orc / 128) q)
  unfold F7
  repeat' split
  all_goals first
   |exact ⟨fun _ h=>h,fun _ h=>h⟩
   |exact MO _ _ _ _ _ _ _ _ _ _ _ _
   |exact ⟨fun _ h=>(MO _ _ _ _ _ _ _ _ _ _ _ _).1 _ (.tail _ h),fun _ h=>(MO _ _ _ _ _ _ _ _ _ _ _ _).2 _ h⟩
 |alloc o kk=>
  show F6 ob q (Jj ih o kk c p pre T A k m i ob orc q)
  unfold Jj
  repeat' split
  all_goals first
   |exact ⟨fun _ h=>h,fun _ h=>h⟩
   |exact MO _ _ _ _ _ _ _ _ _ _ _ _
 |update a part f kk=>
  show F6 ob q (I5 ih a f kk c p pre T A k m i ob (orc % 128) (orc / 128) q)
  unfold I5
  repeat' split
  all_goals first
   |exact ⟨fun _ h=>h,fun _ h=>h⟩
   |exact ⟨fun _ h=>(MO _ _ _ _ _ _ _ _ _ _ _ _).1 _ (.tail _ h),fun _ h=>(MO _ _ _ _ _ _ _ _ _ _ _ _).2 _ h⟩
 |handled own kk=>
  cases own with
  |false=>exact MO _ _ _ _ _ _ _ _ _ _ _ _
  |true=>exact S _ _
 |call c' h gd lv kk=>
  show F6 ob q (M0 below ih c' h gd lv kk c p pre T A k m i ob (orc % 128) (orc / 128) q)
  unfold M0
  split
  ·exact MO _ _ _ _ _ _ _ _ _ _ _ _
  ·split
   ·refine Af fun Gz hGz=>?_
    obtain ⟨nb,tb,gb,gi,GA,gs,lg,xs,pp⟩:=q
    refine hGz ?_
    unfold N1
    split
    ·exact ⟨fun _ h=>h,fun _ h=>h⟩
    ·split
     ·exact ⟨fun _ h=>h,fun _ h=>h⟩
     ·dsimp only
      split
      ·exact ⟨fun _ h=>h,fun _ h=>h⟩
      ·split
       ·exact ⟨fun _ h=>h,fun _ h=>h⟩
       ·split
        ·exact ⟨fun _ h=>h,fun _ h=>h⟩
        ·exact ⟨fun _ h=>(MO _ _ _ _ _ _ _ _ _ _ _ _).1 _ h,fun _ h=>(MO _ _ _ _ _ _ _ _ _ _ _ _).2 _ (.tail _ h)⟩
   ·split
    ·exact ⟨fun _ h=>h,fun _ h=>h⟩
    ·exact ⟨fun _ h=>(MO _ _ _ _ _ _ _ _ _ _ _ _).1 _ (.tail _ (.tail _ h)),fun _ h=>(MO _ _ _ _ _ _ _ _ _ _ _ _).2 _ h⟩
 |newGen c' kk=>
  refine Af fun Gz hGz=>?_
  obtain ⟨nb,tb,gb,gi,GA,gs,lg,xs,pp⟩:=q
  refine hGz ?_
  exact MO (kk (gb+gi)) c p pre T A k m i ob orc ⟨nb,tb,gb,gi+1,GA++[gb+gi],gs++[.fresh c'],lg,xs,pp⟩
 |genState g kk=>
  show F6 ob q (Fy ih g kk c p pre T A k m i ob (orc % 128) (orc / 128) q)
  unfold Fy
  repeat' split
  all_goals first
   |exact ⟨fun _ h=>h,fun _ h=>h⟩
   |exact ⟨fun _ h=>(MO _ _ _ _ _ _ _ _ _ _ _ _).1 _ (.tail _ h),fun _ h=>(MO _ _ _ _ _ _ _ _ _ _ _ _).2 _ h⟩
 |resume g r l kk=>
  refine Af fun Gz hGz=>?_
  obtain ⟨nb,tb,gb,gi,GA,gs,lg,xs,pp⟩:=q
  refine hGz ?_
  show (∀x∈ob,x∈(Gg ih g r l kk c p pre T A k m i ob (orc % 128) (orc / 128) ⟨nb,tb,gb,gi,GA,gs,lg,xs,pp⟩).ob)∧(∀e∈lg,e∈(Gg ih g r l kk c p pre T A k m i ob (orc % 128) (orc / 128) ⟨nb,tb,gb,gi,GA,gs,lg,xs,pp⟩).lg)
  unfold Gg
  split
  ·exact ⟨fun _ h=>h,fun _ h=>h⟩
  ·dsimp only
   split
   ·exact ⟨fun _ h=>h,fun _ h=>h⟩
   ·rename_i x e
    cases x with
    |fresh c₀=>
     cases r with
     |throw=>exact ⟨fun _ h=>h,fun _ h=>h⟩
     |send v=>
      cases v with
      |none=>exact ⟨fun _ h=>(MO _ _ _ _ _ _ _ _ _ _ _ _).1 _ (.tail _ h),fun _ h=>(MO _ _ _ _ _ _ _ _ _ _ _ ⟨nb,tb,gb,gi,GA,_,lg,xs,pp⟩).2 _ h⟩
      |_=>exact ⟨fun _ h=>h,fun _ h=>h⟩
    |suspended=>exact ⟨fun _ h=>(MO _ _ _ _ _ _ _ _ _ _ _ _).1 _ (.tail _ h),fun _ h=>(MO _ _ _ _ _ _ _ _ _ _ _ ⟨nb,tb,gb,gi,GA,_,lg,xs,pp⟩).2 _ h⟩
    |running=>exact ⟨fun _ h=>h,fun _ h=>h⟩
    |finished=>exact ⟨fun _ h=>(MO _ _ _ _ _ _ _ _ _ _ _ _).1 _ (.tail _ h),fun _ h=>(MO _ _ _ _ _ _ _ _ _ _ _ ⟨nb,tb,gb,gi,GA,gs,lg,xs,pp⟩).2 _ h⟩
 |yield v gd l kk=>
  show F6 ob q (Jm ih v gd l kk c p pre T A k m i ob orc q)
  unfold Jm
  split
  ·exact ⟨fun _ h=>h,fun _ h=>h⟩
  ·split
   ·exact ⟨fun _ h=>h,fun _ h=>h⟩
   ·exact Nk MO ..
 |_=>exact ⟨fun _ h=>h,fun _ h=>h⟩
theorem Zq:∀n,N0 (Ou z below n):=by
 intro n;induction n with
 |zero=>
  exact fun _ _ _ _ _ _ _ _ _ _ _ _=>⟨fun _ h=>h,fun _ h=>h⟩
 |succ n hsI=>
  exact Xz hsI
theorem Qf:∀n,Se z below h₀ G₀ A₀ (Ou z below n):=by
 intro n;induction n with
 |zero=>
  exact fun _ _ _ _ _ _ _ _ _ _ _ _ s R P=>⟨fun _ h=>h,fun _ h=>h,fun _ _ _=>⟨s,R,P,fun _ _ r=>r⟩⟩
 |succ n hfI=>
  exact Zr (Zq n) hfI
end
end
section
@[irreducible] noncomputable def Ei (z:Zed) (below:List (Code×Pos)) (N:Nat) (u:Sem Fin) (c:Code) (p:Pos) (l:LO) (n t g orc:Nat) (xs:List Ans) (pp:PP):Out:=match Fd .nil .nil 0 l with
 |some r=>Ou z below N u c p [] r.1 r.2.1 r.2.2 0 0 [] orc ⟨n,t,g,0,[],[],[],xs,pp⟩
 |none=>⟨99,u,c,p,[],.nil,.nil,0,n,0,t,0,g,0,[],[],[],[],orc,xs,pp⟩
noncomputable abbrev Mg(z:Zed) (below:List (Code×Pos)) (N:Nat) (c:Code) (p:Pos) (l:LO) (n t g orc:Nat) (xs:List Ans):Out:=Ei z below N (den c) c p l n t g orc xs ⟨[],[]⟩
noncomputable abbrev Mm(z:Zed) (below:List (Code×Pos)) (N:Nat) (u:Sem Fin) (c:Code) (p:Pos) (l:LO) (n t g orc:Nat) (xs:List Ans):Out:=Ei z below N u c p l n t g orc xs ⟨[],[]⟩
inductive Leaf where
 |res (r:Result)
 |again (c:Code)
noncomputable def Im:Sem Fin→Option Leaf
 |.pure fin=>match fin with
  |.done f=>some (.res (.ok f))
  |.again c=>some (.again c)
 |.raise e=>some (.res (.error e))
 |_=>none
noncomputable def Ac6:List Frame→Bool
 |[]=>true
 |_=>false
abbrev Aje:=Nat×Option Leaf×Bool×Option LO×Nat×Nat×Nat
def Ng(o:Out)(js:List Nat):Aje:=(o.why,Im o.t,Ac6 o.pre,Hk o.T o.A js,o.nb+o.m,o.tb+o.i,o.gb+o.gi)
noncomputable def kind:Code→Nat×Option (String×Args)
 |.func ..=>(1,none)
 |.forLoop ..=>(2,none)
 |.whileLoop ..=>(3,none)
 |.compLoop e ..=>match e with
  |.ListComp ..=>(4,none)
  |.GeneratorExp ..=>(6,none)
  |_=>(0,none)
 |.compStart e ..=>match e with
  |.ListComp ..=>(5,none)
  |.GeneratorExp ..=>(11,none)
  |_=>(0,none)
 |.block ..=>(7,none)
 |.expr ..=>(8,none)
 |.builtin id a=>(9,some (id,a))
 |.call ..=>(10,none)
 |_=>(0,none)
def Gn (bl:List (Code×Pos)):List (Nat×Option (String×Args)):=bl.map fun x=>kind x.1
abbrev Et:=Code×List (Nat×Option (String×Args))×LO×Nat×Nat×Nat×Ans
def Ad2(e:Log):Et:=(e.c',Gn e.bl,e.l,e.n,e.t,e.g,e.x)
def X9(e:Log):Option Et:=match e.pa with
 |none=>some (Ad2 e)
 |some _=>none
abbrev Afb:=Et×Option (LO×LO)
def Adq(e:Log):Afb:=(Ad2 e,e.pa)
def Qq(z:Zed)(q:Et):Prop:=q.2.2.2.2.2.2.js.Nodup∧q.2.2.2.2.2.2.os.length=q.2.2.2.2.2.2.js.length∧(∀u∈q.2.2.2.2.2.2.news,q.2.2.2.1≤u.1)∧∀bl,Gn bl=q.2.1 →
 Does z q.1 bl q.2.2.1 q.2.2.2.1 q.2.2.2.2.1 q.2.2.2.2.2.1 q.2.2.2.2.2.2.res ((q.2.2.1.map (·.1)).zip q.2.2.2.2.2.2.os++q.2.2.2.2.2.2.news) (q.2.2.2.2.2.2.nb+q.2.2.2.2.2.2.m) (q.2.2.2.2.2.2.tb+q.2.2.2.2.2.2.i) (q.2.2.2.2.2.2.gb+q.2.2.2.2.2.2.gi)
def Ob2(z:Zed)(q:Et)(a b:LO):Prop:=q.2.2.2.2.2.2.js.Nodup∧q.2.2.2.2.2.2.os.length=q.2.2.2.2.2.2.js.length∧(∀u∈q.2.2.2.2.2.2.news,q.2.2.2.1≤u.1)∧(∀u∈b,u.1∈a.map (·.1)∨q.2.2.2.1≤u.1)∧∀bl,Gn bl=q.2.1 →
 Does z q.1 bl (q.2.2.1++a) q.2.2.2.1 q.2.2.2.2.1 q.2.2.2.2.2.1 q.2.2.2.2.2.2.res (((q.2.2.1.map (·.1)).zip q.2.2.2.2.2.2.os++q.2.2.2.2.2.2.news)++b) (q.2.2.2.2.2.2.nb+q.2.2.2.2.2.2.m) (q.2.2.2.2.2.2.tb+q.2.2.2.2.2.2.i) (q.2.2.2.2.2.2.gb+q.2.2.2.2.2.2.gi)
def ObP(z:Zed)(q:Afb):Prop:=match q.2 with
 |none=>Qq z q.1
 |some x=>Ob2 z q.1 x.1 x.2
def ObAll(z:Zed):List Et→Prop
 |[]=>True
 |q::L=>Qq z q∧ObAll z L
theorem Ad0{z:Zed}{e:Log} (h:ObP z (Adq e)):Oblig z e:=by
 refine Af fun Gz hGz=>?_
 obtain ⟨c',bl,l,n,t,g,x,pa⟩:=e
 refine hGz ?_
 cases pa with
 |none=>
  refine Af fun Gz hGz=>?_
  obtain ⟨a,b,c,d⟩:=h
  refine hGz ?_
  exact ⟨a,b,c,d _ rfl⟩
 |some y=>
  refine Af fun Gz hGz=>?_
  obtain ⟨a,b,c,d,e⟩:=h
  refine hGz ?_
  exact ⟨a,b,c,d,e _ rfl⟩
theorem A2e{z:Zed}{lg:List Log}{L:List Et}(h:lg.map X9=L.map some)(H:∀q∈L,Qq z q):∀e∈lg,Oblig z e:=by
 intro e he
 refine Ad0 ?_
 have:X9 e∈L.map some:=h▸List.mem_map.mpr ⟨e,he,rfl⟩
 refine Af fun Gz hGz=>?_
 obtain ⟨q,hq,w⟩:=List.mem_map.mp this
 refine hGz ?_
 unfold X9 at w
 unfold ObP Adq
 cases hp:e.pa with
 |none=>
  rw [hp] at w
  exact Option.some.inj w▸H q hq
 |some y=>rw [hp] at w;cases w
theorem Pn{t:Sem Fin}{r:Result} (h:Im t=some (.res r)):t=leafOf r:=by
 unfold Im at h
 split at h
 ·split at h<;>cases h;rfl
 ·cases h;rfl
 ·cases h
theorem Mw{t:Sem Fin}{c:Code} (h:Im t=some (.again c)):t=.pure (.again c):=by
 unfold Im at h
 split at h
 ·split at h<;>cases h;rfl
 ·cases h
 ·cases h
theorem St.rep{z:Zed}{s:Shared}{n t g:Nat}{l ps:LO} (S:St z s n t g (l++ps)) {r:BT×BT×Nat} (h:Fd .nil .nil 0 l=some r):
  Rep z s.heap ⟨s.gens,[]⟩ ((l++ps).map (·.1)) s r.1 r.2.1 r.2.2 n 0 t 0 g 0 [] []∧Pas z s.heap ((l++ps).map (·.1)) s r.2.1 r.2.2 ps:=by
 refine Af fun Gz hGz=>?_
 obtain rfl:=S.hn
 obtain rfl:=S.ht
 obtain rfl:=S.hg
 have R:Rep z s.heap ⟨s.gens,[]⟩ ((l++ps).map (·.1)) s .nil .nil 0 s.heap.objs.size 0 s.toks 0 s.gens.size 0 [] []:=by
  refine ⟨S.ok,rfl,fun j o e=>(nomatch e),fun i j hi=>absurd hi (Nat.not_lt_zero _),fun j hj=>absurd hj (Nat.not_lt_zero _),fun j hj=>absurd hj (Nat.not_lt_zero _),fun j hj=>absurd hj (Nat.not_lt_zero _),Nat.le_refl _,S.low,S.stat,rfl,rfl,rfl,fun j x e=>?_,fun i j hi=>absurd hi (Nat.not_lt_zero _),fun j hj=>absurd hj (Nat.not_lt_zero _),fun j hj=>absurd hj (Nat.not_lt_zero _),fun _ _ _=>rfl,Nat.le_refl _,S.bare,S.os,fun _ _ e _=>e⟩
  simp at e
 have nd:=S.nodup
 rw [List.map_append] at nd
 have nd:=List.nodup_append.mp nd
 refine hGz ?_
 refine ⟨Rep.learnN h R (fun q hq=>S.knows q (List.mem_append_left _ hq)) (fun j hj=>absurd hj (Nat.not_lt_zero _)) nd.1 (fun q hq=>S.fit _ (List.mem_map.mpr ⟨q,List.mem_append_left _ hq,rfl⟩)) (fun q hq=>.inl (List.mem_map.mpr ⟨q,List.mem_append_left _ hq,rfl⟩)),
  ⟨fun q hq=>S.knows q (List.mem_append_right _ hq),nd.2.1,fun q hq j hj w=>?_,fun q hq=>S.fit _ (List.mem_map.mpr ⟨q,List.mem_append_right _ hq,rfl⟩),fun q hq=>.inl (List.mem_map.mpr ⟨q,List.mem_append_right _ hq,rfl⟩)⟩⟩
 rcases Kq h j hj with ⟨a,_⟩ | ⟨q',hq',b⟩
 ·exact absurd a (Nat.not_lt_zero _)
 ·exact nd.2.2 q'.1 (List.mem_map.mpr ⟨q',hq',rfl⟩) q.1 (List.mem_map.mpr ⟨q,hq,rfl⟩) (b.symm.trans w)
noncomputable def Go(L:List Et):List Ans:=L.map fun q=>q.2.2.2.2.2.2
theorem ObAll.mem{z:Zed}:∀{L:List Et},ObAll z L↔∀q∈L,Qq z q
 |[]=>by simp [ObAll]
 |q::L=>by simp [ObAll,ObAll.mem (L:=L)]
theorem ObAll.nil{z:Zed}:ObAll z []:=trivial
theorem ObAll.cons{z:Zed}{q:Et}{L:List Et}(h:Qq z q)(H:ObAll z L):ObAll z (q::L):=⟨h,H⟩
abbrev Fb(o:Out)(js:List Nat)(lf:Leaf)(l₁:LO)(n₁ t₁ g₁:Nat)(L:List Et):Prop:=
 (Ng o js,o.lg.map X9,o.ob.map (·.1),o.pp.ps)=((0,some lf,true,some l₁,n₁,t₁,g₁),L.reverse.map some,o.ob.map (·.2),[])
section
variable {z:Zed}{c:Code} {below:List (Code×Pos)} {l l' l₁ ps ps₁:LO} {n t g n' t' g' n₁ t₁ g₁:Nat} {res:Result} {L:List Et}
theorem Sa{s:Shared} (S:St z s n t g (l++ps)) {u:Sem Fin} {p:Pos} {N orc:Nat} {xs:List Ans} {pq:List (Option LO)} {js:List Nat} {lf:Leaf} (hjs:js.Nodup)
  (hend:Ng (Ei z below N u c p l n t g orc xs ⟨ps,pq⟩) js=(0,some lf,true,some l₁,n₁,t₁,g₁)) (hob:(Ei z below N u c p l n t g orc xs ⟨ps,pq⟩).ob.map (·.1)=(Ei z below N u c p l n t g orc xs ⟨ps,pq⟩).ob.map (·.2))
  (hps:(Ei z below N u c p l n t g orc xs ⟨ps,pq⟩).pp.ps=ps₁) (hlg:∀e∈(Ei z below N u c p l n t g orc xs ⟨ps,pq⟩).lg,Oblig z e):
  ∃s₁ u₁ p₁ c₁,Im u₁=some lf∧St z s₁ n₁ t₁ g₁ (l₁++ps₁)∧Keep s s₁ ((l++ps).map (·.1))∧(∀a∈(l₁++ps₁).map (·.1),a∈(l++ps).map (·.1)∨s.heap.objs.size≤a) ∧
   ∀s'' e,Reach (model z.prog z.w) (Av below) s₁ u₁ c₁ p₁ [] s'' e→Reach (model z.prog z.w) (Av below) s u c p [] s'' e:=by
 simp only [Ng,Prod.mk.injEq] at hend
 refine Af fun Gz hGz=>?_
 obtain ⟨e1,e2,e3,e4,e5,e6,e7⟩:=hend
 refine hGz ?_
 unfold Ei at e1 e2 e3 e4 e5 e6 e7 hob hps hlg
 cases hr:Fd .nil .nil 0 l with
 |none=>simp only [hr] at e1;cases e1
 |some r=>
 simp only [hr] at e1 e2 e3 e4 e5 e6 e7 hob hps hlg
 refine Af fun Gz hGz=>?_
 obtain ⟨R0,P0⟩:=S.rep hr
 have G:=(Qf (z:=z) (below:=below) (h₀:=s.heap) (G₀:=⟨s.gens,[]⟩) (A₀:=(l++ps).map (·.1)) N u c p [] r.1 r.2.1 r.2.2 0 0 [] orc ⟨n,t,g,0,[],[],[],xs,⟨ps,pq⟩⟩ s R0 P0).got
 generalize Ou z below N u c p [] r.1 r.2.1 r.2.2 0 0 [] orc ⟨n,t,g,0,[],[],[],xs,⟨ps,pq⟩⟩=o at e1 e2 e3 e4 e5 e6 e7 hob hps hlg G
 obtain ⟨s₁,R,P,h⟩:=(G (fun q hq=>by
  obtain ⟨j,hj,rfl⟩:=List.mem_iff_getElem.mp hq
  have x:(o.ob.map (·.1))[j]?=(o.ob.map (·.2))[j]?:=by rw [hob]
  rw [List.getElem?_map,List.getElem?_map,List.getElem?_eq_getElem hj] at x
  exact Option.some.inj x) hlg e1).rep
 have S₁:=R.stP P e4 hjs
 rw [e5,e6,e7,hps] at S₁
 rw [hps] at P
 have hpre:o.pre=[]:=by
  cases q:o.pre with
  |nil=>rfl
  |cons=>rw [q] at e3;cases e3
 rw [hpre] at h
 refine hGz ?_
 refine Ci s₁ o.t o.p o.c ⟨e2,S₁,⟨R.keep,fun j hj=>R.gold j hj List.not_mem_nil,?_,?_⟩,fun a ha=>?_,h⟩
 ·rw [R.size];exact R.grow
 ·rw [R.gsize];exact R.ggrow
 ·rw [List.map_append] at ha
  rcases List.mem_append.mp ha with ha | ha
  ·refine Af fun Gz hGz=>?_
   obtain ⟨h1,h2,_⟩:=Eo e4
   rw [h1] at ha
   obtain ⟨j,hj,rfl⟩:=List.mem_map.mp ha
   obtain ⟨o',e'⟩:=h2 j hj
   refine hGz ?_
   exact R.newer j (R.own j _ e').1
  ·refine Af fun Gz hGz=>?_
   obtain ⟨q,hq,rfl⟩:=List.mem_map.mp ha
   refine hGz ?_
   exact P.newer q hq
theorem Pk{u:Sem Fin}{s s₁:Shared}{p p₁:Pos}{c₁:Code}{R:Result→Shared→Prop} (hu:∀Q E p s,Sem.wp (model z.prog z.w) (Cx c below) u Q E p s→Sem.wp (model z.prog z.w) (Cx c below) (denote table c) Q E p s) {u₁:Sem Fin}
  (h:∀s'' e,Reach (model z.prog z.w) (Av below) s₁ u₁ c₁ p₁ [] s'' e→Reach (model z.prog z.w) (Av below) s u c p [] s'' e) {r:Result} {s':Shared} (hr:Reach (model z.prog z.w) (Av below) s₁ u₁ c₁ p₁ [] s' (.ret r)) (hR:R r s'):wpCode (model z.prog z.w) (Cx c below) R p s:=by
 have w:=(wp_iff_reach (M:=model z.prog z.w) (base:=Av below) (c:=c) u R p s).mpr ⟨_,_,h _ _ hr,hR⟩
 rw [Sr] at w
 rw [wpCode_iff_wp]
 exact hu _ _ _ _ w
theorem leP{c:Code}:∀Q E p s,Sem.wp (model z.prog z.w) (Cx c below) (den c) Q E p s→Sem.wp (model z.prog z.w) (Cx c below) (denote table c) Q E p s:=fun _ _ _ _ h=>by rw [O2];exact h
theorem Vl{s s₁ s₂:Shared}{as bs:List Addr}(K:Keep s s₁ as)(hn:∀a∈bs,a∈as∨s.heap.objs.size≤a)(K₂:Keep s₁ s₂ bs):Keep s s₂ as:=by
 refine ⟨fun b o e m=>?_,fun j hj=>?_,Nat.le_trans K.size K₂.size,Nat.le_trans K.gsize K₂.gsize⟩
 ·refine K₂.heap b o (K.heap b o e m) fun w=>?_
  rcases hn b w with w | w
  ·exact m w
  ·exact absurd (Heap.lt_size e) (Nat.not_lt.mpr w)
 ·rw [K₂.gens j (Nat.lt_of_lt_of_le hj K.gsize),K.gens j hj]
theorem Mi{A0 A1:Type}{P0:A0→A1→Prop}{G:Prop}(h0:∃a0 a1,P0 a0 a1)(k:∀a0 a1,P0 a0 a1→G):G:=
 Exists.elim h0 fun a0 h1=>(Exists.elim h1 fun a1 h2=>k a0 a1 h2)
theorem Agk{A0 A1:Type}{P0 P1:A0→A1→Prop}{G:Prop}(h0:∃a0 a1,P0 a0 a1∧P1 a0 a1)(k:∀a0 a1,P0 a0 a1→P1 a0 a1→G):G:=
 Exists.elim h0 fun a0 h1=>(Exists.elim h1 fun a1 h2=>k a0 a1 h2.1 h2.2)
theorem Rd{A0 A1:Type}{P0 P1 P2:A0→A1→Prop}{G:Prop}(h0:∃a0 a1,P0 a0 a1∧P1 a0 a1∧P2 a0 a1)(k:∀a0 a1,P0 a0 a1→P1 a0 a1→P2 a0 a1→G):G:=
 Exists.elim h0 fun a0 h1=>(Exists.elim h1 fun a1 h2=>k a0 a1 h2.1 h2.2.1 h2.2.2)
theorem A6b{A0 A1:Type}{P0 P1 P2 P3:A0→A1→Prop}{G:Prop}(h0:∃a0 a1,P0 a0 a1∧P1 a0 a1∧P2 a0 a1∧P3 a0 a1)(k:∀a0 a1,P0 a0 a1→P1 a0 a1→P2 a0 a1→P3 a0 a1→G):G:=
 Exists.elim h0 fun a0 h1=>(Exists.elim h1 fun a1 h2=>k a0 a1 h2.1 h2.2.1 h2.2.2.1 h2.2.2.2)
theorem Ag0{A0 A1 A2:Type}{P0 P1:A0→A1→A2→Prop}{G:Prop}(h0:∃a0 a1 a2,P0 a0 a1 a2∧P1 a0 a1 a2)(k:∀a0 a1 a2,P0 a0 a1 a2→P1 a0 a1 a2→G):G:=
 Exists.elim h0 fun a0 h1=>(Exists.elim h1 fun a1 h2=>(Exists.elim h2 fun a2 h3=>k a0 a1 a2 h3.1 h3.2))
theorem Nv{A0 A1 A2:Type}{P0 P1 P2 P3 P4 P5 P6 P7 P8:A0→A1→A2→Prop}{G:Prop}(h0:∃a0 a1 a2,P0 a0 a1 a2∧P1 a0 a1 a2∧P2 a0 a1 a2∧P3 a0 a1 a2∧P4 a0 a1 a2∧P5 a0 a1 a2∧P6 a0 a1 a2∧P7 a0 a1 a2∧P8 a0 a1 a2)(k:∀a0 a1 a2,P0 a0 a1 a2→P1 a0 a1 a2→P2 a0 a1 a2→P3 a0 a1 a2→P4 a0 a1 a2→P5 a0 a1 a2→P6 a0 a1 a2→P7 a0 a1 a2→P8 a0 a1 a2→G):G:=
 Exists.elim h0 fun a0 h1=>(Exists.elim h1 fun a1 h2=>(Exists.elim h2 fun a2 h3=>k a0 a1 a2 h3.1 h3.2.1 h3.2.2.1 h3.2.2.2.1 h3.2.2.2.2.1 h3.2.2.2.2.2.1 h3.2.2.2.2.2.2.1 h3.2.2.2.2.2.2.2.1 h3.2.2.2.2.2.2.2.2))
theorem Agr{A0 A1 A2 A3:Type}{P0:A0→A1→A2→A3→Prop}{G:Prop}(h0:∃a0 a1 a2 a3,P0 a0 a1 a2 a3)(k:∀a0 a1 a2 a3,P0 a0 a1 a2 a3→G):G:=
 Exists.elim h0 fun a0 h1=>(Exists.elim h1 fun a1 h2=>(Exists.elim h2 fun a2 h3=>(Exists.elim h3 fun a3 h4=>k a0 a1 a2 a3 h4)))
theorem Iv{A0 A1 A2 A3:Type}{P0 P1:A0→A1→A2→A3→Prop}{G:Prop}(h0:∃a0 a1 a2 a3,P0 a0 a1 a2 a3∧P1 a0 a1 a2 a3)(k:∀a0 a1 a2 a3,P0 a0 a1 a2 a3→P1 a0 a1 a2 a3→G):G:=
 Exists.elim h0 fun a0 h1=>(Exists.elim h1 fun a1 h2=>(Exists.elim h2 fun a2 h3=>(Exists.elim h3 fun a3 h4=>k a0 a1 a2 a3 h4.1 h4.2)))
theorem Mh{A0 A1 A2 A3:Type}{P0 P1 P2:A0→A1→A2→A3→Prop}{G:Prop}(h0:∃a0 a1 a2 a3,P0 a0 a1 a2 a3∧P1 a0 a1 a2 a3∧P2 a0 a1 a2 a3)(k:∀a0 a1 a2 a3,P0 a0 a1 a2 a3→P1 a0 a1 a2 a3→P2 a0 a1 a2 a3→G):G:=
 Exists.elim h0 fun a0 h1=>(Exists.elim h1 fun a1 h2=>(Exists.elim h2 fun a2 h3=>(Exists.elim h3 fun a3 h4=>k a0 a1 a2 a3 h4.1 h4.2.1 h4.2.2)))
theorem A69{A0 A1 A2 A3:Type}{P0 P1 P2 P3:A0→A1→A2→A3→Prop}{G:Prop}(h0:∃a0 a1 a2 a3,P0 a0 a1 a2 a3∧P1 a0 a1 a2 a3∧P2 a0 a1 a2 a3∧P3 a0 a1 a2 a3)(k:∀a0 a1 a2 a3,P0 a0 a1 a2 a3→P1 a0 a1 a2 a3→P2 a0 a1 a2 a3→P3 a0 a1 a2 a3→G):G:=
 Exists.elim h0 fun a0 h1=>(Exists.elim h1 fun a1 h2=>(Exists.elim h2 fun a2 h3=>(Exists.elim h3 fun a3 h4=>k a0 a1 a2 a3 h4.1 h4.2.1 h4.2.2.1 h4.2.2.2)))
theorem A6s{A0 A1 A2 A3:Type}{P0 P1 P2 P3 P4:A0→A1→A2→A3→Prop}{G:Prop}(h0:∃a0 a1 a2 a3,P0 a0 a1 a2 a3∧P1 a0 a1 a2 a3∧P2 a0 a1 a2 a3∧P3 a0 a1 a2 a3∧P4 a0 a1 a2 a3)(k:∀a0 a1 a2 a3,P0 a0 a1 a2 a3→P1 a0 a1 a2 a3→P2 a0 a1 a2 a3→P3 a0 a1 a2 a3→P4 a0 a1 a2 a3→G):G:=
 Exists.elim h0 fun a0 h1=>(Exists.elim h1 fun a1 h2=>(Exists.elim h2 fun a2 h3=>(Exists.elim h3 fun a3 h4=>k a0 a1 a2 a3 h4.1 h4.2.1 h4.2.2.1 h4.2.2.2.1 h4.2.2.2.2)))
theorem Afr{A0 A1 A2 A3:Type}{P0 P1 P2 P3 P4 P5 P6:A0→A1→A2→A3→Prop}{G:Prop}(h0:∃a0 a1 a2 a3,P0 a0 a1 a2 a3∧P1 a0 a1 a2 a3∧P2 a0 a1 a2 a3∧P3 a0 a1 a2 a3∧P4 a0 a1 a2 a3∧P5 a0 a1 a2 a3∧P6 a0 a1 a2 a3)(k:∀a0 a1 a2 a3,P0 a0 a1 a2 a3→P1 a0 a1 a2 a3→P2 a0 a1 a2 a3→P3 a0 a1 a2 a3→P4 a0 a1 a2 a3→P5 a0 a1 a2 a3→P6 a0 a1 a2 a3→G):G:=
 Exists.elim h0 fun a0 h1=>(Exists.elim h1 fun a1 h2=>(Exists.elim h2 fun a2 h3=>(Exists.elim h3 fun a3 h4=>k a0 a1 a2 a3 h4.1 h4.2.1 h4.2.2.1 h4.2.2.2.1 h4.2.2.2.2.1 h4.2.2.2.2.2.1 h4.2.2.2.2.2.2)))
theorem Agt{A0 A1 A2 A3 A4:Type}{P0:A0→A1→A2→A3→A4→Prop}{G:Prop}(h0:∃a0 a1 a2 a3 a4,P0 a0 a1 a2 a3 a4)(k:∀a0 a1 a2 a3 a4,P0 a0 a1 a2 a3 a4→G):G:=
 Exists.elim h0 fun a0 h1=>(Exists.elim h1 fun a1 h2=>(Exists.elim h2 fun a2 h3=>(Exists.elim h3 fun a3 h4=>(Exists.elim h4 fun a4 h5=>k a0 a1 a2 a3 a4 h5))))
theorem Ra{A0 A1 A2 A3 A4:Type}{P0 P1:A0→A1→A2→A3→A4→Prop}{G:Prop}(h0:∃a0 a1 a2 a3 a4,P0 a0 a1 a2 a3 a4∧P1 a0 a1 a2 a3 a4)(k:∀a0 a1 a2 a3 a4,P0 a0 a1 a2 a3 a4→P1 a0 a1 a2 a3 a4→G):G:=
 Exists.elim h0 fun a0 h1=>(Exists.elim h1 fun a1 h2=>(Exists.elim h2 fun a2 h3=>(Exists.elim h3 fun a3 h4=>(Exists.elim h4 fun a4 h5=>k a0 a1 a2 a3 a4 h5.1 h5.2))))
theorem O8{A0 A1 A2 A3 A4:Type}{P0 P1 P2:A0→A1→A2→A3→A4→Prop}{G:Prop}(h0:∃a0 a1 a2 a3 a4,P0 a0 a1 a2 a3 a4∧P1 a0 a1 a2 a3 a4∧P2 a0 a1 a2 a3 a4)(k:∀a0 a1 a2 a3 a4,P0 a0 a1 a2 a3 a4→P1 a0 a1 a2 a3 a4→P2 a0 a1 a2 a3 a4→G):G:=
 Exists.elim h0 fun a0 h1=>(Exists.elim h1 fun a1 h2=>(Exists.elim h2 fun a2 h3=>(Exists.elim h3 fun a3 h4=>(Exists.elim h4 fun a4 h5=>k a0 a1 a2 a3 a4 h5.1 h5.2.1 h5.2.2))))
theorem Kn{A0 A1 A2 A3 A4:Type}{P0 P1 P2 P3:A0→A1→A2→A3→A4→Prop}{G:Prop}(h0:∃a0 a1 a2 a3 a4,P0 a0 a1 a2 a3 a4∧P1 a0 a1 a2 a3 a4∧P2 a0 a1 a2 a3 a4∧P3 a0 a1 a2 a3 a4)(k:∀a0 a1 a2 a3 a4,P0 a0 a1 a2 a3 a4→P1 a0 a1 a2 a3 a4→P2 a0 a1 a2 a3 a4→P3 a0 a1 a2 a3 a4→G):G:=
 Exists.elim h0 fun a0 h1=>(Exists.elim h1 fun a1 h2=>(Exists.elim h2 fun a2 h3=>(Exists.elim h3 fun a3 h4=>(Exists.elim h4 fun a4 h5=>k a0 a1 a2 a3 a4 h5.1 h5.2.1 h5.2.2.1 h5.2.2.2))))
theorem Vh{A0 A1 A2 A3 A4:Type}{P0 P1 P2 P3 P4:A0→A1→A2→A3→A4→Prop}{G:Prop}(h0:∃a0 a1 a2 a3 a4,P0 a0 a1 a2 a3 a4∧P1 a0 a1 a2 a3 a4∧P2 a0 a1 a2 a3 a4∧P3 a0 a1 a2 a3 a4∧P4 a0 a1 a2 a3 a4)(k:∀a0 a1 a2 a3 a4,P0 a0 a1 a2 a3 a4→P1 a0 a1 a2 a3 a4→P2 a0 a1 a2 a3 a4→P3 a0 a1 a2 a3 a4→P4 a0 a1 a2 a3 a4→G):G:=
 Exists.elim h0 fun a0 h1=>(Exists.elim h1 fun a1 h2=>(Exists.elim h2 fun a2 h3=>(Exists.elim h3 fun a3 h4=>(Exists.elim h4 fun a4 h5=>k a0 a1 a2 a3 a4 h5.1 h5.2.1 h5.2.2.1 h5.2.2.2.1 h5.2.2.2.2))))
theorem R7{A0 A1 A2 A3 A4 A5:Type}{P0 P1:A0→A1→A2→A3→A4→A5→Prop}{G:Prop}(h0:∃a0 a1 a2 a3 a4 a5,P0 a0 a1 a2 a3 a4 a5∧P1 a0 a1 a2 a3 a4 a5)(k:∀a0 a1 a2 a3 a4 a5,P0 a0 a1 a2 a3 a4 a5→P1 a0 a1 a2 a3 a4 a5→G):G:=
 Exists.elim h0 fun a0 h1=>(Exists.elim h1 fun a1 h2=>(Exists.elim h2 fun a2 h3=>(Exists.elim h3 fun a3 h4=>(Exists.elim h4 fun a4 h5=>(Exists.elim h5 fun a5 h6=>k a0 a1 a2 a3 a4 a5 h6.1 h6.2)))))
theorem A71{A0 A1 A2 A3 A4 A5:Type}{P0 P1 P2 P3:A0→A1→A2→A3→A4→A5→Prop}{G:Prop}(h0:∃a0 a1 a2 a3 a4 a5,P0 a0 a1 a2 a3 a4 a5∧P1 a0 a1 a2 a3 a4 a5∧P2 a0 a1 a2 a3 a4 a5∧P3 a0 a1 a2 a3 a4 a5)(k:∀a0 a1 a2 a3 a4 a5,P0 a0 a1 a2 a3 a4 a5→P1 a0 a1 a2 a3 a4 a5→P2 a0 a1 a2 a3 a4 a5→P3 a0 a1 a2 a3 a4 a5→G):G:=
 Exists.elim h0 fun a0 h1=>(Exists.elim h1 fun a1 h2=>(Exists.elim h2 fun a2 h3=>(Exists.elim h3 fun a3 h4=>(Exists.elim h4 fun a4 h5=>(Exists.elim h5 fun a5 h6=>k a0 a1 a2 a3 a4 a5 h6.1 h6.2.1 h6.2.2.1 h6.2.2.2)))))
theorem X5{A0 A1 A2 A3 A4 A5:Type}{P0 P1 P2 P3 P4:A0→A1→A2→A3→A4→A5→Prop}{G:Prop}(h0:∃a0 a1 a2 a3 a4 a5,P0 a0 a1 a2 a3 a4 a5∧P1 a0 a1 a2 a3 a4 a5∧P2 a0 a1 a2 a3 a4 a5∧P3 a0 a1 a2 a3 a4 a5∧P4 a0 a1 a2 a3 a4 a5)(k:∀a0 a1 a2 a3 a4 a5,P0 a0 a1 a2 a3 a4 a5→P1 a0 a1 a2 a3 a4 a5→P2 a0 a1 a2 a3 a4 a5→P3 a0 a1 a2 a3 a4 a5→P4 a0 a1 a2 a3 a4 a5→G):G:=
 Exists.elim h0 fun a0 h1=>(Exists.elim h1 fun a1 h2=>(Exists.elim h2 fun a2 h3=>(Exists.elim h3 fun a3 h4=>(Exists.elim h4 fun a4 h5=>(Exists.elim h5 fun a5 h6=>k a0 a1 a2 a3 a4 a5 h6.1 h6.2.1 h6.2.2.1 h6.2.2.2.1 h6.2.2.2.2)))))
theorem O6{A0 A1 A2 A3 A4 A5:Type}{P0 P1 P2 P3 P4 P5:A0→A1→A2→A3→A4→A5→Prop}{G:Prop}(h0:∃a0 a1 a2 a3 a4 a5,P0 a0 a1 a2 a3 a4 a5∧P1 a0 a1 a2 a3 a4 a5∧P2 a0 a1 a2 a3 a4 a5∧P3 a0 a1 a2 a3 a4 a5∧P4 a0 a1 a2 a3 a4 a5∧P5 a0 a1 a2 a3 a4 a5)(k:∀a0 a1 a2 a3 a4 a5,P0 a0 a1 a2 a3 a4 a5→P1 a0 a1 a2 a3 a4 a5→P2 a0 a1 a2 a3 a4 a5→P3 a0 a1 a2 a3 a4 a5→P4 a0 a1 a2 a3 a4 a5→P5 a0 a1 a2 a3 a4 a5→G):G:=
 Exists.elim h0 fun a0 h1=>(Exists.elim h1 fun a1 h2=>(Exists.elim h2 fun a2 h3=>(Exists.elim h3 fun a3 h4=>(Exists.elim h4 fun a4 h5=>(Exists.elim h5 fun a5 h6=>k a0 a1 a2 a3 a4 a5 h6.1 h6.2.1 h6.2.2.1 h6.2.2.2.1 h6.2.2.2.2.1 h6.2.2.2.2.2)))))
theorem Afu{A0 A1 A2 A3 A4 A5:Type}{P0 P1 P2 P3 P4 P5 P6 P7:A0→A1→A2→A3→A4→A5→Prop}{G:Prop}(h0:∃a0 a1 a2 a3 a4 a5,P0 a0 a1 a2 a3 a4 a5∧P1 a0 a1 a2 a3 a4 a5∧P2 a0 a1 a2 a3 a4 a5∧P3 a0 a1 a2 a3 a4 a5∧P4 a0 a1 a2 a3 a4 a5∧P5 a0 a1 a2 a3 a4 a5∧P6 a0 a1 a2 a3 a4 a5∧P7 a0 a1 a2 a3 a4 a5)(k:∀a0 a1 a2 a3 a4 a5,P0 a0 a1 a2 a3 a4 a5→P1 a0 a1 a2 a3 a4 a5→P2 a0 a1 a2 a3 a4 a5→P3 a0 a1 a2 a3 a4 a5→P4 a0 a1 a2 a3 a4 a5→P5 a0 a1 a2 a3 a4 a5→P6 a0 a1 a2 a3 a4 a5→P7 a0 a1 a2 a3 a4 a5→G):G:=
 Exists.elim h0 fun a0 h1=>(Exists.elim h1 fun a1 h2=>(Exists.elim h2 fun a2 h3=>(Exists.elim h3 fun a3 h4=>(Exists.elim h4 fun a4 h5=>(Exists.elim h5 fun a5 h6=>k a0 a1 a2 a3 a4 a5 h6.1 h6.2.1 h6.2.2.1 h6.2.2.2.1 h6.2.2.2.2.1 h6.2.2.2.2.2.1 h6.2.2.2.2.2.2.1 h6.2.2.2.2.2.2.2)))))
theorem A65{A0 A1 A2 A3 A4 A5 A6:Type}{P0 P1 P2 P3:A0→A1→A2→A3→A4→A5→A6→Prop}{G:Prop}(h0:∃a0 a1 a2 a3 a4 a5 a6,P0 a0 a1 a2 a3 a4 a5 a6∧P1 a0 a1 a2 a3 a4 a5 a6∧P2 a0 a1 a2 a3 a4 a5 a6∧P3 a0 a1 a2 a3 a4 a5 a6)(k:∀a0 a1 a2 a3 a4 a5 a6,P0 a0 a1 a2 a3 a4 a5 a6→P1 a0 a1 a2 a3 a4 a5 a6→P2 a0 a1 a2 a3 a4 a5 a6→P3 a0 a1 a2 a3 a4 a5 a6→G):G:=
 Exists.elim h0 fun a0 h1=>(Exists.elim h1 fun a1 h2=>(Exists.elim h2 fun a2 h3=>(Exists.elim h3 fun a3 h4=>(Exists.elim h4 fun a4 h5=>(Exists.elim h5 fun a5 h6=>(Exists.elim h6 fun a6 h7=>k a0 a1 a2 a3 a4 a5 a6 h7.1 h7.2.1 h7.2.2.1 h7.2.2.2))))))
theorem A5n{A0 A1 A2 A3 A4 A5 A6:Type}{P0 P1 P2 P3 P4 P5 P6:A0→A1→A2→A3→A4→A5→A6→Prop}{G:Prop}(h0:∃a0 a1 a2 a3 a4 a5 a6,P0 a0 a1 a2 a3 a4 a5 a6∧P1 a0 a1 a2 a3 a4 a5 a6∧P2 a0 a1 a2 a3 a4 a5 a6∧P3 a0 a1 a2 a3 a4 a5 a6∧P4 a0 a1 a2 a3 a4 a5 a6∧P5 a0 a1 a2 a3 a4 a5 a6∧P6 a0 a1 a2 a3 a4 a5 a6)(k:∀a0 a1 a2 a3 a4 a5 a6,P0 a0 a1 a2 a3 a4 a5 a6→P1 a0 a1 a2 a3 a4 a5 a6→P2 a0 a1 a2 a3 a4 a5 a6→P3 a0 a1 a2 a3 a4 a5 a6→P4 a0 a1 a2 a3 a4 a5 a6→P5 a0 a1 a2 a3 a4 a5 a6→P6 a0 a1 a2 a3 a4 a5 a6→G):G:=
 Exists.elim h0 fun a0 h1=>(Exists.elim h1 fun a1 h2=>(Exists.elim h2 fun a2 h3=>(Exists.elim h3 fun a3 h4=>(Exists.elim h4 fun a4 h5=>(Exists.elim h5 fun a5 h6=>(Exists.elim h6 fun a6 h7=>k a0 a1 a2 a3 a4 a5 a6 h7.1 h7.2.1 h7.2.2.1 h7.2.2.2.1 h7.2.2.2.2.1 h7.2.2.2.2.2.1 h7.2.2.2.2.2.2))))))
theorem Afo{A0 A1 A2 A3 A4 A5 A6 A7:Type}{P0 P1 P2:A0→A1→A2→A3→A4→A5→A6→A7→Prop}{G:Prop}(h0:∃a0 a1 a2 a3 a4 a5 a6 a7,P0 a0 a1 a2 a3 a4 a5 a6 a7∧P1 a0 a1 a2 a3 a4 a5 a6 a7∧P2 a0 a1 a2 a3 a4 a5 a6 a7)(k:∀a0 a1 a2 a3 a4 a5 a6 a7,P0 a0 a1 a2 a3 a4 a5 a6 a7→P1 a0 a1 a2 a3 a4 a5 a6 a7→P2 a0 a1 a2 a3 a4 a5 a6 a7→G):G:=
 Exists.elim h0 fun a0 h1=>(Exists.elim h1 fun a1 h2=>(Exists.elim h2 fun a2 h3=>(Exists.elim h3 fun a3 h4=>(Exists.elim h4 fun a4 h5=>(Exists.elim h5 fun a5 h6=>(Exists.elim h6 fun a6 h7=>(Exists.elim h7 fun a7 h8=>k a0 a1 a2 a3 a4 a5 a6 a7 h8.1 h8.2.1 h8.2.2)))))))
theorem Oe{A0 A1 A2 A3 A4 A5 A6 A7:Type}{P0 P1 P2 P3:A0→A1→A2→A3→A4→A5→A6→A7→Prop}{G:Prop}(h0:∃a0 a1 a2 a3 a4 a5 a6 a7,P0 a0 a1 a2 a3 a4 a5 a6 a7∧P1 a0 a1 a2 a3 a4 a5 a6 a7∧P2 a0 a1 a2 a3 a4 a5 a6 a7∧P3 a0 a1 a2 a3 a4 a5 a6 a7)(k:∀a0 a1 a2 a3 a4 a5 a6 a7,P0 a0 a1 a2 a3 a4 a5 a6 a7→P1 a0 a1 a2 a3 a4 a5 a6 a7→P2 a0 a1 a2 a3 a4 a5 a6 a7→P3 a0 a1 a2 a3 a4 a5 a6 a7→G):G:=
 Exists.elim h0 fun a0 h1=>(Exists.elim h1 fun a1 h2=>(Exists.elim h2 fun a2 h3=>(Exists.elim h3 fun a3 h4=>(Exists.elim h4 fun a4 h5=>(Exists.elim h5 fun a5 h6=>(Exists.elim h6 fun a6 h7=>(Exists.elim h7 fun a7 h8=>k a0 a1 a2 a3 a4 a5 a6 a7 h8.1 h8.2.1 h8.2.2.1 h8.2.2.2)))))))
theorem Ag8{A0 A1 A2 A3 A4 A5 A6 A7:Type}{P0 P1 P2 P3 P4 P5:A0→A1→A2→A3→A4→A5→A6→A7→Prop}{G:Prop}(h0:∃a0 a1 a2 a3 a4 a5 a6 a7,P0 a0 a1 a2 a3 a4 a5 a6 a7∧P1 a0 a1 a2 a3 a4 a5 a6 a7∧P2 a0 a1 a2 a3 a4 a5 a6 a7∧P3 a0 a1 a2 a3 a4 a5 a6 a7∧P4 a0 a1 a2 a3 a4 a5 a6 a7∧P5 a0 a1 a2 a3 a4 a5 a6 a7)(k:∀a0 a1 a2 a3 a4 a5 a6 a7,P0 a0 a1 a2 a3 a4 a5 a6 a7→P1 a0 a1 a2 a3 a4 a5 a6 a7→P2 a0 a1 a2 a3 a4 a5 a6 a7→P3 a0 a1 a2 a3 a4 a5 a6 a7→P4 a0 a1 a2 a3 a4 a5 a6 a7→P5 a0 a1 a2 a3 a4 a5 a6 a7→G):G:=
 Exists.elim h0 fun a0 h1=>(Exists.elim h1 fun a1 h2=>(Exists.elim h2 fun a2 h3=>(Exists.elim h3 fun a3 h4=>(Exists.elim h4 fun a4 h5=>(Exists.elim h5 fun a5 h6=>(Exists.elim h6 fun a6 h7=>(Exists.elim h7 fun a7 h8=>k a0 a1 a2 a3 a4 a5 a6 a7 h8.1 h8.2.1 h8.2.2.1 h8.2.2.2.1 h8.2.2.2.2.1 h8.2.2.2.2.2)))))))
theorem Acn{A0 A1 A2 A3 A4 A5 A6 A7 A8 A9 A10:Type}{P0 P1 P2 P3 P4:A0→A1→A2→A3→A4→A5→A6→A7→A8→A9→A10→Prop}{G:Prop}(h0:∃a0 a1 a2 a3 a4 a5 a6 a7 a8 a9 a10,P0 a0 a1 a2 a3 a4 a5 a6 a7 a8 a9 a10∧P1 a0 a1 a2 a3 a4 a5 a6 a7 a8 a9 a10∧P2 a0 a1 a2 a3 a4 a5 a6 a7 a8 a9 a10∧P3 a0 a1 a2 a3 a4 a5 a6 a7 a8 a9 a10∧P4 a0 a1 a2 a3 a4 a5 a6 a7 a8 a9 a10)(k:∀a0 a1 a2 a3 a4 a5 a6 a7 a8 a9 a10,P0 a0 a1 a2 a3 a4 a5 a6 a7 a8 a9 a10→P1 a0 a1 a2 a3 a4 a5 a6 a7 a8 a9 a10→P2 a0 a1 a2 a3 a4 a5 a6 a7 a8 a9 a10→P3 a0 a1 a2 a3 a4 a5 a6 a7 a8 a9 a10→P4 a0 a1 a2 a3 a4 a5 a6 a7 a8 a9 a10→G):G:=
 Exists.elim h0 fun a0 h1=>(Exists.elim h1 fun a1 h2=>(Exists.elim h2 fun a2 h3=>(Exists.elim h3 fun a3 h4=>(Exists.elim h4 fun a4 h5=>(Exists.elim h5 fun a5 h6=>(Exists.elim h6 fun a6 h7=>(Exists.elim h7 fun a7 h8=>(Exists.elim h8 fun a8 h9=>(Exists.elim h9 fun a9 h10=>(Exists.elim h10 fun a10 h11=>k a0 a1 a2 a3 a4 a5 a6 a7 a8 a9 a10 h11.1 h11.2.1 h11.2.2.1 h11.2.2.2.1 h11.2.2.2.2))))))))))
theorem Qc{u:Sem Fin}(N orc:Nat)(js:List Nat){xs:List Ans} {pq:List (Option LO)} (hjs:js.Nodup) (hu:∀Q E p s,Sem.wp (model z.prog z.w) (Cx c below) u Q E p s→Sem.wp (model z.prog z.w) (Cx c below) (denote table c) Q E p s)
  (hend:∀p,Ng (Ei z below N u c p l n t g orc xs ⟨ps,pq⟩) js=(0,some (.res res),true,some l₁,n',t',g')∧(Ei z below N u c p l n t g orc xs ⟨ps,pq⟩).ob.map (·.1)=(Ei z below N u c p l n t g orc xs ⟨ps,pq⟩).ob.map (·.2) ∧
   (Ei z below N u c p l n t g orc xs ⟨ps,pq⟩).pp.ps=ps₁∧∀e∈(Ei z below N u c p l n t g orc xs ⟨ps,pq⟩).lg,Oblig z e):Does z c below (l++ps) n t g res (l₁++ps₁) n' t' g':=by
 intro s p S
 refine Af fun Gz hGz=>?_
 obtain ⟨h1,h2,h3,h4⟩:=hend p
 refine A6s (Sa S hjs h1 h2 h3 h4) fun s₁ u₁ p₁ c₁ e S₁ K _ h=>?_
 have e:=Pn e
 subst e
 refine hGz ?_
 exact Pk hu h (.exit ⟨rfl,rfl⟩) ⟨rfl,S₁,K⟩
theorem W2{u:Sem Fin}(N orc:Nat)(js:List Nat){xs:List Ans} {pq:List (Option LO)} {c₂:Code} (hjs:js.Nodup) (hu:∀Q E p s,Sem.wp (model z.prog z.w) (Cx c below) u Q E p s→Sem.wp (model z.prog z.w) (Cx c below) (denote table c) Q E p s)
  (hend:∀p,Ng (Ei z below N u c p l n t g orc xs ⟨ps,pq⟩) js=(0,some (.again c₂),true,some l₁,n₁,t₁,g₁)∧(Ei z below N u c p l n t g orc xs ⟨ps,pq⟩).ob.map (·.1)=(Ei z below N u c p l n t g orc xs ⟨ps,pq⟩).ob.map (·.2) ∧
   (Ei z below N u c p l n t g orc xs ⟨ps,pq⟩).pp.ps=ps₁∧∀e∈(Ei z below N u c p l n t g orc xs ⟨ps,pq⟩).lg,Oblig z e) (hq:H0 c₂=true) (next:Does z c₂ below (l₁++ps₁) n₁ t₁ g₁ res l' n' t' g'):Does z c below (l++ps) n t g res l' n' t' g':=by
 intro s p S
 refine Af fun Gz hGz=>?_
 obtain ⟨h1,h2,h3,h4⟩:=hend p
 refine A6s (Sa S hjs h1 h2 h3 h4) fun s₁ u₁ p₁ c₁ e S₁ K hn h=>?_
 have e:=Mw e
 subst e
 obtain ⟨r,s₂,hr,rfl,S₂,K₂⟩:=next s₁ p₁ S₁
 have q:=runs_reach (M:=model z.prog z.w) hr (Av below) (by have:=Hs (l:=[]) below c₂ rfl;exact this)
 refine hGz ?_
 exact Pk hu h (s':=s₂) (r:=r) (.step (pre₁:=[]) (PySem.step_again (hq:=by rw [Iw];exact hq) ..) q) ⟨rfl,S₂,Vl K hn K₂⟩
theorem Nn{o:Out}{js:List Nat}{lf:Leaf}(hL:ObAll z L)(h:Fb o js lf l₁ n₁ t₁ g₁ L):Ng o js=(0,some lf,true,some l₁,n₁,t₁,g₁)∧o.ob.map (·.1)=o.ob.map (·.2)∧o.pp.ps=[]∧∀e∈o.lg,Oblig z e:=by
 simp only [Fb,Prod.mk.injEq] at h ⊢
 refine Af fun Gz hGz=>?_
 obtain ⟨h1,h2,h3,h4⟩:=h
 refine hGz ?_
 exact ⟨by rw [Ng,Prod.mk.injEq,Prod.mk.injEq,Prod.mk.injEq,Prod.mk.injEq,Prod.mk.injEq,Prod.mk.injEq] at h1 ⊢;exact h1,h3,h4,A2e h2 fun q hq=>ObAll.mem.mp hL q (List.mem_reverse.mp hq)⟩
theorem Gw(N orc:Nat)(js:List Nat){L:List Et}(hL:ObAll z L)(hjs:js.Nodup) (hrun:∀p,Fb (Mg z below N c p l n t g orc (Go L)) js (.res res) l' n' t' g' L):Does z c below l n t g res l' n' t' g':=by
 have:=Qc (ps:=[]) (ps₁:=[]) N orc js hjs leP fun p=>Nn hL (hrun p)
 rwa [List.append_nil,List.append_nil] at this
theorem Ko(N orc:Nat)(js:List Nat){L:List Et}(hL:ObAll z L){c₂:Code}{l₁:LO}{n₁ t₁ g₁:Nat}(next:Does z c₂ below l₁ n₁ t₁ g₁ res l' n' t' g')(hq:H0 c₂=true)(hjs:js.Nodup)
  (hrun:∀p,Fb (Mg z below N c p l n t g orc (Go L)) js (.again c₂) l₁ n₁ t₁ g₁ L):Does z c below l n t g res l' n' t' g':=by
 have:=W2 (ps:=[]) (ps₁:=[]) N orc js hjs leP (fun p=>Nn hL (hrun p)) hq (by rw [List.append_nil];exact next)
 rwa [List.append_nil] at this
end
theorem A8f{z:Zed}{c:Code} {ks:List (Nat×Option (String×Args))} {l:LO} {n t g:Nat} {res:Result} {js:List Nat} {os:List Obj} {news:LO} {nb m tb i gb gi:Nat}
  (h:∀bl,Gn bl=ks→Does z c bl l n t g res ((l.map (·.1)).zip os++news) (nb+m) (tb+i) (gb+gi)) (hj:js.Nodup) (hl:os.length=js.length) (hn:∀u∈news,n≤u.1):
  Qq z (c,ks,l,n,t,g,⟨res,js,os,news,nb,m,tb,i,gb,gi⟩):=⟨hj,hl,hn,h⟩
end
end Mine
namespace Mine
open PySem PySem.W PySem.W.X PySem.Spec PySem.Calls PyProof.Rows
noncomputable def G0:PySem.Ctx:=⟨.builtin "claim.caller" {},none,none,[],none⟩
theorem A7h{prog:Program}{w:World}{t:Sem Fin}{s:Shared}{R:Result→Shared→Prop}(hreg:s.asleep)
  (h:Sem.wp (model prog w) G0 t (fun fin _ s'=>∃f,fin=.done f∧(R (.ok f) s'∧leftWithCleanup s'.gens=false)) (fun e _ s'=>R (.error e) s'∧leftWithCleanup s'.gens=false) default s):
  ∃n r s' s'',runN (denote table) prog w n s ⟨t,.builtin "claim.caller" {},default,[]⟩=.halted (outcomeOf r) s' ∧
   schedN (denote table) prog w n (.single s ⟨t,.builtin "claim.caller" {},default,[]⟩)=.halted (outcomeOf r) s'∧s'.forget=s''.forget∧R r s'':=by
 refine Af fun Gz hGz=>?_
 obtain ⟨n,r,s₁,s₂,hs,hn,hfo,hR⟩:=wp_halts_full (M:=model prog w) (R:=R) hreg
  (Sem.wp_mono _ _ _ (fun fin p' s' h'=>by obtain ⟨f,rfl,hf⟩:=h';exact hf) (fun _ _ _ h'=>h') _ _ h)
 refine hGz ?_
 exact Ci n r s₂ s₁ ⟨hn,hs,hfo,hR⟩
theorem A9o{c:ClaimW}{tree:List Value→Sem Fin}{w:World}{s:Shared}{free:Addr→Prop}{gens:Prop}{kept:Heap→Prop}(hz:s.asleep)(hgens:s.gens=#[])
  (hspec:∀args,c.pre args=true→WData.layableAll args=true→∀ord:List DictEntry→List DictEntry,(∀l,(ord l).Perm l) →
   ∃vs s₁,layAllW c.records (classAt s.heap) w.params ord args s=some (vs,s₁) ∧
    Sem.wp (model c.prog w) G0 (tree vs) (fun fin _ s'=>∃f,fin=.done f∧(c.Ends s args vs s₁ (.ok f) s'∧s'.os=s.os∧AllBare s'.gens∧kept s'.heap))
     (fun e _ s'=>c.Ends s args vs s₁ (.error e) s'∧s'.os=s.os∧AllBare s'.gens∧kept s'.heap) default s₁):
  c.CallFrom (fun vs=>⟨tree vs,.builtin "claim.caller" {},default,[]⟩) w free gens kept s:=by
 intro args hpre hlay ord hord
 refine Af fun Gz hGz=>?_
 obtain ⟨vs,s₁,hlaid,hcode⟩:=hspec args hpre hlay ord hord
 have hal:=layAllW_rest _ _ _ hlaid
 obtain ⟨k,r,s',s'',hrun,hsched,hfo,hcase,hos,hkp⟩:=A7h (prog:=c.prog) (w:=w) (t:=tree vs) (s:=s₁)
  (R:=fun r s'=>c.Ends s args vs s₁ r s'∧s'.os=s.os∧kept s'.heap) (Shared.asleep_of_life hal.2.2.2 hz)
  (Sem.wp_mono _ _ _ (fun fin _ s' h=>by
   obtain ⟨f,e,h1,h2,h3,h4⟩:=h
   exact ⟨f,e,⟨h1,h2,h4⟩,leftWithCleanup_false_of_bare h3⟩) (fun e _ s' h=>by
   obtain ⟨h1,h2,h3,h4⟩:=h
   exact ⟨⟨h1,h2,h4⟩,leftWithCleanup_false_of_bare h3⟩) _ _ hcode)
 obtain ⟨eh,_,_,eo,_⟩:=Shared.forget_eq hfo
 have hcase:=hcase.congr eh
 have hkp:kept s'.heap:=by first | exact eh▸hkp | (rw [eh] at hkp;exact hkp) | (rw [← eh] at hkp;exact hkp)
 rw [← eo] at hos
 have hlife:s'.heap.life=s.heap.life:=(runN_life _ _ _ hrun).trans hal.2.2.2
 refine hGz ?_
 refine ⟨vs,s₁,hlaid,k,_,s',hsched,?_,(fun _ i x hx=>by rw [hgens] at hx;simp at hx),hkp,by rw [hlife],Shared.rest_eq hos⟩
 rcases hcase with ⟨v,rfl,d1,d2,d3,d4,d5⟩ | ⟨e,ob,cls,rfl,d1,d2,d3,d4,d5⟩
 ·exact .inl ⟨v,rfl,d1,d2,d3,fun b o y _=>d4 b o y,d5⟩
 ·exact .inr ⟨e,ob,cls,rfl,d1,d2,d3,d4,fun b o y _=>d5 b o y⟩
theorem Ae0{r:RowW}{run:Value→List Value→Sem Value}{tree:List Value→Sem Fin}{q:Program}{loose defs kps:List Str}{writes:Bool}{Xt:Shared→Bool} {XP:(Str→Option Value)→Heap→Prop} {α:Type} {Yf:Shared→α} {Ya:World→α} {N:Nat}
  (left:LeftO r.prog q loose Xt Yf Ya N) (hX:∀s,Xt s=true→XP (s.heap.nsMap mainGlobals) s.heap) (hXk:∀mg h h',XP mg h→(∀b o,h.get? b=some o→h'.get? b=some o)→XP mg h')
  (hRf:∀s,Xt s=true→RecFacts r.records s.heap) (hwr:(!writes || r.records.isEmpty)=true) (ok:(chainsOk q && opensWell r.prog && (frees r && r.within.isEmpty))=true) (hb:r.prog.bare) (hw:r.promised)
  (ht:∀vs (w:World) (s:Shared) mg f (Q:Fin→Shared→Prop) (E:Value→Shared→Prop),s.heap.Ns mainGlobals mg→mg r.name=some f→Sem.wp (model r.prog w) G0 (run f vs) (fun v _ s'=>Q (.done (.ret v)) s') (fun e _ s'=>E e s') default s→Sem.wp (model r.prog w) G0 (tree vs) (fun v _ s'=>Q v s') (fun e _ s'=>E e s') default s)
  (pin:∀w s,s.heap.isNs mainGlobals=true→Ground q loose [] XP w s (s.heap.nsMap mainGlobals) (s.heap.nsMap builtinsNs) s.heap→∀n∈defs,isTheDefsW r.prog s.heap n)
  (call:∀(w:World) (s₀ s₁:Shared) (mg mb:Str→Option Value),Ground q loose r.records XP w s₀ mg mb s₁.heap→Yf s₀=Ya w→∀(args:List WData) (vs:List Value) (as:List Addr),
   r.claim.pre args=true→WData.layableAll args=true→Laid r.records w s₀ s₁ args vs as→sysModules < s₀.heap.objs.size→∃f,mg r.name=some f ∧
    Sem.wp (model r.prog w) G0 (run f vs) (fun v _ s'=>GoodWG r.claim (classAt s₀.heap) (ExcName.means s₀.heap) args s₁ (.ok (.ret v)) s')
     (fun e _ s'=>GoodWG r.claim (classAt s₀.heap) (ExcName.means s₀.heap) args s₁ (.error e) s') default s₁):r.claim.HoldsOpenBy (fun vs=>⟨tree vs,.builtin "claim.caller" {},default,[]⟩) defs kps writes:=by
 refine Af fun Gz hGz=>?_
 obtain ⟨ok,k5⟩:=Bool.and_eq_true_iff.mp ok
 obtain ⟨hch,o1⟩:=Bool.and_eq_true_iff.mp ok
 obtain ⟨k5,k6⟩:=Bool.and_eq_true_iff.mp k5
 obtain ⟨hsame,hu,ha,hap,hm⟩:=frees_parts k5
 refine hGz ?_
 refine ⟨⟨hb,o1,by show r.makers.map _=[];rw [hm];rfl⟩,hw.witness,fun w=>⟨(left.behind hX hch w).1,fun s' hs'=>?_⟩⟩
 refine Af fun Gz hGz=>?_
 obtain ⟨s₀,hf,hg0,s,hT,hz,hgens,hg,G00,y⟩:=(left.behind (XP:=fun mg h=>XP mg h∧RecFacts r.records h) (fun s hs=>⟨hX s hs,hRf s hs⟩) hch w).2 s' hs'
 have G0':Ground q loose [] XP w s (s.heap.nsMap mainGlobals) (s.heap.nsMap builtinsNs) s.heap:=⟨G00.T,G00.B,G00.D,G00.TE,G00.TD,G00.W,G00.X.1,G00.cls,G00.has,G00.apart,G00.once,G00.K⟩
 have RF:=G00.X.2
 have hT':=hT
 refine hGz ?_
 refine ⟨s₀,hf,hg0,s,hT,pin w s hg G0',RF.1,RF.2.1,?_⟩
 have hgens:s.gens=#[]:=Array.eq_empty_of_size_eq_zero (beq_iff_eq.mp hgens)
 have G:Ground q loose r.records XP w s _ _ s.heap:=RF.ground G0'
 refine A9o (c:=r.claim) hz hgens fun args hpre hlay ord hord=>?_
 refine Af fun Gz hGz=>?_
 obtain ⟨⟨vs,s₁⟩,hlaid⟩:=Option.isSome_iff_exists.mp (layAllW_isSome (P:=w.params) (ord:=ord) G.has args r.args s (pre_splitW hpre).1)
 have keeps:=layAllW_keeps _ _ _ hlaid
 have hal:=layAllW_rest _ _ _ hlaid
 obtain ⟨as,hrd,hin,hold⟩:=reads_layAllW hord _ _ _ hlaid hlay s₁.heap (fun _ _ e=>e)
 have L:Laid r.records w s s₁ args vs as:=⟨⟨ord,hord,hlaid⟩,hrd,hin,hold,keeps,hal.1.trans hgens,hal.2.2.1⟩
 have G₁:=G.keeps hXk keeps
 obtain ⟨f,hf,h⟩:=call w s s₁ _ _ G₁ y args vs as hpre hlay L G.low
 have hi:=ident_freeW hu ha hap
 have hwi:r.claim.within=[]:=List.isEmpty_iff.mp k6
 refine hGz ?_
 exact ⟨vs,s₁,hlaid,ht vs w s₁ _ f (fun fin s'=>∃f,fin=.done f∧(r.claim.Ends s args vs s₁ (.ok f) s'∧s'.os=s.os∧AllBare s'.gens∧_)) _ G₁.T.g hf
  (Sem.wp_mono _ _ _ (fun v _ s' g=>⟨_,rfl,have z:=g.laid (c:=r.claim) hsame hwi hi L;⟨z.1,z.2.1,z.2.2,fun q=>⟨namesKept_of hT' hg kps keeps g.2.1.old,noTable hwr q⟩⟩⟩) (fun e _ s' g=>have z:=g.laid (c:=r.claim) hsame hwi hi L;⟨z.1,z.2.1,z.2.2,fun q=>⟨namesKept_of hT' hg kps keeps g.2.1.old,noTable hwr q⟩⟩) _ _ h)⟩
abbrev Ae1(q:Program)(loose:List Str) (XP:(Str→Option Value)→Heap→Prop) {α:Type} (Yf:Shared→α) (Ya:World→α) (r:RowW) (d:DefRec) (kwd:List (Str×PySem.Expr)) (run:Value→List Value→Sem Value):Prop:=
 ∀(w:World) (s₀ s₁:Shared) (mg mb:Str→Option Value),Ground q loose r.records XP w s₀ mg mb s₁.heap→Yf s₀=Ya w→∀(a:Addr) (o:Obj) (pm cd doc dV kV:Value),s₁.heap.get? a=some o →
  o.data=.func {docDef d.name d.params d.body d.scope pm cd doc with defaults:=dV,kwdefaults:=kV}→s₁.heap.CodeRec cd d.name→Dflts mg s₁.heap d.params kwd dV kV→mg d.name=some (.ref a)→s₁.gens=#[] →
  ∀(args:List WData) (vals:List Value) (as:List Addr),Laid r.records w s₀ s₁ args vals as→r.claim.pre args=true→WData.layableAll args=true→ReadsAllW r.records (classAt s₀.heap) s₁.heap vals args as→WellAll w.params s₁.heap vals args→(∀a∈as,(a == sysModules)=false) →
   Sem.wp (model r.prog w) G0 (run (.ref a) vals) (fun v _ s'=>GoodWG r.claim (classAt s₀.heap) (ExcName.means s₀.heap) args s₁ (.ok (.ret v)) s')
    (fun e _ s'=>GoodWG r.claim (classAt s₀.heap) (ExcName.means s₀.heap) args s₁ (.error e) s') default s₁
theorem A4e{r:OpenRow}{q:Program}{loose:List Str}{Xt:Shared→Bool} {XP:(Str→Option Value)→Heap→Prop} {α:Type} {Yf:Shared→α} {Ya:World→α} {d:DefRec} {kwd:List (Str×PySem.Expr)} {N:Nat}
  (left:LeftO r.prog q loose Xt Yf Ya N)
  (hX:∀s,Xt s=true→XP (s.heap.nsMap mainGlobals) s.heap) (hXk:∀mg h h',XP mg h→(∀b o,h.get? b=some o→h'.get? b=some o)→XP mg h')
  (hdef:defOf q r.name=some (d,kwd)) (hp:r.prog.theDef r.name=some (d.params,d.body,d.scope)) (hk:kwWritten? d.params.kwonlyargs d.params.kw_defaults=some kwd) (hRf:∀s,Xt s=true→RecFacts r.records s.heap) (hwr:(!r.writes || r.records.isEmpty)=true)
  (k1:r.wellSaid=true) (ok:(chainsOk q && opensWell r.prog && (frees r.toRowW && r.within.isEmpty))=true) (hb:r.prog.bare) (hw:r.toRowW.promised)
  (call:Ae1 q loose XP Yf Ya r.toRowW d kwd fun f vs=>PySem.call f vs):r.Holds:=by
 refine ⟨k1,hw,Ae0 (r:=r.toRowW) (run:=fun f vs=>PySem.call f vs) (tree:=fun vs=>do match←nsGet mainNs r.name with
   |some f=>do ret (← PySem.call f vs)
   |none=>unsupported "claim.caller:no-such-global") left hX hXk hRf hwr ok hb hw
  (fun vs w s mg f Q E hg hf h=>?_)
  (fun w s hg G n hn=>?_) fun w s₀ s₁ mg mb G Y args vs as hpre hlay L low=>?_⟩
 ·rw [Sem.wp_bind']
  refine (Sem.wp_nsGet _ _ _ _ _ hg r.name _).mpr ?_
  rw [hf]
  show Sem.wp _ _ (PySem.call f vs >>= fun v=>ret v) _ _ _ _
  rw [Sem.wp_bind']
  exact Sem.wp_mono _ _ _ (fun v _ s' x=>x) (fun _ _ _ x=>x) _ _ h
 ·obtain rfl:n=r.name:=by split at hn<;>simp_all
  exact pinned_of_view hg G hdef hp hk
 ·refine Af fun Gz hGz=>?_
  obtain ⟨a,o,pm,cd,doc,dV,kV,h1,h2,h3,h4,h5⟩:=G.fn hdef
  refine hGz ?_
  exact ⟨.ref a,h1,call w s₀ s₁ mg mb G Y a o pm cd doc dV kV h2 h3 h4 h5 (defOf_name hdef▸h1) L.gens args vs as L hpre hlay L.reads L.well (L.low low)⟩
noncomputable def Jg(dn:Code→Sem Fin)(p:Program)(w:World)(n₀:Nat)(ann:Option Value):Nat→SharedT→Thread→Option SharedT
 |0,_,_=>none
 |n+1,s,t=>match through t with
  |true=>some s
  |false=>match stepOk n₀ ann t with
   |false=>none
   |true=>match stepT dn p w s t with
    |some x=>Jg dn p w n₀ ann n x.1 x.2
    |none=>none
noncomputable def Jy(p:Program)(w:World)(n₀:Nat)(ann:Option Value):Nat→SharedT→Thread→Option SharedT
 |0,_,_=>none
 |n+1,s,t=>match through t with
  |true=>some s
  |false=>match PySem.W.Fast.tw6613529449190102663 n₀ ann t with
   |false=>none
   |true=>match PySem.W.Fast.tw10156331382660048174 den p w s t with
    |some x=>Jy p w n₀ ann n x.1 x.2
    |none=>none
theorem Wq(p:Program)(w:World)(n₀:Nat)(ann:Option Value):∀n s t,Jy p w n₀ ann n s t=Jg (denote treeTable) p w n₀ ann n s t:=by
 intro n;induction n with
 |zero=>
  intro _ _
  exact rfl
 |succ n htI=>
  intro s t
  unfold Jy Jg
  rw [← PySem.W.Fast.te6613529449190102663,← PySem.W.Fast.te10156331382660048174,← O2,PySem.table_eq_tree]
  split
  ·rfl
  ·split
   ·rfl
   ·split
    ·exact htI _ _
    ·rfl
theorem Pl{tb:String→Option Builtin}{p:Program}{w:World}{n₀:Nat}{ann:Option Value}:∀{n:Nat} {s s':SharedT} {t:Thread},Jg (denote tb) p w n₀ ann n s t=some s'→topRun tb p w n₀ ann n s.abs t=some s'.abs
 |0,_,_,_,h=>by cases h
 |n+1,s,s',t,h=>by
  unfold Jg at h
  unfold topRun
  cases ht:through t with
  |true=>rw [ht] at h;cases h;rfl
  |false=>
   rw [ht] at h
   cases hk:stepOk n₀ ann t with
   |false=>rw [hk] at h;cases h
   |true=>
    rw [hk] at h
    cases hs:stepT (denote tb) p w s t with
    |none=>rw [hs] at h;cases h
    |some r=>obtain ⟨s₂,t₂⟩:=r;rw [hs] at h;rw [stepT_spec hs];exact Pl h
noncomputable def Zg:BT→Nat→List Obj→BT
 |T,_,[]=>T
 |T,n,o::r=>Zg (T.ins n o) (n+1) r
noncomputable def Kp(P:Params):BT:=Zg .nil 0 (boot_heap P).objs.toList
theorem A1r(P:Params):absHeap (Kp P) 11 {}=boot_heap P:=by kernel_rfl
theorem A7b{p q:Program}{loose:List Str}{Xt:Shared→Bool}{α:Type}{Yf:Shared→α}{Ya:World→α}{N:Nat}{ann:Option Value}
  (e:opening p=plainProg p.main.scope.names) (hN:Nat.ble 600 N=true) (f:∀s,fenceModules? p s=some s)
  (size:∀w:World,((boot_heap w.params).isNs mainGlobals,(boot_heap w.params).nsMap mainGlobals "__annotations__")=(true,ann))
  (run:∀(w:World) (os:OsState),(Jy p w 11 ann N ⟨Kp w.params,11,{},#[],boot_drawn,boot_toks,os⟩ (topStub p)).map (fun s=>((staticsOk (importedModules p.main.body) (boot_heap w.params) s.abs.heap && namesBound p s.abs.heap && gensDone s.abs && laidKept (boot_heap w.params) s.abs.heap),
    openSeen q loose (importedModules p.main.body) Xt true s.abs,Yf s.abs))=some (true,openGood q loose,Ya w)):LeftO p q loose Xt Yf Ya N:=fun w=>by
 refine Af fun Gz hGz=>?_
 obtain ⟨⟨h,gs,d,k,os⟩,e₁,e'⟩:=Option.map_eq_some_iff.mp (boot_open (N:=N) e hN f w)
 obtain ⟨rfl,rfl,rfl,rfl⟩:h=boot_heap w.params∧gs=#[]∧d=boot_drawn∧k=boot_toks:=by simpa using e'
 obtain ⟨sT,r,l⟩:=Option.map_eq_some_iff.mp (run w os)
 obtain ⟨l1,l2,l3⟩:_∧_∧_:=by simpa only [Prod.mk.injEq] using l
 obtain ⟨z1,z2⟩:_∧_:=by simpa only [Prod.mk.injEq] using size w
 rw [Wq] at r
 have r:=Pl r
 have r:topRun treeTable p w 11 ann N ⟨boot_heap w.params,#[],boot_drawn,boot_toks,os⟩ (topStub p)=some sT.abs:=by
  have z:SharedT.abs ⟨Kp w.params,11,{},#[],boot_drawn,boot_toks,os⟩=⟨boot_heap w.params,#[],boot_drawn,boot_toks,os⟩:=by
   unfold SharedT.abs;rw [A1r]
  rw [← z];exact r
 have t:topFrom treeTable p w N ⟨boot_heap w.params,#[],boot_drawn,boot_toks,os⟩=some sT.abs:=by
  unfold topFrom
  dsimp only
  rw [z1,z2,show (boot_heap w.params).objs.size=11 from rfl,r]
  show (match staticsOk (importedModules p.main.body) (boot_heap w.params) sT.abs.heap && namesBound p sT.abs.heap && gensDone sT.abs && laidKept (boot_heap w.params) sT.abs.heap with | true=>_ | false=>_)=_
  rw [l1]
 refine hGz ?_
 unfold openEnds
 rw [e₁]
 show (topFrom treeTable p w N _).map _=_
 rw [t]
 exact congrArg some (Prod.ext l2 l3)
noncomputable abbrev pw:Program:=PySem.Challenge.pw_rl0134_01
noncomputable abbrev lawRow:OpenRow:=PySem.Challenge.rw_rl0134_01.row
noncomputable def As(l:List Stmt)(i:Nat):Stmt:=match l[i]? with
 |some s=>s
 |none=>.Pass ⟨0,0,0,0⟩
noncomputable def Cm:Stmt→List Stmt
 |.ClassDef _ _ _ b ..=>b
 |_=>[]
noncomputable def C0(st:Stmt)(q:Str)(g:Addr) (cl:List (Str×Addr)) (df kd doc md:Value) (an:Option Addr) (cd ct:Value) (b:Addr):FuncData:=match st with
 |.FunctionDef n a body _ _ _ sc _ _ _=>{name:=n,qualname:=q,params:=a,body:=.stmts body,scope:=sc,globals:=g,closure:=cl,defaults:=df,kwdefaults:=kd,doc:=doc,pyModule:=md,annotations:=an,code:=cd,closureTuple:=ct,builtins:=b}
 |_=>default
def qv:Program:=view pw [0,2,8,9,10,11,13,14,15,16,17,18]
noncomputable def O4:List Str:=["insort_right","bisect_right","bisect_left","_Accumulator","Whitespace"]
def xt(s:Shared):Bool:=xlAt qv [] s && recOk (RowW.records lawRow.toRowW) s
noncomputable def Zl:Option Value:=some (.ref 6)
theorem X2:opening pw=plainProg pw.main.scope.names:=by rfl
theorem A42(s:Shared):fenceModules? pw s=some s:=by rfl
theorem Age(w:World):((boot_heap w.params).isNs mainGlobals,(boot_heap w.params).nsMap mainGlobals "__annotations__")=(true,Zl):=by kernel_rfl
noncomputable def kz(P:Params)(a:String)(n:Nat)(b:String):DictEntry:=⟨PyData.keyHash P (Str.ofString a),.str (Str.ofString a) n,.builtin b⟩
def kb(P:Params)(a:String)(n:Nat):DictEntry:=kz P a n a
noncomputable def kr(P:Params)(a:String)(n:Nat)(r:Nat):DictEntry:=⟨PyData.keyHash P (Str.ofString a),.str (Str.ofString a) n,.ref r⟩
noncomputable def kt(P:Params)(a:String)(n:Nat):DictEntry:=⟨PyData.keyHash P (Str.ofString a),.str (Str.ofString a) n,.type a⟩
noncomputable def Eg(l:List Value)(a:String)(n:Nat)(b:String)(k:Nat):Obj:={cls:=.type "code",data:=.fields (#[.str (Str.ofString a) n,.str (Str.ofString b) (n+1),.str (Str.ofString "/claim/cut.py") (n+2)]++l.toArray++#[.str (Str.ofString "/claim/cut.py") k])}
def ob0(P:Params):Obj:={cls:=.type "dict",data:=.dict #[⟨(PyData.keyHash P (Str.ofString "__name__")),.str (Str.ofString "__name__") 1,.str (Str.ofString "builtins") 160⟩,kz P "__doc__" 2 "builtins.__doc__:str#opaque",kz P "__package__" 3 "builtins.__package__:str#opaque",kz P "__loader__" 4 "builtins.__loader__:shared#opaque",kz P "__spec__" 5 "builtins.__spec__#opaque",kb P "__build_class__" 6,kb P "__import__" 7,kb P "abs" 8,kb P "all" 9,kb P "any" 10,kb P "ascii" 11,kb P "bin" 12,kb P "breakpoint" 13,kb P "callable" 14,kb P "chr" 15,kb P "compile" 16,kb P "delattr" 17,kb P "dir" 18,kb P "divmod" 19,kb P "eval" 20,kb P "exec" 21,kb P "format" 22,kb P "getattr" 23,kb P "globals" 24,kb P "hasattr" 25,kb P "hash" 26,kb P "hex" 27,kb P "id" 28,kb P "input" 29,kb P "isinstance" 30,kb P "issubclass" 31,kb P "iter" 32,kb P "aiter" 33,kb P "len" 34,kb P "locals" 35,kb P "max" 36,kb P "min" 37,kb P "next" 38,kb P "anext" 39,kb P "oct" 40,kb P "ord" 41,kb P "pow" 42,kb P "print" 43,kb P "repr" 44,kb P "round" 45,kb P "setattr" 46,kb P "sorted" 47,kb P "sum" 48,kb P "vars" 49,⟨(PyData.keyHash P (Str.ofString "None")),.str (Str.ofString "None") 50,.none⟩,⟨(PyData.keyHash P (Str.ofString "Ellipsis")),.str (Str.ofString "Ellipsis") 51,.ellipsis⟩,⟨(PyData.keyHash P (Str.ofString "NotImplemented")),.str (Str.ofString "NotImplemented") 52,.notImplemented⟩,⟨(PyData.keyHash P (Str.ofString "False")),.str (Str.ofString "False") 53,.bool false⟩,⟨(PyData.keyHash P (Str.ofString "True")),.str (Str.ofString "True") 54,.bool true⟩,kt P "bool" 55,kt P "memoryview" 56,kt P "bytearray" 57,kt P "bytes" 58,kt P "classmethod" 59,kt P "complex" 60,kt P "dict" 61,kt P "enumerate" 62,kt P "filter" 63,kt P "float" 64,kt P "frozenset" 65,kt P "property" 66,kt P "int" 67,kt P "list" 68,kt P "map" 69,kt P "object" 70,kt P "range" 71,kt P "reversed" 72,kt P "set" 73,kt P "slice" 74,kt P "staticmethod" 75,kt P "str" 76,kt P "super" 77,kt P "tuple" 78,kt P "type" 79,kt P "zip" 80,⟨(PyData.keyHash P (Str.ofString "__debug__")),.str (Str.ofString "__debug__") 81,.bool true⟩,kt P "BaseException" 82,kt P "BaseExceptionGroup" 83,kt P "Exception" 84,kt P "GeneratorExit" 85,kt P "KeyboardInterrupt" 86,kt P "SystemExit" 87,kt P "ArithmeticError" 88,kt P "AssertionError" 89,kt P "AttributeError" 90,kt P "BufferError" 91,kt P "EOFError" 92,kt P "ImportError" 93,kt P "LookupError" 94,kt P "MemoryError" 95,kt P "NameError" 96,kt P "OSError" 97,kt P "ReferenceError" 98,kt P "RuntimeError" 99,kt P "StopAsyncIteration" 100,kt P "StopIteration" 101,kt P "SyntaxError" 102,kt P "SystemError" 103,kt P "TypeError" 104,kt P "ValueError" 105,kt P "Warning" 106,kt P "FloatingPointError" 107,kt P "OverflowError" 108,kt P "ZeroDivisionError" 109,kt P "BytesWarning" 110,kt P "DeprecationWarning" 111,kt P "EncodingWarning" 112,kt P "FutureWarning" 113,kt P "ImportWarning" 114,kt P "PendingDeprecationWarning" 115,kt P "ResourceWarning" 116,kt P "RuntimeWarning" 117,kt P "SyntaxWarning" 118,kt P "UnicodeWarning" 119,kt P "UserWarning" 120,kt P "BlockingIOError" 121,kt P "ChildProcessError" 122,kt P "ConnectionError" 123,kt P "FileExistsError" 124,kt P "FileNotFoundError" 125,kt P "InterruptedError" 126,kt P "IsADirectoryError" 127,kt P "NotADirectoryError" 128,kt P "PermissionError" 129,kt P "ProcessLookupError" 130,kt P "TimeoutError" 131,kt P "IndentationError" 132,kt P "_IncompleteInputError" 133,kt P "IndexError" 134,kt P "KeyError" 135,kt P "ModuleNotFoundError" 136,kt P "NotImplementedError" 137,kt P "PythonFinalizationError" 138,kt P "RecursionError" 139,kt P "UnboundLocalError" 140,kt P "UnicodeError" 141,kt P "BrokenPipeError" 142,kt P "ConnectionAbortedError" 143,kt P "ConnectionRefusedError" 144,kt P "ConnectionResetError" 145,kt P "TabError" 146,kt P "UnicodeDecodeError" 147,kt P "UnicodeEncodeError" 148,kt P "UnicodeTranslateError" 149,kt P "ExceptionGroup" 150,⟨(PyData.keyHash P (Str.ofString "EnvironmentError")),.str (Str.ofString "EnvironmentError") 151,.type "OSError"⟩,⟨(PyData.keyHash P (Str.ofString "IOError")),.str (Str.ofString "IOError") 152,.type "OSError"⟩,kb P "open" 153,kz P "quit" 154 "builtins.quit#opaque",kz P "exit" 155 "builtins.exit#opaque",kz P "copyright" 156 "builtins.copyright#opaque",kz P "credits" 157 "builtins.credits#opaque",kz P "license" 158 "builtins.license#opaque",kz P "help" 159 "builtins.help#opaque"] 159}
noncomputable def ob2(P:Params):Obj:={cls:=.none,data:=.dict #[] 0}
def ob3(P:Params):Obj:={cls:=.type "dict",data:=.dict #[⟨(PyData.keyHash P (Str.ofString "__name__")),.str (Str.ofString "__name__") 165,.str (Str.ofString "law_rl0134_01") 550⟩,⟨(PyData.keyHash P (Str.ofString "__doc__")),.str (Str.ofString "__doc__") 166,.none⟩,⟨(PyData.keyHash P (Str.ofString "__package__")),.str (Str.ofString "__package__") 167,.none⟩,kz P "__loader__" 168 "__main__.__loader__#opaque",⟨(PyData.keyHash P (Str.ofString "__spec__")),.str (Str.ofString "__spec__") 169,.none⟩,kr P "__annotations__" 170 6,kr P "__builtins__" 171 4,⟨(PyData.keyHash P (Str.ofString "__file__")),.str (Str.ofString "__file__") 173,.str (Str.ofString "/claim/cut.py") 172⟩,⟨(PyData.keyHash P (Str.ofString "__cached__")),.str (Str.ofString "__cached__") 174,.none⟩,kr P "_wall" 193 21,kr P "Whitespace" 296 83,kr P "insort_right" 311 96,kr P "bisect_right" 325 105,kr P "bisect_left" 339 114,⟨(PyData.keyHash P (Str.ofString "NL")),.str (Str.ofString "NL") 343,.str (⟨#[10]⟩:Str) 342⟩,⟨(PyData.keyHash P (Str.ofString "EMPTYSTRING")),.str (Str.ofString "EMPTYSTRING") 345,.str (Str.ofString "") 344⟩,kr P "_ValueFormatter" 453 187,kr P "_Accumulator" 549 271,kr P "_law_dealt" 557 280,kr P "_law_claimed" 563 285,kr P "_law_rows" 574 292,kr P "_law_full" 580 297,kr P "_law_plain" 591 304,kr P "law" 597 309] 24}
noncomputable def ob4(P:Params):Obj:={cls:=.type "module",dict:=some 0,data:=.plain}
def Ac3(P:Params):Obj:=Eg [.int 8 0,.int 2 0,.int 0 0,.int 0 0,.int 3 0,.ref 32,.bool true,.int 181 0,.ref 33,.none,.ref 34,.ref 35,.ref 36,.int 225 0,.int 8 0] "__init__" 213 "Whitespace.__init__" 226
def A13(P:Params):Obj:={cls:=.type "function",data:=.func (C0 (As (Cm (As pw.main.body 2)) 1) (Str.ofString "Whitespace.__init__") 3 [] .none .none .none (.str (Str.ofString "cpy313.tabnanny") 194) none (.ref 37) .none 0)}
def Adi(P:Params):Obj:=Eg [.int 31 0,.int 1 0,.int 0 0,.int 0 0,.int 3 0,.ref 39,.bool true,.int 181 0,.ref 40,.none,.ref 41,.ref 42,.ref 43,.int 234 0,.int 31 0] "longest_run_of_spaces" 228 "Whitespace.longest_run_of_spaces" 235
def Acw(P:Params):Obj:={cls:=.type "function",data:=.func (C0 (As (Cm (As pw.main.body 2)) 2) (Str.ofString "Whitespace.longest_run_of_spaces") 3 [] .none .none .none (.str (Str.ofString "cpy313.tabnanny") 194) none (.ref 44) .none 0)}
def Abo(P:Params):Obj:=Eg [.int 35 0,.int 2 0,.int 0 0,.int 0 0,.int 3 0,.ref 46,.bool true,.int 181 0,.ref 47,.none,.ref 48,.ref 49,.ref 50,.int 246 0,.int 35 0] "indent_level" 237 "Whitespace.indent_level" 247
def A43(P:Params):Obj:={cls:=.type "function",data:=.func (C0 (As (Cm (As pw.main.body 2)) 3) (Str.ofString "Whitespace.indent_level") 3 [] .none .none .none (.str (Str.ofString "cpy313.tabnanny") 194) none (.ref 51) .none 0)}
def Ab4(P:Params):Obj:=Eg [.int 51 0,.int 2 0,.int 0 0,.int 0 0,.int 3 0,.ref 74,.bool true,.int 181 0,.ref 75,.none,.ref 76,.ref 77,.ref 78,.int 281 0,.int 51 0] "not_less_witness" 273 "Whitespace.not_less_witness" 282
def A2f(P:Params):Obj:={cls:=.type "function",data:=.func (C0 (As (Cm (As pw.main.body 2)) 7) (Str.ofString "Whitespace.not_less_witness") 3 [] .none .none .none (.str (Str.ofString "cpy313.tabnanny") 194) none (.ref 79) .none 0)}
def Abw(P:Params):Obj:={cls:=.type "dict",data:=.dict #[⟨(PyData.keyHash P (Str.ofString "__module__")),.str (Str.ofString "__module__") 203,.str (Str.ofString "cpy313.tabnanny") 194⟩,⟨(PyData.keyHash P (Str.ofString "__firstlineno__")),.str (Str.ofString "__firstlineno__") 207,.int 5 206⟩,⟨(PyData.keyHash P (Str.ofString "S")),.str (Str.ofString "S") 211,.str (Str.ofString " ") 209⟩,⟨(PyData.keyHash P (Str.ofString "T")),.str (Str.ofString "T") 212,.str (⟨#[9]⟩:Str) 210⟩,kr P "__init__" 227 38,kr P "longest_run_of_spaces" 236 45,kr P "indent_level" 248 52,kr P "equal" 256 59,kr P "not_equal_witness" 264 66,kr P "less" 272 73,kr P "not_less_witness" 283 80,kr P "__static_attributes__" 289 81,kr P "__dict__" 291 84,kr P "__weakref__" 293 85,⟨(PyData.keyHash P (Str.ofString "__doc__")),.str (Str.ofString "__doc__") 294,.none⟩] 4}
noncomputable def Ae2(P:Params):Obj:={cls:=.type "type",data:=.cls {name:=(Str.ofString "Whitespace"),bases:=[.type "object"],mro:=[.ref 83,.type "object"],ns:=82,qualname:=(Str.ofString "Whitespace"),hasDict:=true,slotNames:=[],subclasses:=[],abstract:=false,collection:=none,hasDel:=false},slots:=#[none,none,some (.str (Str.ofString "Whitespace") 196),some (.str (Str.ofString "Whitespace") 204),some (.builtin "object.__new__"),some (.bool true)]}
noncomputable def Aem(P:Params):Obj:={cls:=.type "tuple",data:=.seq #[.int 0 299,.none] 0}
noncomputable def Acd(P:Params):Obj:={cls:=.type "dict",data:=.dict #[⟨(PyData.keyHash P (Str.ofString "key")),.str (Str.ofString "key") 300,.none⟩] 1}
def Ad1(P:Params):Obj:=Eg [.int 59 0,.int 4 0,.int 0 0,.int 1 0,.int 3 0,.ref 90,.bool true,.int 181 0,.ref 91,.none,.ref 92,.ref 93,.ref 94,.int 309 0,.int 59 0] "insort_right" 301 "insort_right" 310
def Af1(P:Params):Obj:={cls:=.type "function",data:=.func (C0 (As pw.main.body 4) (Str.ofString "insort_right") 3 [] (.ref 88) (.ref 89) .none (.str (Str.ofString "cpy313.bisect") 297) none (.ref 95) .none 0)}
noncomputable def Ad8(P:Params):Obj:={cls:=.type "tuple",data:=.seq #[.int 0 312,.none] 0}
noncomputable def Adu(P:Params):Obj:={cls:=.type "dict",data:=.dict #[⟨(PyData.keyHash P (Str.ofString "key")),.str (Str.ofString "key") 313,.none⟩] 1}
def A6i(P:Params):Obj:=Eg [.int 65 0,.int 4 0,.int 0 0,.int 1 0,.int 3 0,.ref 99,.bool true,.int 181 0,.ref 100,.none,.ref 101,.ref 102,.ref 103,.int 323 0,.int 65 0] "bisect_right" 314 "bisect_right" 324
def Rh(P:Params):Obj:={cls:=.type "function",data:=.func (C0 (As pw.main.body 5) (Str.ofString "bisect_right") 3 [] (.ref 97) (.ref 98) .none (.str (Str.ofString "cpy313.bisect") 297) none (.ref 104) .none 0)}
noncomputable def A5y(P:Params):Obj:={cls:=.type "tuple",data:=.seq #[.int 0 326,.none] 0}
def A53(P:Params):Obj:=Eg [.int 85 0,.int 4 0,.int 0 0,.int 1 0,.int 3 0,.ref 108,.bool true,.int 181 0,.ref 109,.none,.ref 110,.ref 111,.ref 112,.int 337 0,.int 85 0] "bisect_left" 328 "bisect_left" 338
def V6(P:Params):Obj:={cls:=.type "function",data:=.func (C0 (As pw.main.body 6) (Str.ofString "bisect_left") 3 [] (.ref 106) (.ref 107) .none (.str (Str.ofString "cpy313.bisect") 297) none (.ref 113) .none 0)}
def A63(P:Params):Obj:=Eg [.int 110 0,.int 5 0,.int 0 0,.int 0 0,.int 3 0,.ref 122,.bool true,.int 181 0,.ref 123,.none,.ref 124,.ref 125,.ref 126,.int 366 0,.int 110 0] "__init__" 358 "_ValueFormatter.__init__" 367
def A6m(P:Params):Obj:={cls:=.type "function",data:=.func (C0 (As (Cm (As pw.main.body 10)) 0) (Str.ofString "_ValueFormatter.__init__") 3 [] .none .none .none (.str (Str.ofString "cpy313.email.header") 340) none (.ref 127) .none 0)}
def A5j(P:Params):Obj:=Eg [.int 125 0,.int 1 0,.int 0 0,.int 0 0,.int 3 0,.ref 143,.bool true,.int 181 0,.ref 144,.none,.ref 145,.ref 146,.ref 147,.int 389 0,.int 125 0] "newline" 384 "_ValueFormatter.newline" 390
def A5r(P:Params):Obj:={cls:=.type "function",data:=.func (C0 (As (Cm (As pw.main.body 10)) 3) (Str.ofString "_ValueFormatter.newline") 3 [] .none .none .none (.str (Str.ofString "cpy313.email.header") 340) none (.ref 148) .none 0)}
def A68(P:Params):Obj:=Eg [.int 148 0,.int 3 0,.int 0 0,.int 0 0,.int 3 0,.ref 178,.bool true,.int 181 0,.ref 179,.none,.ref 180,.ref 181,.ref 182,.int 437 0,.int 148 0] "_append_chunk" 426 "_ValueFormatter._append_chunk" 438
def A57(P:Params):Obj:={cls:=.type "function",data:=.func (C0 (As (Cm (As pw.main.body 10)) 8) (Str.ofString "_ValueFormatter._append_chunk") 3 [] .none .none .none (.str (Str.ofString "cpy313.email.header") 340) none (.ref 183) .none 0)}
def A52(P:Params):Obj:={cls:=.type "dict",data:=.dict #[⟨(PyData.keyHash P (Str.ofString "__module__")),.str (Str.ofString "__module__") 353,.str (Str.ofString "cpy313.email.header") 340⟩,⟨(PyData.keyHash P (Str.ofString "__firstlineno__")),.str (Str.ofString "__firstlineno__") 357,.int 108 356⟩,kr P "__init__" 368 128,kr P "_str" 376 135,kr P "__str__" 383 142,kr P "newline" 391 149,kr P "add_transition" 398 156,kr P "feed" 408 163,kr P "_maxlengths" 415 170,kr P "_ascii_split" 425 177,kr P "_append_chunk" 439 184,kr P "__static_attributes__" 446 185,kr P "__dict__" 448 188,kr P "__weakref__" 450 189,⟨(PyData.keyHash P (Str.ofString "__doc__")),.str (Str.ofString "__doc__") 451,.none⟩] 4}
noncomputable def A6x(P:Params):Obj:={cls:=.type "type",data:=.cls {name:=(Str.ofString "_ValueFormatter"),bases:=[.type "object"],mro:=[.ref 187,.type "object"],ns:=186,qualname:=(Str.ofString "_ValueFormatter"),hasDict:=true,slotNames:=[],subclasses:=[],abstract:=false,collection:=none,hasDel:=false},slots:=#[none,none,some (.str (Str.ofString "_ValueFormatter") 346),some (.str (Str.ofString "_ValueFormatter") 354),some (.builtin "object.__new__"),some (.bool true)]}
noncomputable def A6t(P:Params):Obj:={cls:=.type "cell",data:=.cell (some (.ref 271))}
noncomputable def A5s(P:Params):Obj:={cls:=.type "tuple",data:=.seq #[.int 0 466] 0}
def A5l(P:Params):Obj:=Eg [.int 176 0,.int 2 0,.int 0 0,.int 0 0,.int 3 0,.ref 202,.bool true,.int 181 0,.ref 203,.none,.ref 204,.ref 205,.ref 206,.int 473 0,.int 176 0] "__init__" 467 "_Accumulator.__init__" 474
def V1(P:Params):Obj:={cls:=.type "function",data:=.func (C0 (As (Cm (As pw.main.body 11)) 0) (Str.ofString "_Accumulator.__init__") 3 [((Str.ofString "__class__"),195)] (.ref 200) .none .none (.str (Str.ofString "cpy313.email.header") 340) none (.ref 207) (.ref 201) 0)}
def A6c(P:Params):Obj:=Eg [.int 180 0,.int 3 0,.int 0 0,.int 0 0,.int 3 0,.ref 209,.bool true,.int 181 0,.ref 210,.none,.ref 211,.ref 212,.ref 213,.int 482 0,.int 180 0] "push" 476 "_Accumulator.push" 483
def A5w(P:Params):Obj:={cls:=.type "function",data:=.func (C0 (As (Cm (As pw.main.body 11)) 1) (Str.ofString "_Accumulator.push") 3 [] .none .none .none (.str (Str.ofString "cpy313.email.header") 340) none (.ref 214) .none 0)}
noncomputable def A5p(P:Params):Obj:={cls:=.type "tuple",data:=.seq #[.int 0 485] 0}
def A73(P:Params):Obj:=Eg [.int 183 0,.int 2 0,.int 0 0,.int 0 0,.int 3 0,.ref 217,.bool true,.int 181 0,.ref 218,.none,.ref 219,.ref 220,.ref 221,.int 492 0,.int 183 0] "pop_from" 486 "_Accumulator.pop_from" 493
def A59(P:Params):Obj:={cls:=.type "function",data:=.func (C0 (As (Cm (As pw.main.body 11)) 2) (Str.ofString "_Accumulator.pop_from") 3 [] (.ref 216) .none .none (.str (Str.ofString "cpy313.email.header") 340) none (.ref 222) .none 0)}
def A70(P:Params):Obj:=Eg [.int 188 0,.int 1 0,.int 0 0,.int 0 0,.int 3 0,.ref 225,.bool true,.int 181 0,.ref 226,.none,.ref 227,.ref 228,.ref 229,.int 500 0,.int 188 0] "pop" 495 "_Accumulator.pop" 501
def Wf(P:Params):Obj:={cls:=.type "function",data:=.func (C0 (As (Cm (As pw.main.body 11)) 3) (Str.ofString "_Accumulator.pop") 3 [((Str.ofString "__class__"),195)] .none .none .none (.str (Str.ofString "cpy313.email.header") 340) none (.ref 230) (.ref 224) 0)}
noncomputable def A6o(P:Params):Obj:={cls:=.none,data:=.fields #[]}
def V9(P:Params):Obj:=Eg [.int 193 0,.int 1 0,.int 0 0,.int 0 0,.int 3 0,.ref 232,.bool true,.int 181 0,.ref 233,.none,.ref 234,.ref 235,.ref 236,.int 507 0,.int 193 0] "__len__" 503 "_Accumulator.__len__" 508
def A6g(P:Params):Obj:={cls:=.type "function",data:=.func (C0 (As (Cm (As pw.main.body 11)) 4) (Str.ofString "_Accumulator.__len__") 3 [] .none .none .none (.str (Str.ofString "cpy313.email.header") 340) none (.ref 237) .none 0)}
noncomputable def A5t(P:Params):Obj:={cls:=.none,data:=.fields #[]}
def V3(P:Params):Obj:=Eg [.int 196 0,.int 1 0,.int 0 0,.int 0 0,.int 3 0,.ref 239,.bool true,.int 181 0,.ref 240,.none,.ref 241,.ref 242,.ref 243,.int 514 0,.int 196 0] "__str__" 510 "_Accumulator.__str__" 515
def A5f(P:Params):Obj:={cls:=.type "function",data:=.func (C0 (As (Cm (As pw.main.body 11)) 5) (Str.ofString "_Accumulator.__str__") 3 [] .none .none .none (.str (Str.ofString "cpy313.email.header") 340) none (.ref 244) .none 0)}
noncomputable def A6k(P:Params):Obj:={cls:=.type "tuple",data:=.seq #[.none] 0}
def A6y(P:Params):Obj:=Eg [.int 199 0,.int 2 0,.int 0 0,.int 0 0,.int 3 0,.ref 247,.bool true,.int 181 0,.ref 248,.none,.ref 249,.ref 250,.ref 251,.int 522 0,.int 199 0] "reset" 517 "_Accumulator.reset" 523
def A6d(P:Params):Obj:={cls:=.type "function",data:=.func (C0 (As (Cm (As pw.main.body 11)) 6) (Str.ofString "_Accumulator.reset") 3 [] (.ref 246) .none .none (.str (Str.ofString "cpy313.email.header") 340) none (.ref 252) .none 0)}
def A56(P:Params):Obj:=Eg [.int 205 0,.int 1 0,.int 0 0,.int 0 0,.int 3 0,.ref 254,.bool true,.int 181 0,.ref 255,.none,.ref 256,.ref 257,.ref 258,.int 529 0,.int 205 0] "is_onlyws" 525 "_Accumulator.is_onlyws" 530
def A5v(P:Params):Obj:={cls:=.type "function",data:=.func (C0 (As (Cm (As pw.main.body 11)) 7) (Str.ofString "_Accumulator.is_onlyws") 3 [] .none .none .none (.str (Str.ofString "cpy313.email.header") 340) none (.ref 259) .none 0)}
def A66(P:Params):Obj:=Eg [.int 208 0,.int 1 0,.int 0 0,.int 0 0,.int 3 0,.ref 262,.bool true,.int 181 0,.ref 263,.none,.ref 264,.ref 265,.ref 266,.int 537 0,.int 208 0] "part_count" 532 "_Accumulator.part_count" 538
def Wy(P:Params):Obj:={cls:=.type "function",data:=.func (C0 (As (Cm (As pw.main.body 11)) 8) (Str.ofString "_Accumulator.part_count") 3 [((Str.ofString "__class__"),195)] .none .none .none (.str (Str.ofString "cpy313.email.header") 340) none (.ref 267) (.ref 261) 0)}
def A6l(P:Params):Obj:={cls:=.type "dict",data:=.dict #[⟨(PyData.keyHash P (Str.ofString "__module__")),.str (Str.ofString "__module__") 461,.str (Str.ofString "cpy313.email.header") 340⟩,⟨(PyData.keyHash P (Str.ofString "__firstlineno__")),.str (Str.ofString "__firstlineno__") 465,.int 174 464⟩,kr P "__init__" 475 208,kr P "push" 484 215,kr P "pop_from" 494 223,kr P "pop" 502 231,kr P "__len__" 509 238,kr P "__str__" 516 245,kr P "reset" 524 253,kr P "is_onlyws" 531 260,kr P "part_count" 539 268,kr P "__static_attributes__" 541 269,kr P "__dict__" 544 272,kr P "__weakref__" 546 273,⟨(PyData.keyHash P (Str.ofString "__doc__")),.str (Str.ofString "__doc__") 547,.none⟩] 5}
noncomputable def A6p(P:Params):Obj:={cls:=.type "type",data:=.cls {name:=(Str.ofString "_Accumulator"),bases:=[.type "list"],mro:=[.ref 271,.type "list",.type "object"],ns:=270,qualname:=(Str.ofString "_Accumulator"),hasDict:=true,slotNames:=[],subclasses:=[],abstract:=false,collection:=none,hasDel:=false},slots:=#[some (.ref 192),none,some (.str (Str.ofString "_Accumulator") 454),some (.str (Str.ofString "_Accumulator") 462),some (.builtin "list.__new__"),some (.bool true)]}
def A74(P:Params):Obj:=Eg [.int 211 0,.int 3 0,.int 0 0,.int 0 0,.int 3 0,.ref 276,.bool true,.int 181 0,.ref 277,.none,.none,.none,.ref 278,.int 555 0,.int 211 0] "_law_dealt" 552 "_law_dealt" 556
def Wm(P:Params):Obj:={cls:=.type "function",data:=.func (C0 (As pw.main.body 13) (Str.ofString "_law_dealt") 3 [] .none .none .none (.str (Str.ofString "law_rl0134_01") 550) none (.ref 279) .none 0)}
def A6n(P:Params):Obj:=Eg [.int 222 0,.int 3 0,.int 0 0,.int 0 0,.int 3 0,.ref 281,.bool true,.int 181 0,.ref 282,.none,.none,.none,.ref 283,.int 561 0,.int 222 0] "_law_claimed" 558 "_law_claimed" 562
def Wu(P:Params):Obj:={cls:=.type "function",data:=.func (C0 (As pw.main.body 14) (Str.ofString "_law_claimed") 3 [] .none .none .none (.str (Str.ofString "law_rl0134_01") 550) none (.ref 284) .none 0)}
def A5c(P:Params):Obj:=Eg [.int 240 0,.int 2 0,.int 0 0,.int 0 0,.int 3 0,.ref 286,.bool true,.int 181 0,.ref 287,.none,.ref 288,.ref 289,.ref 290,.int 572 0,.int 240 0] "_law_rows" 564 "_law_rows" 573
def Vg(P:Params):Obj:={cls:=.type "function",data:=.func (C0 (As pw.main.body 15) (Str.ofString "_law_rows") 3 [] .none .none .none (.str (Str.ofString "law_rl0134_01") 550) none (.ref 291) .none 0)}
def A67(P:Params):Obj:=Eg [.int 247 0,.int 2 0,.int 0 0,.int 0 0,.int 3 0,.ref 293,.bool true,.int 181 0,.ref 294,.none,.none,.none,.ref 295,.int 578 0,.int 247 0] "_law_full" 575 "_law_full" 579
def W9(P:Params):Obj:={cls:=.type "function",data:=.func (C0 (As pw.main.body 16) (Str.ofString "_law_full") 3 [] .none .none .none (.str (Str.ofString "law_rl0134_01") 550) none (.ref 296) .none 0)}
def A6h(P:Params):Obj:=Eg [.int 249 0,.int 2 0,.int 0 0,.int 0 0,.int 3 0,.ref 298,.bool true,.int 181 0,.ref 299,.none,.ref 300,.ref 301,.ref 302,.int 589 0,.int 249 0] "_law_plain" 581 "_law_plain" 590
def Wa(P:Params):Obj:={cls:=.type "function",data:=.func (C0 (As pw.main.body 17) (Str.ofString "_law_plain") 3 [] .none .none .none (.str (Str.ofString "law_rl0134_01") 550) none (.ref 303) .none 0)}
noncomputable def A60(P:Params):Obj:={cls:=.none,data:=.fields #[]}
def W7(P:Params):Obj:=Eg [.int 257 0,.int 1 0,.int 0 0,.int 0 0,.int 3 0,.ref 305,.bool true,.int 181 0,.ref 306,.none,.none,.none,.ref 307,.int 595 0,.int 257 0] "law" 592 "law" 596
def Wv(P:Params):Obj:={cls:=.type "function",data:=.func (C0 (As pw.main.body 18) (Str.ofString "law") 3 [] .none .none .none (.str (Str.ofString "law_rl0134_01") 550) none (.ref 308) .none 0)}
noncomputable def statAt:List Nat:=[0,2,3,4,37,38,44,45,51,52,79,80,82,83,88,89,95,96,97,98,104,105,106,113,114,127,128,148,149,183,184,186,187,195,200,207,208,214,215,216,222,223,230,231,233,237,238,240,244,245,246,252,253,259,260,267,268,270,271,279,280,284,285,291,292,296,297,303,304,306,308,309]
def Jl(P:Params):List Obj:=[ob0 P,ob2 P,ob3 P,ob4 P,Ac3 P,A13 P,Adi P,Acw P,Abo P,A43 P,Ab4 P,A2f P,Abw P,Ae2 P,Aem P,Acd P,Ad1 P,Af1 P,Ad8 P,Adu P,A6i P,Rh P,A5y P,A53 P,V6 P,A63 P,A6m P,A5j P,A5r P,A68 P,A57 P,A52 P,A6x P,A6t P,A5s P,A5l P,V1 P,A6c P,A5w P,A5p P,A73 P,A59 P,A70 P,Wf P,A6o P,V9 P,A6g P,A5t P,V3 P,A5f P,A6k P,A6y P,A6d P,A56 P,A5v P,A66 P,Wy P,A6l P,A6p P,A74 P,Wm P,A6n P,Wu P,A5c P,Vg P,A67 P,W9 P,A6h P,Wa P,A60 P,W7 P,Wv P]
noncomputable def N2(s:Shared):List (Option Obj)×Nat×Nat:=(statAt.map s.heap.get?,s.heap.objs.size,s.toks)
def N7(w:World):List (Option Obj)×Nat×Nat:=((Jl w.params).map some,310,598)
def A58(w:World):Prop:=∀os,(Jy pw w 11 Zl 4000 ⟨Kp w.params,11,{},#[],boot_drawn,boot_toks,os⟩ (topStub pw)).map (fun s=>((staticsOk (importedModules pw.main.body) (boot_heap w.params) s.abs.heap && namesBound pw s.abs.heap && gensDone s.abs && laidKept (boot_heap w.params) s.abs.heap),
    openSeen qv O4 (importedModules pw.main.body) xt true s.abs,N2 s.abs))=some (true,openGood qv O4,N7 w)
theorem A8w(w:World):A58 w:=by
 refine byRow2 "special-get-raises" (P:=A58) (fun w os=>?_) (fun w os=>?_) w
 ·kernel_rfl
 ·kernel_rfl
theorem left:LeftO lawRow.prog qv O4 xt N2 N7 4000:=
 A7b (N:=4000) X2 rfl A42 Age (fun w os=>A8w w os)
end Mine
namespace Mine
open PySem PySem.W PySem.W.X
def I3(P:Params):KT:=.node (some (ob0 P)) (.node none (.node (some (ob3 P)) (.node none (.node none (.node none (.node none (.node (some (A63 P)) .nil .nil) .nil) (.node (some (Ad1 P)) .nil (.node (some (A59 P)) .nil .nil))) (.node none (.node (some (Ab4 P)) (.node none (.node (some (A6p P)) .nil .nil) .nil) (.node (some (A5l P)) .nil .nil)) (.node none (.node none (.node (some (A6h P)) .nil .nil) .nil) .nil))) (.node none (.node none .nil (.node none .nil (.node (some (Wf P)) .nil .nil))) (.node none (.node none (.node none (.node (some (A74 P)) .nil .nil) .nil) (.node (some (A5w P)) .nil .nil)) (.node none (.node (some (A68 P)) .nil .nil) .nil)))) (.node none (.node none (.node none (.node none (.node none (.node (some (A56 P)) .nil .nil) .nil) (.node (some (A6t P)) .nil .nil)) (.node none (.node none (.node (some (A5c P)) .nil .nil) .nil) .nil)) (.node (some (Abo P)) (.node (some (Ae2 P)) .nil .nil) .nil)) (.node none (.node none (.node none (.node none (.node (some (A66 P)) .nil .nil) .nil) .nil) .nil) (.node none .nil (.node none (.node (some (A6x P)) .nil .nil) .nil))))) (.node none (.node none (.node none (.node none .nil (.node (some (Ad8 P)) .nil .nil)) (.node none .nil (.node (some (A53 P)) .nil .nil))) (.node none (.node none .nil (.node (some (Rh P)) (.node none (.node (some (W9 P)) .nil .nil) .nil) (.node (some (A6o P)) .nil .nil))) (.node none (.node (some (Acd P)) .nil .nil) .nil))) (.node none (.node none (.node (some (Ac3 P)) .nil .nil) (.node none (.node none (.node (some (A5r P)) .nil .nil) .nil) (.node none (.node none (.node (some (Wv P)) .nil .nil) .nil) (.node (some (A5f P)) .nil .nil)))) (.node none (.node (some (Acw P)) .nil (.node none .nil (.node (some (V9 P)) .nil .nil))) (.node none (.node none (.node none (.node (some (Wu P)) .nil .nil) .nil) .nil) (.node none .nil (.node (some (A6d P)) .nil .nil))))))) (.node (some (ob2 P)) (.node (some (ob4 P)) (.node none (.node none (.node none (.node none (.node (some (A6m P)) .nil .nil) .nil) (.node (some (Af1 P)) .nil .nil)) (.node none (.node (some (A2f P)) .nil (.node (some (V1 P)) .nil .nil)) (.node none (.node none (.node (some (Wa P)) .nil .nil) .nil) (.node (some (A5t P)) .nil .nil)))) (.node none (.node none (.node none .nil (.node (some (A5s P)) .nil .nil)) (.node (some (A6i P)) (.node none (.node (some (A67 P)) .nil .nil) .nil) .nil)) (.node none (.node (some (Aem P)) (.node none (.node (some (Wm P)) .nil .nil) .nil) (.node (some (A5p P)) .nil .nil)) (.node none (.node (some (A57 P)) .nil .nil) .nil)))) (.node none (.node none (.node none (.node none (.node none (.node (some (A5v P)) .nil .nil) .nil) .nil) (.node none (.node none (.node (some (Vg P)) .nil .nil) .nil) .nil)) (.node (some (A43 P)) (.node none (.node (some (A5j P)) .nil .nil) .nil) (.node none (.node none (.node (some (W7 P)) .nil .nil) .nil) (.node (some (V3 P)) .nil .nil)))) (.node none (.node (some (Adi P)) (.node none (.node none (.node (some (Wy P)) .nil .nil) .nil) .nil) .nil) (.node none (.node none (.node none (.node (some (A6n P)) .nil .nil) .nil) .nil) (.node none .nil (.node (some (A6y P)) .nil .nil)))))) (.node none (.node none (.node none (.node none .nil (.node (some (Adu P)) .nil .nil)) (.node none (.node (some (Abw P)) .nil .nil) (.node (some (V6 P)) (.node none (.node (some (A60 P)) .nil .nil) .nil) .nil))) (.node none (.node none .nil (.node (some (A5y P)) .nil .nil)) (.node none .nil (.node none (.node (some (A52 P)) .nil .nil) .nil)))) (.node none (.node none (.node (some (A13 P)) .nil (.node none .nil (.node (some (A70 P)) .nil .nil))) (.node none (.node none .nil (.node (some (A6c P)) .nil .nil)) (.node none .nil (.node (some (A6k P)) .nil .nil)))) (.node none (.node none (.node none (.node none (.node (some (A6l P)) .nil .nil) .nil) .nil) (.node none .nil (.node (some (A6g P)) .nil .nil))) (.node none (.node none .nil (.node (some (A73 P)) .nil .nil)) .nil)))))
noncomputable def Agc:List Nat:=[233,240,306]
theorem Aa2(P:Params):KT.of (statAt.zip (Jl P))=I3 P:=by kernel_rfl
noncomputable def zed(w:World)(os:OsState):Zed:=⟨pw,w,I3 w.params,Agc,310,os⟩
noncomputable def wf(w:World)(b1 b2:Bool):World:=(w.withFollow "special-get-raises" b1).withFollow "comprehension-iter-twice" b2
noncomputable def Ap(a b:Value):Obj:={cls:=.type "tuple",data:=.seq #[a,b]}
section
noncomputable abbrev Si(p0 p1:Pos):Expr:=.Call (.Name "super" p0) [] [] p1
noncomputable def Rw(f cd:Addr)(p1:Pos)(env:Env):Sem Value:=
 funcData (.ref f) >>= fun fd=>match (fd.params.posonlyargs++fd.params.args).head? with
  |none=>unsupported ""
  |some ar=>ask >>= fun st=>field (.ref cd) 2 >>= fun v=>match v with
   |.str file _=>if (st.program.main.file == file)=true then
     if (st.program.main.scope.names.lookup ("super":Str)).isSome=true then unsupported ""
     else rule "super.attribute-form" >>= fun _=>standAt p1 >>= fun _=>loadName env "super" >>= fun g=>loadName env "__class__" >>= fun cls=>loadName env ar.arg >>= fun self=>isType cls >>= fun b=>
      if (g == .type "super" && b)=true then call g [cls,self] else unsupported ""
    else unsupported ""
   |_=>unsupported ""
section
variable {M:Model}{Γ:PySem.Ctx}{E:Value→Pos→Shared→Prop}
theorem Lb{α:Type}{w:String}{Q:α→Pos→Shared→Prop}{p:Pos}{s:Shared}:¬ Sem.wp M Γ (PySem.unsupported w:Sem α) Q E p s:=by
 show ¬ Sem.wp M Γ (Sem.unsupported w) Q E p s
 rw [Sem.wp_unsupported];exact id
theorem A23{b:List Stmt}{e:Env}(h:Γ.code=.func b e){Q:List Env→Pos→Shared→Prop}{p:Pos}{s:Shared}(hQ:Q [] p s):Sem.wp M Γ comprehensionsAround Q E p s:=by
 unfold comprehensionsAround callersCodes
 show Sem.wp M Γ ((stack >>= _) >>= _) Q E p s
 rw [Sem.wp_bind',Sem.wp_bind']
 show Sem.wp M Γ (Sem.stack _) _ _ p s
 rw [Sem.wp_stack]
 rw [Sem.wp_pure,h]
 have e1:pastTheWaiting ((Code.func b e,p)::Γ.below)=(Code.func b e,p)::pastTheWaiting.go false (some (.func b e)) Γ.below:=by
  show pastTheWaiting.go false none _=_
  rfl
 dsimp only
 rw [e1]
 simp only [List.map_cons,List.findSome?_cons,Code.env?,bne_self_eq_false,Bool.false_eq_true,if_false]
 show Sem.wp M Γ (pure _) _ _ p s
 rw [Sem.wp_pure']
 show Sem.wp M Γ (pure _) _ _ p s
 rw [Sem.wp_pure']
 exact hQ
theorem A11{b:List Stmt}{e env:Env}(h:Γ.code=.func b e){f cd:Addr}(hf:env.func=some f)(hc:env.code=.ref cd)(hks:env.kindOf "super"=some .globalImplicit)(hkc:env.kindOf "__class__"=some .free)
  {attr:Str} (hat:(attr == ("__class__":Str))=false) {p0 p1:Pos} {whole:Sem Value} {Q:Value→Pos→Shared→Prop} {p:Pos} {s:Shared}
  (H:Sem.wp M Γ (Rw f cd p1 env) Q E p s):Sem.wp M Γ (attributeBase (Si p0 p1) attr env whole) Q E p s:=by
 unfold attributeBase
 unfold Rw at H
 simp only [bne_self_eq_false,hat,hks,hkc,hf,hc,Bool.or_false,Bool.or_self,Bool.false_eq_true,if_false,Option.isSome_some,if_true,pure_bind]
 rw [Sem.wp_bind'] at H ⊢
 refine Sem.wp_mono _ _ _ (fun fd p1 s1 H=>?_) (fun _ _ _ x=>x) _ _ H
 cases hh:(fd.params.posonlyargs++fd.params.args).head? with
 |none=>rw [hh] at H;exact absurd H Lb
 |some ar=>
  rw [hh] at H
  dsimp only at H ⊢
  rw [Sem.wp_bind'] at H ⊢
  refine Sem.wp_mono _ _ _ (fun st p2 s2 H=>?_) (fun _ _ _ x=>x) _ _ H
  rw [Sem.wp_bind'] at H ⊢
  refine Sem.wp_mono _ _ _ (fun v p3 s3 H=>?_) (fun _ _ _ x=>x) _ _ H
  split at H
  ·rename_i file tk
   split at H
   ·rename_i hfile
    split at H
    ·exact absurd H Lb
    ·rename_i htop
     dsimp only
     rw [if_pos hfile]
     dsimp only
     rw [if_neg htop]
     rw [Sem.wp_bind'] at H ⊢
     refine Sem.wp_mono _ _ _ (fun _ p4 s4 H=>?_) (fun _ _ _ x=>x) _ _ H
     rw [Sem.wp_bind'] at H ⊢
     refine Sem.wp_mono _ _ _ (fun _ p5 s5 H=>?_) (fun _ _ _ x=>x) _ _ H
     rw [Sem.wp_bind'] at H ⊢
     refine Sem.wp_mono _ _ _ (fun g p6 s6 H=>?_) (fun _ _ _ x=>x) _ _ H
     rw [Sem.wp_bind'] at H ⊢
     refine Sem.wp_mono _ _ _ (fun cls p7 s7 H=>?_) (fun _ _ _ x=>x) _ _ H
     rw [Sem.wp_bind']
     refine A23 h ?_
     show Sem.wp M Γ (loadName env ar.arg >>= _) _ _ _ _
     rw [Sem.wp_bind'] at H ⊢
     refine Sem.wp_mono _ _ _ (fun self p8 s8 H=>?_) (fun _ _ _ x=>x) _ _ H
     rw [Sem.wp_bind'] at H ⊢
     refine Sem.wp_mono _ _ _ (fun b p9 s9 H=>?_) (fun _ _ _ x=>x) _ _ H
     split at H
     ·rename_i hb
      rw [if_pos hb];exact H
     ·exact absurd H Lb
   ·exact absurd H Lb
  ·exact absurd H Lb
end
abbrev Il(p0 p1:Pos)(nm:Str)(ap cp:Pos):Expr:=.Call (.Attribute (Si p0 p1) nm ap) [] [] cp
noncomputable def A1o(f cd:Addr)(p0 p1:Pos)(nm:Str)(ap cp:Pos)(env:Env):Sem Value:=
 Rw f cd p1 env >>= fun ov=>standAt ap.atName >>= fun _=>methodCall (Si p0 p1) nm ap cp env ov 0 [] []
noncomputable def A36(f cd:Addr)(p0 p1:Pos)(nm:Str)(ap cp rp:Pos)(env:Env):Sem Flow:=
 standAt rp >>= fun _=>A1o f cd p0 p1 nm ap cp env >>= fun v=>pure (.ret v)
noncomputable def A5z(f cd:Addr)(p0 p1:Pos)(nm:Str)(ap cp rp:Pos)(env:Env):Sem Flow:=
 standAt rp >>= fun _=>A1o f cd p0 p1 nm ap cp env >>= fun v=>dropValue (Il p0 p1 nm ap cp) rp v
noncomputable def fnT(x:Sem Flow)(env:Env):Sem PySem.Fin:=point >>= fun _=>x.onRaise (leaving env) >>= fun fl=>match fl with
 |.ret v=>ret v
 |_=>ret .none
noncomputable def On(s1:Stmt)(x:Sem Flow)(env:Env):Sem Flow:=exec s1 env >>= fun fl=>match fl with
 |.next=>x
 |f=>pure f
noncomputable def cntT(f cd:Addr)(p0 p1:Pos)(nm:Str)(ap cp rp:Pos)(env:Env):Sem PySem.Fin:=fnT (A36 f cd p0 p1 nm ap cp rp env) env
noncomputable def popT(s1:Stmt)(f cd:Addr)(p0 p1:Pos)(nm:Str)(ap cp rp:Pos)(env:Env):Sem PySem.Fin:=fnT (On s1 (A36 f cd p0 p1 nm ap cp rp env) env) env
noncomputable def iniT(s1:Stmt)(f cd:Addr)(p0 p1:Pos)(nm:Str)(ap cp rp:Pos)(env:Env):Sem PySem.Fin:=fnT (On s1 (A5z f cd p0 p1 nm ap cp rp env) env) env
noncomputable def Le(M:Model)(Γ:PySem.Ctx){α:Type}(t t':Sem α):Prop:=∀Q E p s,Sem.wp M Γ t Q E p s→Sem.wp M Γ t' Q E p s
section
variable {M:Model}{Γ:PySem.Ctx}{α β:Type}
theorem Qy{α β γ:Type}:∀(x:Sem α) (f:α→Sem β) (g:β→Sem γ),(x.bind f).bind g=x.bind fun a=>(f a).bind g:=by
 intro x f g
 exact Sem.bind_assoc x f g
theorem Le.refl(t:Sem α):Le M Γ t t:=fun _ _ _ _ h=>h
theorem Le.bind{t t':Sem α}{f f':α→Sem β}(h:Le M Γ t t') (hf:∀a,Le M Γ (f a) (f' a)):Le M Γ (t >>= f) (t' >>= f'):=by
 intro Q E p s H
 rw [Sem.wp_bind'] at H ⊢
 exact h _ _ _ _ (Sem.wp_mono _ _ _ (fun a p1 s1 H=>hf a _ _ _ _ H) (fun _ _ _ x=>x) _ _ H)
theorem Le.onRaise{t t':Sem α}{k:Value→Sem Unit}(h:Le M Γ t t'):Le M Γ (t.onRaise k) (t'.onRaise k):=by
 intro Q E p s H
 rw [Sem.wp_onRaise] at H ⊢
 exact h _ _ _ _ H
theorem Le.trans{t t' t'':Sem α}(h:Le M Γ t t')(h':Le M Γ t' t''):Le M Γ t t'':=fun Q E p s H=>h' _ _ _ _ (h _ _ _ _ H)
theorem Le.of_eq{t t':Sem α}(h:t=t'):Le M Γ t t':=h▸Le.refl _
theorem W5{body:List Stmt}{env:Env}{x:Sem Flow} (h:Le M Γ x (execs body env)):Le M Γ (fnT x env) (denote table (.func body env)):=
 Le.bind (Le.refl _) fun _=>Le.bind h.onRaise fun fl=>Le.of_eq (by cases fl<;>rfl)
theorem Oq(st:Stmt)(rest:List Stmt)(env:Env):execs (st::rest) env=exec st env >>= fun fl=>match fl with | .next=>execs rest env | f=>pure f:=rfl
theorem Pv{s1:Stmt}{rest:List Stmt}{env:Env}{x:Sem Flow} (h:Le M Γ x (execs rest env)):Le M Γ (On s1 x env) (execs (s1::rest) env):=by
 rw [Oq]
 refine Le.bind (Le.refl _) fun fl=>?_
 cases fl
 ·exact h
 all_goals exact Le.of_eq rfl
theorem Yw(X:Expr)(rp:Pos)(env:Env):execs [.Return (some X) rp] env=standAt rp >>= fun _=>eval X env >>= fun v=>pure (.ret v):=by
 rw [Oq,exec_Return_some]
 generalize eval X env=y
 show (Sem.at rp fun _=>((y.bind fun v=>.pure (Flow.ret v)).bind _))=Sem.at rp fun _=>(y.bind fun v=>.pure (Flow.ret v))
 congr 1
 funext _
 rw [Qy]
 rfl
theorem Wr(X:Expr)(rp:Pos)(env:Env)(hi:interactive env=false)(hs:swapsWith X none rp.line env=pure false):
  execs [.Expr X rp] env=(standAt rp >>= fun _=>eval X env >>= fun v=>dropValue X rp v) >>= fun fl=>match fl with | .next=>execs [] env | f=>pure f:=by
 rw [Oq,exec_Expr env X rp hi hs]
theorem Yb(x:Sem Flow){env:Env}:Le M Γ x (x >>= fun fl=>match fl with | .next=>execs [] env | f=>pure f):=by
 intro Q E p s H
 rw [Sem.wp_bind']
 refine Sem.wp_mono _ _ _ (fun fl p1 s1 H=>?_) (fun _ _ _ x=>x) _ _ H
 cases fl with
 |next=>exact H
 |_=>exact H
variable {b:List Stmt}{e env:Env}(h:Γ.code=.func b e){f cd:Addr}(hf:env.func=some f)(hc:env.code=.ref cd)(hks:env.kindOf "super"=some .globalImplicit)(hkc:env.kindOf "__class__"=some .free)
 {nm:Str} (hat:(nm == ("__class__":Str))=false) {p0 p1 ap cp rp:Pos}
include h hf hc hks hkc hat
theorem A0f:Le M Γ (A1o f cd p0 p1 nm ap cp env) (eval (Il p0 p1 nm ap cp) env):=by
 show Le M Γ _ (_ >>= _)
 exact Le.bind (fun Q E p s H=>A11 h hf hc hks hkc hat H) fun ov=>Le.bind (Le.refl _) fun _=>Le.refl _
theorem Yi:Le M Γ (A36 f cd p0 p1 nm ap cp rp env) (execs [.Return (some (Il p0 p1 nm ap cp)) rp] env):=by
 have H:=A0f (M:=M) (p0:=p0) (p1:=p1) (ap:=ap) (cp:=cp) h hf hc hks hkc hat
 refine Le.trans ?_ (Le.of_eq (Yw _ rp env).symm)
 exact Le.bind (Le.refl _) fun _=>Le.bind H fun _=>Le.refl _
theorem A7d(hi:interactive env=false):Le M Γ (A5z f cd p0 p1 nm ap cp rp env) (execs [.Expr (Il p0 p1 nm ap cp) rp] env):=by
 have H:=A0f (M:=M) (p0:=p0) (p1:=p1) (ap:=ap) (cp:=cp) h hf hc hks hkc hat
 have e:=Wr (Il p0 p1 nm ap cp) rp env hi rfl
 refine Le.trans ?_ (Le.of_eq e.symm)
 refine Le.trans ?_ (Yb _)
 exact Le.bind (Le.refl _) fun _=>Le.bind H fun _=>Le.refl _
end
lay_quick cntT popT iniT
theorem cntT_e:cntT=cntT:=rfl
name_quick cntF for cntT by cntT_e
theorem popT_e:popT=popT:=rfl
name_quick popF for popT by popT_e
theorem iniT_e:iniT=iniT:=rfl
name_quick iniF for iniT by iniT_e
theorem Lu{z:Zed}{c:Code} {below:List (Code×Pos)} {l l':LO} {n t g n' t' g':Nat} {res:Result} (u:Sem PySem.Fin) (N orc:Nat) (js:List Nat) {L:List Et} (hL:ObAll z L) (hjs:js.Nodup)
  (hu:Le (model z.prog z.w) (Cx c below) u (denote table c)) (hrun:∀p,Fb (Mm z below N u c p l n t g orc (Go L)) js (.res res) l' n' t' g' L):Does z c below l n t g res l' n' t' g':=by
 have:=Qc (ps:=[]) (ps₁:=[]) N orc js hjs hu fun p=>Nn hL (hrun p)
 rwa [List.append_nil,List.append_nil] at this
end
structure Slot where
 b:List Stmt
 o:List Stmt
 e:Env
 t:Expr
 u:List Comprehension
 sc:Scope
 v:Value
 a:Value
 d:Nat
 q:Pos
 q2:Pos
noncomputable abbrev Kd:=Nat×Option (String×Args)
def N5(s:Slot):Kd→Code
 |(1,none)=>.func s.b s.e
 |(2,none)=>.forLoop s.t s.v s.b s.o s.e
 |(3,none)=>.whileLoop s.t s.b s.o s.e
 |(4,none)=>.compLoop (.ListComp s.t s.u s.sc s.q2) s.d s.v s.a s.e
 |(5,none)=>.compStart (.ListComp s.t s.u s.sc s.q2) s.d s.v s.a s.e
 |(6,none)=>.compLoop (.GeneratorExp s.t s.u s.sc s.q2) s.d s.v s.a s.e
 |(11,none)=>.compStart (.GeneratorExp s.t s.u s.sc s.q2) s.d s.v s.a s.e
 |(7,none)=>.block s.b s.e
 |(8,none)=>.expr s.t s.e
 |(9,some (id,a))=>.builtin id a
 |_=>.call .none {}
def Ab:List Kd→(Nat→Slot)→Nat→List (Code×Pos)
 |[],_,_=>[]
 |k::ks,S,i=>(N5 (S i) k,(S i).q)::Ab ks S (i+1)
def Fc:List Kd→Bool
 |[]=>true
 |(1,none)::l |(2,none)::l |(3,none)::l |(4,none)::l |(5,none)::l |(6,none)::l |(7,none)::l |(8,none)::l |(11,none)::l |(9,some _)::l=>Fc l
 |_=>false
theorem To:∀(ks:List Kd) (S S':Nat→Slot) (i:Nat),(∀j,i≤j→S j=S' j)→Ab ks S i=Ab ks S' i:=by
 intro ks;induction ks with
 |nil=>
  intro _ _ _ _
  exact rfl
 |cons k ks hsI=>
  intro S S' i h
  show _::_=_::_
  rw [h i (Nat.le_refl _),hsI S S' (i+1) fun j hj=>h j (by exact C6 hj)]
theorem A9c(c:Code)(q:Pos){k:Kd}{l:List Kd}(hk:kind c=k) (g:Fc (k::l)=true):Fc l=true∧∃s:Slot,s.q=q∧N5 s k=c:=by
 subst hk
 cases c with
 |func b e=>exact ⟨g,⟨b,[],e,default,[],default,default,default,0,q,default⟩,rfl,rfl⟩
 |forLoop t v b o e=>exact ⟨g,⟨b,o,e,t,[],default,v,default,0,q,default⟩,rfl,rfl⟩
 |whileLoop t b o e=>exact ⟨g,⟨b,o,e,t,[],default,default,default,0,q,default⟩,rfl,rfl⟩
 |compLoop x d v a e=>
  cases x with
  |ListComp t u sc q2=>exact ⟨g,⟨[],[],e,t,u,sc,v,a,d,q,q2⟩,rfl,rfl⟩
  |GeneratorExp t u sc q2=>exact ⟨g,⟨[],[],e,t,u,sc,v,a,d,q,q2⟩,rfl,rfl⟩
  |_=>cases g
 |compStart x d v a e=>
  cases x with
  |ListComp t u sc q2=>exact ⟨g,⟨[],[],e,t,u,sc,v,a,d,q,q2⟩,rfl,rfl⟩
  |GeneratorExp t u sc q2=>exact ⟨g,⟨[],[],e,t,u,sc,v,a,d,q,q2⟩,rfl,rfl⟩
  |_=>cases g
 |block b e=>exact ⟨g,⟨b,[],e,default,[],default,default,default,0,q,default⟩,rfl,rfl⟩
 |expr t e=>exact ⟨g,⟨[],[],e,t,[],default,default,default,0,q,default⟩,rfl,rfl⟩
 |builtin id a=>exact ⟨g,⟨[],[],default,default,[],default,default,default,0,q,default⟩,rfl,rfl⟩
 |_=>cases g
theorem Ht:∀(bl:List (Code×Pos)) (ks:List Kd) (i:Nat),Gn bl=ks→Fc ks=true→∃S,bl=Ab ks S i
 |[],ks,i,h,_=>by
  cases h
  exact ⟨fun _=>⟨[],[],default,default,[],default,default,default,0,default,default⟩,rfl⟩
 |(c,q)::bl,[],i,h,_=>by cases h
 |(c,q)::bl,k::ks,i,h,g=>by
  have h':kind c::Gn bl=k::ks:=h
  refine Af fun Gz hGz=>?_
  obtain ⟨hk,h2⟩:=List.cons.inj h'
  obtain ⟨g',s,rfl,hs⟩:=A9c c q hk g
  obtain ⟨S,rfl⟩:=Ht bl ks (i+1) h2 g'
  refine hGz ?_
  refine ⟨fun j=>if j=i then s else S j,?_⟩
  show _=(N5 ((fun j=>if j=i then s else S j) i) k,_)::_
  dsimp only
  rw [if_pos rfl,hs]
  congr 1
  exact To ks S _ (i+1) fun j hj=>by rw [if_neg (by lia)]
theorem A21{z:Zed}{c:Code}{ks:List Kd}{l:LO}{n t g:Nat}{res:Result}{js:List Nat}{os:List Obj}{news:LO}{nb m tb i gb gi:Nat}
  (h:∀S,Does z c (Ab ks S 0) l n t g res ((l.map (·.1)).zip os++news) (nb+m) (tb+i) (gb+gi)) (hk:Fc ks=true:=by rfl) (hj:js.Nodup:=by decide) (hl:os.length=js.length:=by rfl) (hn:∀u∈news,n≤u.1):
  Qq z (c,ks,l,n,t,g,⟨res,js,os,news,nb,m,tb,i,gb,gi⟩):=
 A8f (fun bl hb=>by obtain ⟨S,rfl⟩:=Ht bl ks 0 hb hk;exact h S) hj hl hn
noncomputable def C9(f:FuncData)(a L:Addr):Env:={scope:=f.scope,locals:=L,globals:=f.globals,cells:=f.closure,qual:=f.qualname++".<locals>.",func:=some a,code:=f.code,frame:=some L,builtins:=f.builtins}
noncomputable def Bi(f:FuncData):List Stmt:=match f.body with
 |.stmts b=>b
 |_=>[]
def Cw(f:FuncData)(a L:Addr):Code:=.func (Bi f) (C9 f a L)
noncomputable def Fe(o:Obj):FuncData:=match o.data with
 |.func f=>f
 |_=>default
noncomputable def Aj(d:Nat)(vs:Array Value)(e:Nat):Obj:={cls:=.ref 271,dict:=some d,data:=.seq vs e}
noncomputable def Ax(vs:Array Value)(e:Nat):Obj:={cls:=.type "list",data:=.seq vs e}
noncomputable def Cg(vs:Array Value):Obj:={cls:=.type "tuple",data:=.seq vs}
noncomputable def E3(c:String)(vs:Array Value):Obj:={cls:=.type c,data:=.fields vs}
noncomputable def kv(P:Params)(s:String)(tk:Nat)(v:Value):DictEntry:=⟨PyData.keyHash P (Str.ofString s),.str (Str.ofString s) tk,v⟩
noncomputable def An(es:Array DictEntry)(e:Nat):Obj:={cls:=.type "dict",data:=.dict es e}
noncomputable def B4(es:Array DictEntry)(e:Nat):Obj:={cls:=.type "frame",data:=.dict es e}
noncomputable def Az(d:Nat):Obj:={cls:=.ref 187,dict:=some d,data:=.plain}
noncomputable def ch(x t:Nat):Value:=.str ⟨#[x]⟩ t
noncomputable def De:Obj:={cls:=.none,data:=.fields #[]}
noncomputable abbrev Z(w:World)(os:OsState)(b1 b2:Bool):Zed:=zed (wf w b1 b2) os
noncomputable abbrev kF:Kd:=(1,none)
noncomputable abbrev kL:Kd:=(2,none)
noncomputable abbrev kW:Kd:=(3,none)
noncomputable abbrev kC:Kd:=(4,none)
noncomputable abbrev kE:Kd:=(8,none)
noncomputable abbrev kB:Kd:=(9,some ("claim.caller",{}))
variable {w:World}{os:OsState}{S:Nat→Slot}{res:Result}{l':LO}{n' t' g':Nat}
def Qp(P:Params):FuncData:=Fe (Wy P)
inductive RK
 |d
 |l
 |r
abbrev Do:RK→List Kd
 |.d=>[kF,kB]
 |.l=>[kE,kW,kF,kF,kB]
 |.r=>[kF,kE,kW,kF,kF,kB]
inductive SK
 |a
 |n
 |o
abbrev C7(R:RK):SK→List Kd
 |.a=>kF::kL::kL::kF::Do R
 |.n=>kF::kL::kF::Do R
 |.o=>kF::kF::kL::kF::Do R
theorem Fj(R:RK):∀K,Fc (C7 R K)=true:=by cases R<;>exact fun K=>match K with | .a=>rfl | .n=>rfl | .o=>rfl
inductive PK
 |c
 |p
abbrev N4(R:RK):PK→List Kd
 |.c=>kL::C7 R .a
 |.p=>kF::C7 R .n
theorem Ux(R:RK):∀K,Fc (N4 R K)=true:=by cases R<;>exact fun K=>match K with | .c=>rfl | .p=>rfl
section
theorem Afz(w:World)(P:Params)(L:Addr) (bl:List (Code×Pos)):Le (model pw w) (Cx (Cw (Qp P) 268 L) bl) (PySem.W.Fast.cntF 268 267 ⟨209,15,209,20⟩ ⟨209,15,209,22⟩ "__len__" ⟨209,15,209,30⟩ ⟨209,15,209,32⟩ ⟨209,8,209,32⟩ (C9 (Qp P) 268 L)) (denote table (Cw (Qp P) 268 L)):=by
 rw [← PySem.W.Fast.cntF_eq]
 have hb:Bi (Qp P)=[.Return (some (Il ⟨209,15,209,20⟩ ⟨209,15,209,22⟩ "__len__" ⟨209,15,209,30⟩ ⟨209,15,209,32⟩)) ⟨209,8,209,32⟩]:=by kernel_rfl
 unfold cntT Cw
 rw [hb]
 refine W5 ?_
 exact Yi rfl rfl (by kernel_rfl) (by kernel_rfl) (by kernel_rfl) (by kernel_rfl)
section
variable (R:RK)(K:PK)(w:World)(os:OsState)(b1 b2:Bool)(S:Nat→Slot)(n t g C CD ep:Nat)(vs:Array Value)
theorem Abt:Does (Z w os b1 b2) (.call (.ref 268) ⟨[.ref (C+310)],[]⟩) (Ab (N4 R K) S 0) [(C+310,Aj (CD+310) vs ep)] (n+310) (t+598) g
  (.ok (.ret (.int vs.size (t+600)))) [(C+310,Aj (CD+310) vs ep)] (n+313) (t+601) g:=by
 have A:∀p,Fb (Mg (Z w os b1 b2) (Ab (N4 R K) S 0) 9 (.call (.ref 268) ⟨[.ref (C+310)],[]⟩) p [(C+310,Aj (CD+310) vs ep)] (n+310) (t+598) g 0x1060c081 (Go [])) [0,1] (.again (Cw (Qp w.params) 268 (n+310)))
   [(C+310,Aj (CD+310) vs ep),(n+310,B4 #[kv w.params "self" (t+598) (.ref (C+310))] 1)] (n+311) (t+599) g []:=by
  intro p
  cases R<;>cases K<;>kernel_rfl
 have B:∀p,Fb (Mm (Z w os b1 b2) (Ab (N4 R K) S 0) 64 (PySem.W.Fast.cntF 268 267 ⟨209,15,209,20⟩ ⟨209,15,209,22⟩ "__len__" ⟨209,15,209,30⟩ ⟨209,15,209,32⟩ ⟨209,8,209,32⟩ (C9 (Qp w.params) 268 (n+310))) (Cw (Qp w.params) 268 (n+310)) p
   [(C+310,Aj (CD+310) vs ep),(n+310,B4 #[kv w.params "self" (t+598) (.ref (C+310))] 1)] (n+311) (t+599) g 0x1000a002810400001021020400100040810204081020104080800800204000008000041810204081 (Go [])) [0] (.res (.ok (.ret (.int vs.size (t+600)))))
   [(C+310,Aj (CD+310) vs ep)] (n+313) (t+601) g []:=by
  intro p
  cases R<;>cases K<;>kernel_rfl
 exact Ko 9 0x1060c081 [0,1] .nil (c₂:=Cw (Qp w.params) 268 (n+310)) (Lu _ 64 _ [0] .nil (by decide) (Afz (wf w b1 b2) w.params (n+310) _) B) (by kernel_rfl) (by decide) A
end
end
section
noncomputable def Bu(t:Nat):Value:=.str (Str.ofString " ") t
def L6(P:Params):FuncData:=Fe (V1 P)
theorem Afv(w:World)(P:Params)(L:Addr) (bl:List (Code×Pos)):Le (model pw w) (Cx (Cw (L6 P) 208 L) bl) (PySem.W.Fast.iniF (As (Bi (L6 P)) 0) 208 207 ⟨178,8,178,13⟩ ⟨178,8,178,15⟩ "__init__" ⟨178,8,178,24⟩ ⟨178,8,178,26⟩ ⟨178,8,178,26⟩ (C9 (L6 P) 208 L)) (denote table (Cw (L6 P) 208 L)):=by
 rw [← PySem.W.Fast.iniF_eq]
 have hb:Bi (L6 P)=[As (Bi (L6 P)) 0,.Expr (Il ⟨178,8,178,13⟩ ⟨178,8,178,15⟩ "__init__" ⟨178,8,178,24⟩ ⟨178,8,178,26⟩) ⟨178,8,178,26⟩]:=by kernel_rfl
 unfold iniT Cw
 refine W5 ?_
 generalize As (Bi (L6 P)) 0=st at hb ⊢
 refine Le.trans (Pv ?_) (Le.of_eq (congrArg (fun b=>execs b _) hb.symm))
 exact A7d rfl rfl (by kernel_rfl) (by kernel_rfl) (by kernel_rfl) (by kernel_rfl) (by kernel_rfl)
def B9(P:Params)(tk1 tk2:Nat):Obj:={cls:=.type "dict",data:=.dict #[kv P "_initial_size" tk1 (.int 0 tk2)] 1}
structure MK where
 M:Nat
 MD:Nat
 L:Nat
 C:Nat
 CD:Nat
 k1:Nat
 k2:Nat
 k3:Nat
 k4:Nat
 k5:Nat
 k6:Nat
 k8:Nat
 tm:Nat
 t2:Nat
 t4:Nat
 ki:Nat
 mx:Int
def By(P:Params)(m:MK):Obj:=An #[kv P "_maxlen" m.k1 (.int m.mx m.tm),kv P "_continuation_ws" m.k2 (Bu m.t2),kv P "_continuation_ws_len" m.k3 (.int 1 m.k8),kv P "_splitchars" m.k4 (Bu m.t4),kv P "_lines" m.k5 (.ref (m.L+310)),kv P "_current_line" m.k6 (.ref (m.C+310))] 6
structure Prt where
 x:Nat→Nat
 i:Nat→Nat
 s:Nat→Nat
 y:Nat→Nat
def Prt.tup(q:Prt)(j:Nat):Obj:=Ap (Bu (q.s j)) (ch (q.i j) (q.y j))
noncomputable def Prt.refs(q:Prt)(p:Nat):Array Value:=((List.range p).map fun j=>Value.ref (q.x j+310)).toArray
noncomputable def Prt.obs(q:Prt)(p:Nat):LO:=(List.range p).map fun j=>(q.x j+310,q.tup j)
def Bv(P:Params)(C CD ep ki ti:Nat)(q:Prt)(p:Nat):LO:=(C+310,Aj (CD+310) (q.refs p) ep)::(CD+310,B9 P ki ti)::q.obs p
structure CoK where
 a1:Nat
 a2:Nat
 t1:Nat
 t2:Nat
 t3:Nat
 t4:Nat
 t5:Int
def A6q(q:String)(line:Int)(k:CoK):Obj:=E3 "code" #[.str (Str.ofString "<genexpr>") k.t1,.str (Str.ofString q) k.t2,.str (Str.ofString "/claim/cut.py") k.t3,.int line 0,.int 1 0,.int 0 0,.int 0 0,.int 51 0,.ref (k.a1+310),.bool true,.int 181 0,.ref (k.a2+310),.none,.none,.none,.none,.int k.t5 0,.int line 0,.str (Str.ofString "/claim/cut.py") k.t4]
noncomputable def G6(line col:Int)(c:Nat):Obj:={cls:=.none,data:=.fields #[.int line 0,.int col 0,.ref c]}
def R9(k:CoK):Obj:=A6q "_Accumulator.__len__.<locals>.<genexpr>" 194 k
def Hq(k:CoK):Obj:=A6q "_Accumulator.__str__.<locals>.<genexpr>" 197 k
def Ee(c:Nat)(k:CoK):LO:=[(233,G6 194 19 (c+310)),(c+310,R9 k)]
def F9(c:Nat)(k:CoK):LO:=[(240,G6 197 32 (c+310)),(c+310,Hq k)]
section
variable (R:RK)(w:World)(os:OsState)(b1 b2:Bool)(S:Nat→Slot)(n t g C CD:Nat)(mx:Int)(q1 q2 q3 q4:Nat)
abbrev ksI(R:RK)(mx:Int)(q1 q2 q3 q4:Nat):List Kd:=(9,some ("type.__call__",⟨[.ref 271,.int 0 q1],[]⟩))::kF::(9,some ("type.__call__",⟨[.ref 187,.int 0 q1,.int mx q2,Bu q3,Bu q4],[]⟩))::kF::Do R
theorem Adw:Fc (ksI R mx q1 q2 q3 q4)=true:=by cases R<;>rfl
theorem A2b:Does (Z w os b1 b2) (.call (.ref 208) ⟨[.ref (C+310),.int 0 q1],[]⟩) (Ab (ksI R mx q1 q2 q3 q4) S 0) [(C+310,Aj (CD+310) #[] 0),(CD+310,An #[] 0)] (n+310) (t+598) g
  (.ok (.ret .none)) [(C+310,Aj (CD+310) #[] 0),(CD+310,B9 w.params (t+601) q1)] (n+313) (t+603) g:=by
 have A:∀p,Fb (Mg (Z w os b1 b2) (Ab (ksI R mx q1 q2 q3 q4) S 0) 14 (.call (.ref 208) ⟨[.ref (C+310),.int 0 q1],[]⟩) p [(C+310,Aj (CD+310) #[] 0),(CD+310,An #[] 0)] (n+310) (t+598) g 0x2102040804081 (Go [])) [0,1,2] (.again (Cw (L6 w.params) 208 (n+310)))
   [(C+310,Aj (CD+310) #[] 0),(CD+310,An #[] 0),(n+310,B4 #[kv w.params "self" (t+598) (.ref (C+310)),kv w.params "initial_size" (t+599) (.int 0 q1)] 2)] (n+311) (t+600) g []:=by
  intro p
  cases R<;>kernel_rfl
 have B:∀p,Fb (Mm (Z w os b1 b2) (Ab (ksI R mx q1 q2 q3 q4) S 0) 95 (PySem.W.Fast.iniF (As (Bi (L6 w.params)) 0) 208 207 ⟨178,8,178,13⟩ ⟨178,8,178,15⟩ "__init__" ⟨178,8,178,24⟩ ⟨178,8,178,26⟩ ⟨178,8,178,26⟩ (C9 (L6 w.params) 208 (n+310))) (Cw (L6 w.params) 208 (n+310)) p
   [(C+310,Aj (CD+310) #[] 0),(CD+310,An #[] 0),(n+310,B4 #[kv w.params "self" (t+598) (.ref (C+310)),kv w.params "initial_size" (t+599) (.int 0 q1)] 2)] (n+311) (t+600) g 0x1020408006001808200000810a142800a002850a142850a1408204040050014280000400002100810204083060c0820204082020800104000810208204 (Go [])) [0,1] (.res (.ok (.ret .none)))
   [(C+310,Aj (CD+310) #[] 0),(CD+310,B9 w.params (t+601) q1)] (n+313) (t+603) g []:=by
  intro p
  cases R<;>kernel_rfl
 exact Ko 14 _ [0,1,2] .nil (c₂:=Cw (L6 w.params) 208 (n+310)) (Lu _ 95 _ [0,1] .nil (by decide) (Afv (wf w b1 b2) w.params (n+310) _) B) (by kernel_rfl) (by decide) A
noncomputable abbrev Ade(n t:Nat)(mx:Int)(q2 q3 q4:Nat):MK:=⟨n+1,n,n+3,n+5,n+4,t+604,t+606,t+610,t+612,t+614,t+621,t+608,q2,q3,q4,t+618,mx⟩
theorem Wg:Does (Z w os b1 b2) (.call (.ref 187) ⟨[.int 0 q1,.int mx q2,Bu q3,Bu q4],[]⟩) (Ab (kF::Do R) S 0) [] (n+310) (t+598) g
  (.ok (.ret (.ref (n+311)))) [(n+311,Az (n+310)),(n+310,By w.params (Ade n t mx q2 q3 q4)),(n+313,Ax #[] 0),(n+315,Aj (n+314) #[] 0),(n+314,B9 w.params (t+618) q1)] (n+319) (t+622) g:=
 Gw 299 0x8102020c081020c08300041800204083080408102043810e04081000408102040810004081000400102000810804102040418102041810600083000408106101020404181020418106000830004081061020204080830204083020c0010600081020c200000000402041020404181020418106000830004081061020204080830204083020c0010600081020c20400042040810204081020402040010204083020c0810204081020408102040800204081020408002040800200081
  [1,0,3,5,4] (.cons (A21 (js:=[5,4]) (os:=[Aj (n+314) #[] 0,B9 w.params (t+618) q1]) (news:=[]) (nb:=n+310) (m:=9) (tb:=t+598) (i:=22) (gb:=g) (gi:=0) (fun S=>A2b R w os b1 b2 S (n+6) (t+17) g (n+5) (n+4) mx q1 q2 q3 q4) (Adw R mx q1 q2 q3 q4) (hn:=by simp)) .nil)
  (by decide) (fun p=>by cases R<;>kernel_rfl)
end
end
section
noncomputable def Sb(Γ:PySem.Ctx):Around:={handled:=Γ.handled,depth:=frameCount Γ.below,frames:=none,guards:=none,units:=unitsOf Γ.below}
theorem Jd(Γ:PySem.Ctx):Γ.Below (Sb Γ):=⟨rfl,Nat.le_refl _,fun _ h=>(nomatch h),fun _ h=>(nomatch h),Nat.le_refl _⟩
theorem Gj{M:Model}{c:Code} {below:List (Code×Pos)} {R:Result→Shared→Prop} {p:Pos} {s:Shared} (h:∀A,codeAny M A c R s):wpCode M (Cx c below) R p s:=
 h _ _ p rfl (Jd _)
theorem Al{prog:Program}{w:World}{A:Around}{s:Shared}{T:String}{name:Str}{id:String}{B:Builtin}{self:Value}{rest:List Value}{Sp:PySem.Spec}{R:Result→Shared→Prop}(slot:PySem.Slot T name id)(hT:s.TypeIs self T)
  (entry:entryFor table id=some B) (args:argsOk id ⟨self::rest,[]⟩) (g:Meets (B ⟨self::rest,[]⟩) Sp) (h:Sp A R s):codeAny (model prog w) A (.call (.builtin id) ⟨self::rest,[]⟩) R s:=
 codeAny_call_builtin slot.plain entry (slot.check _ _ _ _ _ _ _ _ hT args (g prog w A R s h))
section
variable {prog:Program}{w:World}{A:Around}{s:Shared}{R:Result→Shared→Prop}{a b:Int}{t u:Nat}
theorem Ajn (h:R (.ok (.ret (.bool (decide (a > b))))) {s with toks:=s.toks+0}):codeAny (model prog w) A (.call (.builtin "int.__gt__") ⟨[.int a t,.int b u],[]⟩) R s:=
 Al F.slot_int_gt (typeIs_int s a t) F.entry_int_gt (F.args_int_gt_2 _ _) (gives_int_gt a b t u).meets h
theorem Ajj (h:R (.ok (.ret (.bool (decide (a < b))))) {s with toks:=s.toks+0}):codeAny (model prog w) A (.call (.builtin "int.__lt__") ⟨[.int a t,.int b u],[]⟩) R s:=
 Al F.slot_int_lt (typeIs_int s a t) F.entry_int_lt (F.args_int_lt_2 _ _) (gives_int_lt a b t u).meets h
theorem Ajo (h:R (.ok (.ret (.bool (a == b)))) {s with toks:=s.toks+0}):codeAny (model prog w) A (.call (.builtin "int.__eq__") ⟨[.int a t,.int b u],[]⟩) R s:=
 Al F.slot_int_eq (typeIs_int s a t) F.entry_int_eq (F.args_int_eq_2 _ _) (gives_int_eq a b t u).meets h
theorem Agq (h:R (.ok (.ret (.int (a+b) s.toks))) {s with toks:=s.toks+1}):codeAny (model prog w) A (.call (.builtin "int.__add__") ⟨[.int a t,.int b u],[]⟩) R s:=
 Al F.slot_int_add (typeIs_int s a t) F.entry_int_add (F.args_int_add_2 _ _) (gives_int_add a b t u).meets h
theorem Ag7 (h:R (.ok (.ret (.int (a - b) s.toks))) {s with toks:=s.toks+1}):codeAny (model prog w) A (.call (.builtin "int.__sub__") ⟨[.int a t,.int b u],[]⟩) R s:=
 Al F.slot_int_sub (typeIs_int s a t) F.entry_int_sub (F.args_int_sub_2 _ _) (gives_int_sub a b t u).meets h
end
theorem No{z:Zed}{c:Code} {bl:List (Code×Pos)} {a:Addr} {o:Obj} {f:Obj→Obj} {n t g:Nat} {r:Result} {d:Nat} (hf:(f o).isFreed=false)
  (h:∀A s R,s.heap.get? a=some o→s.toks=t→R r {s with heap:=s.heap.update a f,toks:=s.toks+d}→codeAny (model z.prog z.w) A c R s):Does z c bl [(a,o)] n t g r [(a,f o)] n (t+d) g:=by
 intro s p S
 have ha:s.heap.get? a=some o:=S.knows _ (.head _)
 have hs:Heap.SameBut a s.heap (s.heap.update a f):=Heap.SameBut.update ..
 have ge:(s.heap.update a f).get? a=some (f o):=by
  first | exact Heap.get?_update_self f ha hf | exact Heap.get?_update_self _ ha hf
 have fit:=S.fit a (.head _)
 refine Gj fun A=>h A s _ ha S.ht ⟨rfl,⟨S.ok,fun q hq=>?_,S.nodup,S.fit,fun b o' e q=>?_,S.low,S.bare,S.os,?_,?_,S.hg⟩,⟨fun b o' e m=>?_,fun _ _=>rfl,?_,Nat.le_refl _⟩⟩
 ·rcases List.mem_singleton.mp hq with rfl;exact ge
 ·refine (hs.2 b fun w=>?_).trans (S.stat b o' e q)
  subst w
  rcases fit with w | w
  ·rw [w] at q;cases q
  ·have:=S.ok.low _ _ e;exact Hn w this
 ·show (s.heap.update a f).objs.size=n;rw [hs.1];exact S.hn
 ·show s.toks+d=t+d;rw [S.ht]
 ·exact (hs.2 b fun w=>m (w▸.head _)).trans e
 ·show s.heap.objs.size≤(s.heap.update a f).objs.size;rw [hs.1];exact Nat.le_refl _
noncomputable def Aa(vs:Array Value)(e:Nat):Obj:={cls:=.type "list",data:=.seq vs e}
theorem Dz{z:Zed} {bl:List (Code×Pos)} {a:Addr} {vs:Array Value} {e n t g:Nat} {v:Value} (hz:vs.size≤sizeLine):
  Does z (.call (.builtin "list.append") ⟨[.ref a,v],[]⟩) bl [(a,Aa vs e)] n t g (.ok (.ret .none)) [(a,Aa (vs.push v) (e+1))] n (t+0) g:=by
 have hf:Obj.mapSeq (fun x=>x.push v) (Aa vs e)=Aa (vs.push v) (e+1):=by
  have:((vs.push v).size == vs.size)=false:=by simp
  show ({cls:=_,dict:=_,data:=.seq (vs.push v) (if ((vs.push v).size == vs.size)=true then e else e+1),slots:=_}:Obj)=_
  rw [this];rfl
 have:=No (z:=z) (c:=.call (.builtin "list.append") ⟨[.ref a,v],[]⟩) (bl:=bl) (a:=a) (o:=Aa vs e) (f:=Obj.mapSeq fun x=>x.push v) (n:=n) (t:=t) (g:=g) (r:=.ok (.ret .none)) (d:=0) (by rw [hf];rfl)
  (fun A s R ha _ hR=>Al slot_list_append ⟨_,ha,rfl⟩ entry_list_append (args_list_append _ _) (AutoListH.list_append_list_val_0 a vs e v hz) ⟨ha,hR⟩)
 rw [hf] at this
 exact this
noncomputable def Bk(x:Str)(tk:Nat)(i:Nat):Obj:={cls:=.type "str_ascii_iterator",data:=.fields #[.str x tk,.int (i:Int) 0]}
theorem Qx{a:Addr}{x:Str}{tk i c:Nat}(hx:x.cps[i]?=some c):Meets (Builtin.«str_ascii_iterator.__next__» ⟨[.ref a],[]⟩)
  (fun _ R s=>s.heap.get? a=some (Bk x tk i)∧R (.ok (.ret (.str ⟨#[c]⟩ s.toks))) {s with heap:=s.heap.update a (Obj.mapFields fun v=>v.setIfInBounds 1 (rawInt ((i:Int)+1))),toks:=s.toks+1}):=
 .of_wp fun prog w A R s h=>by
  obtain ⟨ho,h⟩:=h
  show wpAny _ _ (field (.ref a) 0 >>= _) _ _ s
  refine wpAny_bind (wpAny_field ho rfl (x:=.str x tk) rfl ?_)
  show wpAny _ _ (field (.ref a) 1 >>= _) _ _ s
  refine wpAny_bind (wpAny_field ho rfl (x:=.int i 0) rfl ?_)
  simp only [Int.toNat_natCast,hx]
  exact wpAny_bind (wpAny_setField ho rfl (by simp) (wpAny_bind (wpAny_mkStr (wpAny_pure ⟨_,rfl,h⟩))))
theorem Fw{z:Zed} {bl:List (Code×Pos)} {a:Addr} {x:Str} {tk i c n t g:Nat} (hx:x.cps[i]?=some c):
  Does z (.call (.builtin "str_ascii_iterator.__next__") ⟨[.ref a],[]⟩) bl [(a,Bk x tk i)] n t g (.ok (.ret (.str ⟨#[c]⟩ t))) [(a,Bk x tk (i+1))] n (t+1) g:=by
 have hf:Obj.mapFields (fun v=>v.setIfInBounds 1 (rawInt ((i:Int)+1))) (Bk x tk i)=Bk x tk (i+1):=by
  show ({cls:=_,dict:=_,data:=.fields (#[Value.str x tk,Value.int (i:Int) 0].setIfInBounds 1 (rawInt ((i:Int)+1))),slots:=_}:Obj)=_
  simp [Bk,rawInt]
 have:=No (z:=z) (c:=.call (.builtin "str_ascii_iterator.__next__") ⟨[.ref a],[]⟩) (bl:=bl) (a:=a) (o:=Bk x tk i) (f:=Obj.mapFields fun v=>v.setIfInBounds 1 (rawInt ((i:Int)+1))) (n:=n) (t:=t) (g:=g) (r:=.ok (.ret (.str ⟨#[c]⟩ t))) (d:=1) (by rw [hf];rfl)
  (fun A s R ha ht hR=>Al F.slot_str_ascii_iterator_next ⟨_,ha,rfl⟩ F.entry_str_ascii_iterator_next (F.args_str_ascii_iterator_next_1 _) (Qx hx) ⟨ha,by rw [ht];rw [ht] at hR;exact hR⟩)
 rw [hf] at this
 exact this
end
theorem L9{z:Zed}{c:Code} {bl:List (Code×Pos)} {a:Addr} {o:Obj} {rs:LO} {f:Obj→Obj} {n t g:Nat} {r:Result} {d:Nat} (hf:(f o).isFreed=false)
  (h:∀A s R,s.heap.get? a=some o→(∀q∈rs,s.heap.get? q.1=some q.2)→s.toks=t→R r {s with heap:=s.heap.update a f,toks:=s.toks+d}→codeAny (model z.prog z.w) A c R s):Does z c bl ((a,o)::rs) n t g r ((a,f o)::rs) n (t+d) g:=by
 intro s p S
 have ha:s.heap.get? a=some o:=S.knows _ (.head _)
 have hs:Heap.SameBut a s.heap (s.heap.update a f):=Heap.SameBut.update ..
 have ge:(s.heap.update a f).get? a=some (f o):=by
  first | exact Heap.get?_update_self f ha hf | exact Heap.get?_update_self _ ha hf
 have fit:=S.fit a (.head _)
 have nd:=List.nodup_cons.mp S.nodup
 refine Gj fun A=>h A s _ ha (fun q hq=>S.knows q (.tail _ hq)) S.ht ⟨rfl,⟨S.ok,fun q hq=>?_,S.nodup,S.fit,fun b o' e q=>?_,S.low,S.bare,S.os,?_,?_,S.hg⟩,⟨fun b o' e m=>?_,fun _ _=>rfl,?_,Nat.le_refl _⟩⟩
 ·rcases List.mem_cons.mp hq with rfl | hq
  ·exact ge
  ·exact (hs.2 _ fun w=>nd.1 (List.mem_map.mpr ⟨q,hq,w⟩)).trans (S.knows q (.tail _ hq))
 ·refine (hs.2 b fun w=>?_).trans (S.stat b o' e q)
  subst w
  rcases fit with w | w
  ·rw [w] at q;cases q
  ·have:=S.ok.low _ _ e;exact Hn w this
 ·show (s.heap.update a f).objs.size=n;rw [hs.1];exact S.hn
 ·show s.toks+d=t+d;rw [S.ht]
 ·exact (hs.2 b fun w=>m (w▸.head _)).trans e
 ·show s.heap.objs.size≤(s.heap.update a f).objs.size;rw [hs.1];exact Nat.le_refl _
noncomputable def Ad(a:Addr)(i:Nat):Obj:={cls:=.type "list_iterator",data:=.fields #[.ref a,.int (i:Int) 0]}
theorem K8{it b:Addr}{o:Obj}{vs:Array Value}{ep i:Nat}{x:Value}(hd:o.data=.seq vs ep)(hx:vs[i]?=some x):Meets (Builtin.«list_iterator.__next__» ⟨[.ref it],[]⟩)
  (fun _ R s=>s.heap.get? it=some (Ad b i)∧s.heap.get? b=some o∧R (.ok (.ret x)) {s with heap:=s.heap.update it (Obj.mapFields fun v=>v.setIfInBounds 1 (rawInt ((i:Int)+1))),toks:=s.toks+0}):=
 .of_wp fun prog w A R s h=>by
  refine Af fun Gz hGz=>?_
  obtain ⟨ho,hb,h⟩:=h
  refine hGz ?_
  show wpAny _ _ (field (.ref it) 0 >>= _) _ _ s
  refine wpAny_bind (wpAny_field ho rfl (x:=.ref b) rfl ?_)
  show wpAny _ _ (if (Value.ref b == Value.none)=true then _ else _) _ _ s
  rw [if_neg (show ¬ ((Value.ref b == Value.none)=true) from Bool.false_ne_true)]
  show wpAny _ _ (field (.ref it) 1 >>= _) _ _ s
  refine wpAny_bind (wpAny_field ho rfl (x:=.int i 0) rfl ?_)
  show wpAny _ _ (seqItems? (.ref b) >>= _) _ _ s
  refine wpAny_bind (wpAny_seqItems hb hd ?_)
  simp only [Int.toNat_natCast,hx]
  exact wpAny_bind (wpAny_setField ho rfl (by simp) (wpAny_pure ⟨x,rfl,h⟩))
theorem Bd{z:Zed} {bl:List (Code×Pos)} {it b:Addr} {o:Obj} {vs:Array Value} {ep i n t g:Nat} {x:Value} (hd:o.data=.seq vs ep) (hx:vs[i]?=some x):
  Does z (.call (.builtin "list_iterator.__next__") ⟨[.ref it],[]⟩) bl [(it,Ad b i),(b,o)] n t g (.ok (.ret x)) [(it,Ad b (i+1)),(b,o)] n (t+0) g:=by
 have hf:Obj.mapFields (fun v=>v.setIfInBounds 1 (rawInt ((i:Int)+1))) (Ad b i)=Ad b (i+1):=by
  show ({cls:=_,dict:=_,data:=.fields (#[Value.ref b,Value.int (i:Int) 0].setIfInBounds 1 (rawInt ((i:Int)+1))),slots:=_}:Obj)=_
  simp [Ad,rawInt]
 have:=L9 (z:=z) (c:=.call (.builtin "list_iterator.__next__") ⟨[.ref it],[]⟩) (bl:=bl) (a:=it) (o:=Ad b i) (rs:=[(b,o)]) (f:=Obj.mapFields fun v=>v.setIfInBounds 1 (rawInt ((i:Int)+1))) (n:=n) (t:=t) (g:=g) (r:=.ok (.ret x)) (d:=0) (by rw [hf];rfl)
  (fun A s R ha hb ht hR=>Al slot_listiter_next ⟨_,ha,rfl⟩ entry_listiter_next (args_listiter_next _) (K8 hd hx) ⟨ha,hb _ (.head _),hR⟩)
 rw [hf] at this
 exact this
noncomputable def Ar(i:Nat):Obj:={cls:=.type "list_iterator",data:=.fields #[.none,.int (i:Int) 0]}
noncomputable def At(a:Addr):Obj:={cls:=.type "StopIteration",data:=.fields #[.ref a,.none,.none,.none,.bool false,.none]}
noncomputable def Br:Obj:={cls:=.type "tuple",data:=.seq #[]}
theorem Ds{M:Model}{c:Code} {below:List (Code×Pos)} {R:Result→Shared→Prop} {p:Pos} {s:Shared} (h:codeAny M (Sb (Cx c below)) c R s):wpCode M (Cx c below) R p s:=h _ p rfl (Jd _)
theorem Py{z:Zed}{c:Code} {bl:List (Code×Pos)} {a:Addr} {o:Obj} {rs:LO} {f:Obj→Obj} {n t g:Nat} (hf:(f o).isFreed=false)
  (h:∀A s R,A.handled=none→s.heap.get? a=some o→(∀q∈rs,s.heap.get? q.1=some q.2)→s.heap.objs.size=n→R (.error (.ref (n+1))) {s with heap:=((s.heap.update a f).push Br).push (At n)}→codeAny (model z.prog z.w) A c R s):
  Does z c bl ((a,o)::rs) n t g (.error (.ref (n+1))) (((a,f o)::rs)++[(n,Br),(n+1,At n)]) (n+2) (t+0) g:=by
 intro s p S
 have ha:s.heap.get? a=some o:=S.knows _ (.head _)
 have hs:Heap.SameBut a s.heap (s.heap.update a f):=Heap.SameBut.update ..
 have ge:(s.heap.update a f).get? a=some (f o):=by
  first | exact Heap.get?_update_self f ha hf | exact Heap.get?_update_self _ ha hf
 have fit:=S.fit a (.head _)
 have nd:=List.nodup_cons.mp S.nodup
 have hn:=S.hn
 have sz:(s.heap.update a f).objs.size=n:=by rw [hs.1];exact hn
 have sz2:((s.heap.update a f).push Br).objs.size=n+1:=by rw [Heap.size_push,sz]
 have up:∀b o',(s.heap.update a f).get? b=some o'→(((s.heap.update a f).push Br).push (At n)).get? b=some o':=fun b o' e=>Heap.get?_push_of_some _ (Heap.get?_push_of_some _ e)
 have lt:∀q∈(a,o)::rs,q.1 < n:=fun q hq=>hn▸Heap.lt_size (S.knows q hq)
 refine Ds (h _ s _ rfl ha (fun q hq=>S.knows q (.tail _ hq)) hn ⟨rfl,⟨S.ok,fun q hq=>?_,?_,fun b hb=>?_,fun b o' e q=>?_,?_,S.bare,S.os,?_,S.ht,S.hg⟩,⟨fun b o' e m=>?_,fun _ _=>rfl,?_,Nat.le_refl _⟩⟩)
 ·rcases List.mem_append.mp hq with hq | hq
  ·refine up _ _ ?_
   rcases List.mem_cons.mp hq with rfl | hq
   ·exact ge
   ·exact (hs.2 _ fun w=>nd.1 (List.mem_map.mpr ⟨q,hq,w⟩)).trans (S.knows q (.tail _ hq))
  ·rcases List.mem_cons.mp hq with rfl | hq
   ·refine Heap.get?_push_of_some _ ?_
    have:=Heap.get?_push_size (s.heap.update a f) (o:=Br) rfl
    rw [sz] at this
    exact this
   ·rcases List.mem_singleton.mp hq with rfl
    have:=Heap.get?_push_size ((s.heap.update a f).push Br) (o:=At n) rfl
    rw [sz2] at this
    exact this
 ·have e:(((a,f o)::rs)++[(n,Br),(n+1,At n)]).map (·.1)=((a,o)::rs).map (·.1)++[n,n+1]:=by simp
  rw [e]
  refine List.nodup_append.mpr ⟨S.nodup,by simp,fun x hx y hy w=>?_⟩
  obtain ⟨q,hq,rfl⟩:=List.mem_map.mp hx
  have:=lt q hq
  rcases List.mem_cons.mp hy with hy | hy
  ·subst hy;exact absurd (w▸this) (Nat.lt_irrefl _)
  ·have hy:=List.mem_singleton.mp hy
   subst hy;exact absurd (w▸this) (Nat.not_lt.mpr (Nat.le_succ _))
 ·have e:(((a,f o)::rs)++[(n,Br),(n+1,At n)]).map (·.1)=((a,o)::rs).map (·.1)++[n,n+1]:=by simp
  rw [e] at hb
  rcases List.mem_append.mp hb with hb | hb
  ·exact S.fit b hb
  ·right
   rcases List.mem_cons.mp hb with hb | hb
   ·subst hb;exact S.low
   ·have hb:=List.mem_singleton.mp hb
    subst hb;exact Nat.le_succ_of_le S.low
 ·refine up _ _ ((hs.2 b fun w=>?_).trans (S.stat b o' e q))
  subst w
  rcases fit with w | w
  ·rw [w] at q;cases q
  ·have:=S.ok.low _ _ e;exact Hn w this
 ·have:=S.low;exact Ey this
 ·show (((s.heap.update a f).push Br).push (At n)).objs.size=n+2
  rw [Heap.size_push,sz2]
 ·exact up _ _ ((hs.2 b fun w=>m (w▸.head _)).trans e)
 ·show s.heap.objs.size≤(((s.heap.update a f).push Br).push (At n)).objs.size
  rw [Heap.size_push,sz2,hn];lia
theorem L8{it b:Addr}{o:Obj}{vs:Array Value}{ep i:Nat}(hd:o.data=.seq vs ep)(hx:vs[i]?=none):Meets (Builtin.«list_iterator.__next__» ⟨[.ref it],[]⟩)
  (fun A R s=>A.handled=none∧s.heap.get? it=some (Ad b i)∧s.heap.get? b=some o∧R (.error (.ref (s.heap.objs.size+1))) {s with heap:=((s.heap.update it (Obj.mapFields fun v=>v.setIfInBounds 0 .none)).push Br).push (At s.heap.objs.size)}):=
 .of_wp fun prog w A R s h=>by
  refine Af fun Gz hGz=>?_
  obtain ⟨hh,ho,hb,h⟩:=h
  have hs:Heap.SameBut it s.heap (s.heap.update it (Obj.mapFields fun v=>v.setIfInBounds 0 .none)):=Heap.SameBut.update ..
  refine hGz ?_
  show wpAny _ _ (field (.ref it) 0 >>= _) _ _ s
  refine wpAny_bind (wpAny_field ho rfl (x:=.ref b) rfl ?_)
  show wpAny _ _ (if (Value.ref b == Value.none)=true then _ else _) _ _ s
  rw [if_neg (show ¬ ((Value.ref b == Value.none)=true) from Bool.false_ne_true)]
  show wpAny _ _ (field (.ref it) 1 >>= _) _ _ s
  refine wpAny_bind (wpAny_field ho rfl (x:=.int i 0) rfl ?_)
  show wpAny _ _ (seqItems? (.ref b) >>= _) _ _ s
  refine wpAny_bind (wpAny_seqItems hb hd ?_)
  simp only [Int.toNat_natCast,hx]
  refine wpAny_bind (wpAny_rule (wpAny_bind (wpAny_setField ho rfl (by simp) ?_)))
  show wpAny _ _ (newExc (.type "StopIteration") [] >>= _) _ _ _
  refine wpAny_bind ?_
  simp only [newExc,newTuple]
  refine wpAny_bind (wpAny_newObj_type ?_ (by size_fits))
  refine wpAny_bind (m:=firstArgMember _ _) (wpAny_of_eq (a:=Value.none) (by first | rfl | (simp only [firstArgMember];rfl)) ?_)
  refine wpAny_newObj_type ?_ (by size_fits)
  simp only [raiseNew]
  refine wpAny_bind (wpAny_handled ?_)
  first | rw [show A.in1.handled=none from hh] | rw [hh]
  refine wpAny_bind (wpAny_pure (wpAny_throw ?_))
  have e1:((s.heap.update it (Obj.mapFields fun v=>v.setIfInBounds 0 .none)).push Br).objs.size=s.heap.objs.size+1:=by rw [Heap.size_push,hs.1]
  have e2:(s.heap.update it (Obj.mapFields fun v=>v.setIfInBounds 0 .none)).objs.size=s.heap.objs.size:=hs.1
  rw [← e1,← e2] at h
  exact h
theorem C3{z:Zed} {bl:List (Code×Pos)} {it b:Addr} {o:Obj} {vs:Array Value} {ep i n t g:Nat} (hd:o.data=.seq vs ep) (hx:vs[i]?=none):
  Does z (.call (.builtin "list_iterator.__next__") ⟨[.ref it],[]⟩) bl [(it,Ad b i),(b,o)] n t g (.error (.ref (n+1))) [(it,Ar i),(b,o),(n,Br),(n+1,At n)] (n+2) (t+0) g:=by
 have hf:Obj.mapFields (fun v=>v.setIfInBounds 0 .none) (Ad b i)=Ar i:=by
  show ({cls:=_,dict:=_,data:=.fields (#[Value.ref b,Value.int (i:Int) 0].setIfInBounds 0 .none),slots:=_}:Obj)=_
  simp [Ar]
 have:=Py (z:=z) (c:=.call (.builtin "list_iterator.__next__") ⟨[.ref it],[]⟩) (bl:=bl) (a:=it) (o:=Ad b i) (rs:=[(b,o)]) (f:=Obj.mapFields fun v=>v.setIfInBounds 0 .none) (n:=n) (t:=t) (g:=g) (by rw [hf];rfl)
  (fun A s R hh ha hb hn hR=>Al slot_listiter_next ⟨_,ha,rfl⟩ entry_listiter_next (args_listiter_next _) (L8 hd hx) ⟨hh,ha,hb _ (.head _),by rw [hn];exact hR⟩)
 rw [hf] at this
 exact this
section
variable {z:Zed}{c:Code} {below:List (Code×Pos)} {l l' L L' fr:LO} {n t g n' t' g':Nat} {res:Result}
theorem Does.conseq(h:Does z c below l n t g res l' n' t' g')(h1:∀p∈l,p∈L) (hl:(L.map (·.1)).Nodup→(l.map (·.1)).Nodup)
  (h2:∀q∈L',q∈l'∨(q∈L∧((L.map (·.1)).Nodup→q.1 ∉ l.map (·.1)))) (hn:(L.map (·.1)).Nodup→(l'.map (·.1)).Nodup→(∀a∈L.map (·.1),a < n)→(L'.map (·.1)).Nodup):Does z c below L n t g res L' n' t' g':=by
 intro s p S
 have lt:∀a∈L.map (·.1),a < n:=fun a ha=>by
  refine Af fun Gz hGz=>?_
  obtain ⟨q,hq,rfl⟩:=List.mem_map.mp ha
  refine hGz ?_
  exact S.hn▸Heap.lt_size (S.knows q hq)
 have sub:∀a∈l.map (·.1),a∈L.map (·.1):=fun a ha=>by
  refine Af fun Gz hGz=>?_
  obtain ⟨q,hq,rfl⟩:=List.mem_map.mp ha
  refine hGz ?_
  exact List.mem_map.mpr ⟨q,h1 q hq,rfl⟩
 have S₀:St z s n t g l:=⟨S.ok,fun q hq=>S.knows q (h1 q hq),hl S.nodup,fun a ha=>S.fit a (sub a ha),S.stat,S.low,S.bare,S.os,S.hn,S.ht,S.hg⟩
 refine Af fun Gz hGz=>?_
 obtain ⟨r,s',hr,e,S₁,K⟩:=h s p S₀
 refine hGz ?_
 refine ⟨r,s',hr,e,⟨S₁.ok,fun q hq=>?_,hn S.nodup S₁.nodup lt,fun a ha=>?_,S₁.stat,S₁.low,S₁.bare,S₁.os,S₁.hn,S₁.ht,S₁.hg⟩,
  ⟨fun b o e m=>K.heap b o e fun w=>m (sub b w),K.gens,K.size,K.gsize⟩⟩
 ·rcases h2 q hq with w | ⟨w,u⟩
  ·exact S₁.knows q w
  ·exact K.heap q.1 q.2 (S.knows q w) (u S.nodup)
 ·obtain ⟨q,hq,rfl⟩:=List.mem_map.mp ha
  rcases h2 q hq with w | ⟨w,_⟩
  ·exact S₁.fit _ (List.mem_map.mpr ⟨q,w,rfl⟩)
  ·exact S.fit _ (List.mem_map.mpr ⟨q,w,rfl⟩)
theorem Does.frame(h:Does z c below l n t g res l' n' t' g')(fr:LO) (hb:∀q∈l',q.1∈l.map (·.1)∨n≤q.1):Does z c below (l++fr) n t g res (l'++fr) n' t' g':=by
 refine h.conseq (fun p hp=>List.mem_append_left _ hp) (fun nd=>?_) (fun q hq=>?_) fun nd nd' lt=>?_
 ·rw [List.map_append] at nd
  exact (List.nodup_append.mp nd).1
 ·rcases List.mem_append.mp hq with w | w
  ·exact .inl w
  ·refine .inr ⟨List.mem_append_right _ w,fun nd hm=>?_⟩
   rw [List.map_append] at nd
   exact (List.nodup_append.mp nd).2.2 _ hm _ (List.mem_map.mpr ⟨q,w,rfl⟩) rfl
 ·rw [List.map_append] at nd ⊢
  have nd:=List.nodup_append.mp nd
  refine List.nodup_append.mpr ⟨nd',nd.2.1,fun a ha b hb' e=>?_⟩
  obtain ⟨q,hq,rfl⟩:=List.mem_map.mp ha
  rcases hb q hq with w | w
  ·exact nd.2.2 _ w _ hb' e
  ·have:=lt b (by rw [List.map_append];exact List.mem_append_right _ hb')
   have e:q.1=b:=e
   exact absurd (e▸this) (Nat.not_lt.mpr w)
theorem Does.perm(h:Does z c below l n t g res l' n' t' g')(p1:l.Perm L)(p2:l'.Perm L'):Does z c below L n t g res L' n' t' g':=
 h.conseq (fun _ hp=>p1.mem_iff.mp hp) (fun nd=>(p1.map _).nodup_iff.mpr nd) (fun _ hq=>.inl (p2.mem_iff.mpr hq)) fun _ nd' _=>(p2.map _).nodup_iff.mp nd'
theorem Does.forget(h:Does z c below l n t g res l' n' t' g')(hs:L'.Sublist l'):Does z c below l n t g res L' n' t' g':=
 h.conseq (fun _ hp=>hp) (fun nd=>nd) (fun _ hq=>.inl (hs.subset hq)) fun _ nd' _=>(hs.map _).nodup nd'
end
section
structure GKn (s:Shared) (gl:List (Nat×GenState)):Prop where
 knows:∀q∈gl,s.gens[q.1]?=some q.2
 nodup:(gl.map (·.1)).Nodup
structure KeepG (s s':Shared) (as:List Addr) (gas:List Nat):Prop where
 heap:∀b o,s.heap.get? b=some o→b ∉ as→s'.heap.get? b=some o
 gens:∀j,j < s.gens.size→j ∉ gas→s'.gens[j]?=s.gens[j]?
 size:s.heap.objs.size≤s'.heap.objs.size
 gsize:s.gens.size≤s'.gens.size
def Goes(z:Zed) (below:List (Code×Pos)) (u:Sem Fin) (c:Code) (p:Pos) (pre:List Frame) (l:LO) (gl:List (Nat×GenState)) (n t g:Nat) (res:Result) (l':LO) (n' t' g':Nat):Prop:=
 ∀s,St z s n t g l→GKn s gl→∃s',Reach (model z.prog z.w) (Av below) s u c p pre s' (.ret res)∧St z s' n' t' g' l'∧KeepG s s' (l.map (·.1)) (gl.map (·.1))
@[irreducible] noncomputable def Ek (z:Zed) (below:List (Code×Pos)) (N:Nat) (u:Sem Fin) (c:Code) (p:Pos) (pre:List Frame) (l:LO) (gl:List (Nat×GenState)) (n t g orc:Nat) (xs:List Ans) (pp:PP):Out:=match Fd .nil .nil 0 l with
 |some r=>Ou z below N u c p pre r.1 r.2.1 r.2.2 0 0 [] orc ⟨n,t,g,0,gl.map (·.1),gl.map (·.2),[],xs,pp⟩
 |none=>⟨99,u,c,p,pre,.nil,.nil,0,n,0,t,0,g,0,[],[],[],[],orc,xs,pp⟩
def Rc(GA:List Nat)(gs:List GenState):List Nat→Option (List (Nat×GenState))
 |[]=>some []
 |j::js=>match gs[j]? with
  |none=>none
  |some x=>match Rc GA gs js with
   |none=>none
   |some l=>some ((nth GA j,x)::l)
theorem Pg{GA:List Nat}{gs:List GenState}:∀{js:List Nat} {l:List (Nat×GenState)},Rc GA gs js=some l→l.map (·.1)=js.map (nth GA)∧(∀j∈js,j < gs.length)∧∀q∈l,∃j∈js,gs[j]?=some q.2∧q.1=nth GA j
 |[],l,h=>by cases h;exact ⟨rfl,by simp,by simp⟩
 |j::js,l,h=>by
  unfold Rc at h
  split at h
  ·cases h
  ·rename_i o ho
   split at h
   ·cases h
   ·rename_i l' hl
    cases h
    refine Af fun Gz hGz=>?_
    obtain ⟨h1,h2,h3⟩:=Pg hl
    refine hGz ?_
    refine ⟨by simp [h1],fun j' hj'=>?_,fun q hq=>?_⟩
    ·rcases List.mem_cons.mp hj' with rfl | hj'
     ·exact (List.getElem?_eq_some_iff.mp ho).1
     ·exact h2 j' hj'
    ·rcases List.mem_cons.mp hq with rfl | hq
     ·exact ⟨j,.head _,ho,rfl⟩
     ·refine Af fun Gz hGz=>?_
      obtain ⟨j',m1,m2⟩:=h3 q hq
      refine hGz ?_
      exact ⟨j',.tail _ m1,m2⟩
theorem Ma:∀(l:List Nat) (j:Nat),j < l.length→l[j]?=some (nth l j)
 |[],j,h=>by simp at h
 |a::l,0,_=>rfl
 |a::l,j+1,h=>by
  show l[j]?=some (nth l j)
  exact Ma l j (Nat.lt_of_succ_lt_succ h)
section
variable {z:Zed} {below:List (Code×Pos)} {l l' l₁ ps ps₁:LO} {gl gl₁:List (Nat×GenState)} {n t g n' t' g' n₁ t₁ g₁:Nat} {res:Result}
theorem St.repG{s:Shared} (S:St z s n t g (l++ps)) (G:GKn s gl) {r:BT×BT×Nat} (h:Fd .nil .nil 0 l=some r):
  Rep z s.heap ⟨s.gens,gl.map (·.1)⟩ ((l++ps).map (·.1)) s r.1 r.2.1 r.2.2 n 0 t 0 g 0 (gl.map (·.1)) (gl.map (·.2))∧Pas z s.heap ((l++ps).map (·.1)) s r.2.1 r.2.2 ps:=by
 obtain ⟨R,P⟩:=S.rep h
 have lk:∀j x,(gl.map (·.2))[j]?=some x→∃q,gl[j]?=some q∧q.2=x∧nth (gl.map (·.1)) j=q.1:=fun j x e=>by
  rw [List.getElem?_map] at e
  refine Af fun Gz hGz=>?_
  obtain ⟨q,hq,rfl⟩:=Option.map_eq_some_iff.mp e
  refine hGz ?_
  refine ⟨q,hq,rfl,?_⟩
  have hl:=(List.getElem?_eq_some_iff.mp hq).1
  have:=Ma (gl.map (·.1)) j (by simpa using hl)
  rw [List.getElem?_map,hq] at this
  exact (Option.some.inj this).symm
 have mem:∀j,j < (gl.map (·.2)).length→∃q∈gl,nth (gl.map (·.1)) j=q.1:=fun j hj=>by
  refine Af fun Gz hGz=>?_
  obtain ⟨q,hq,_,e⟩:=lk j _ (List.getElem?_eq_getElem hj)
  refine hGz ?_
  exact ⟨q,List.mem_of_getElem? hq,e⟩
 refine ⟨{R with glen:=by simp,gkn:=fun j x e=>?_,ginj:=fun i j hi hj e=>?_,gnew:=fun j hj=>?_,glt:=fun j hj=>?_,gold:=fun _ _ _=>rfl,ggrow:=?_},P⟩
 ·refine Af fun Gz hGz=>?_
  obtain ⟨q,hq,rfl,e'⟩:=lk j x e
  refine hGz ?_
  rw [e']
  exact G.knows q (List.mem_of_getElem? hq)
 ·have nd:=G.nodup
  have hi':i < (gl.map (·.1)).length:=by simpa using hi
  have hj':j < (gl.map (·.1)).length:=by simpa using hj
  have a:=Ma _ _ hi'
  have b:=Ma _ _ hj'
  rw [e,← b] at a
  exact (List.getElem?_inj hi' nd).mp a
 ·refine Af fun Gz hGz=>?_
  obtain ⟨q,hq,e⟩:=mem j hj
  refine hGz ?_
  exact .inl (List.mem_map.mpr ⟨q,hq,e.symm⟩)
 ·refine Af fun Gz hGz=>?_
  obtain ⟨q,hq,e⟩:=mem j hj
  refine hGz ?_
  rw [e]
  have:=G.knows q hq
  have h1:=(Array.getElem?_eq_some_iff.mp this).1
  have:=S.hg
  show q.1 < g+0
  exact N9 this h1
 ·show s.gens.size≤g+0
  have:=S.hg
  exact Abq this
abbrev Ah:=Option (List (Nat×Option (String×Args)))×Code×LO×Nat×Nat×Nat×Ans×Option (LO×LO)
def Wc(b:Bool)(e:Log):Ah:=(if b then some (Gn e.bl) else none,e.c',e.l,e.n,e.t,e.g,e.x,e.pa)
def Od:List Bool→List Log→List Ah
 |_,[]=>[]
 |[],e::es=>Wc true e::Od [] es
 |b::bs,e::es=>Wc b e::Od bs es
noncomputable def told(q:Ah):Bool:=match q.1 with
 |none=>false
 |some _=>true
def Ed(z:Zed)(q:Ah):Prop:=match q with
 |(ks,c,l,n,t,g,x,pa)=>x.js.Nodup∧x.os.length=x.js.length∧(∀u∈x.news,n≤u.1)∧∀bl,(match ks with |none=>True |some k=>Gn bl=k)→match pa with
  |none=>Does z c bl l n t g x.res ((l.map (·.1)).zip x.os++x.news) (x.nb+x.m) (x.tb+x.i) (x.gb+x.gi)
  |some pa=>(∀q∈pa.2,q.1∈pa.1.map (·.1)∨n≤q.1)∧Does z c bl (l++pa.1) n t g x.res (((l.map (·.1)).zip x.os++x.news)++pa.2) (x.nb+x.m) (x.tb+x.i) (x.gb+x.gi)
def ObRs(z:Zed):List Ah→Prop
 |[]=>True
 |q::L=>Ed z q∧ObRs z L
theorem ObRs.mem{z:Zed}:∀{L:List Ah},ObRs z L→∀q∈L,Ed z q
 |[],_,_,h=>nomatch h
 |q::L,h,q',h'=>by
  rcases List.mem_cons.mp h' with rfl | h'
  ·exact h.1
  ·exact ObRs.mem h.2 q' h'
theorem Ug{z:Zed}{e:Log}{b:Bool} (h:Ed z (Wc b e)):Oblig z e:=by
 refine Af fun Gz hGz=>?_
 obtain ⟨c',bl,l,n,t,g,x,pa⟩:=e
 obtain ⟨h1,h2,h3,h4⟩:=h
 refine hGz ?_
 refine ⟨h1,h2,h3,?_⟩
 have:=h4 bl (by cases b<;>first | trivial | rfl)
 cases pa with
 |none=>exact this
 |some y=>exact this
theorem Nt{z:Zed}:∀{bs:List Bool} {lg:List Log} {L:List Ah},Od bs lg=L→(∀q∈L,Ed z q)→∀e∈lg,Oblig z e
 |_,[],_,_,_,_,h=>nomatch h
 |[],e::es,L,h,H,e',he=>by
  subst h
  rcases List.mem_cons.mp he with rfl | he
  ·exact Ug (H _ (.head _))
  ·exact Nt (bs:=[]) rfl (fun q hq=>H q (.tail _ hq)) e' he
 |b::bs,e::es,L,h,H,e',he=>by
  subst h
  rcases List.mem_cons.mp he with rfl | he
  ·exact Ug (H _ (.head _))
  ·exact Nt (bs:=bs) rfl (fun q hq=>H q (.tail _ hq)) e' he
noncomputable def F1(L:List Ah):List Ans:=L.map fun q=>q.2.2.2.2.2.2.1
noncomputable def F2(L:List Ah):List (Option LO):=L.map fun q=>q.2.2.2.2.2.2.2.map (·.2)
def R5(o:Out)(js gjs:List Nat)(L:List Ah):=(o.why,o.ob.map (·.1),o.nb+o.m,o.tb+o.i,o.gb+o.gi,Hk o.T o.A js,Od (L.reverse.map told) o.lg,o.pp.ps,o.c,o.p,Rc o.GA o.gs gjs,o.pre,o.t)
abbrev F0(o:Out)(js gjs:List Nat)(u₁:Sem Fin)(c₁:Code)(p₁:Pos)(pre₁:List Frame)(l₁ ps₁:LO) (gl₁:List (Nat×GenState)) (n₁ t₁ g₁:Nat) (L:List Ah):Prop:=
 R5 o js gjs L
  = (0,o.ob.map (·.2),n₁,t₁,g₁,some l₁,L.reverse,ps₁,c₁,p₁,some gl₁,pre₁,u₁)
noncomputable def qC(c:Code)(l:LO)(n t g:Nat)(res:Result)(js:List Nat)(os:List Obj)(news:LO)(n' t' g':Nat):Ah:=(none,c,l,n,t,g,⟨res,js,os,news,n',0,t',0,g',0⟩,none)
theorem Ae{z:Zed}{c:Code}{l:LO}{n t g:Nat}{res:Result}{js:List Nat}{os:List Obj}{news:LO}{n' t' g':Nat} (h:∀bl,Does z c bl l n t g res ((l.map (·.1)).zip os++news) n' t' g') (hj:js.Nodup:=by decide) (hl:os.length=js.length:=by rfl) (hn:∀u∈news,n≤u.1:=by intro _ h;nomatch h):
  Ed z (qC c l n t g res js os news n' t' g'):=⟨hj,hl,hn,fun bl _=>h bl⟩
noncomputable def qK (ks:List (Nat×Option (String×Args))) (c:Code) (l:LO) (n t g:Nat) (res:Result) (js:List Nat) (os:List Obj) (news:LO) (n' t' g':Nat):Ah:=(some ks,c,l,n,t,g,⟨res,js,os,news,n',0,t',0,g',0⟩,none)
theorem Ago{z:Zed} {ks:List (Nat×Option (String×Args))} {c:Code} {l:LO} {n t g:Nat} {res:Result} {js:List Nat} {os:List Obj} {news:LO} {n' t' g':Nat} (h:∀bl,Gn bl=ks→Does z c bl l n t g res ((l.map (·.1)).zip os++news) n' t' g') (hj:js.Nodup:=by decide) (hl:os.length=js.length:=by rfl) (hn:∀u∈news,n≤u.1:=by intro _ h;nomatch h):
  Ed z (qK ks c l n t g res js os news n' t' g'):=⟨hj,hl,hn,fun bl hb=>h bl hb⟩
noncomputable def qP (ks:Option (List (Nat×Option (String×Args)))) (c:Code) (l ps ps':LO) (n t g:Nat) (res:Result) (js:List Nat) (os:List Obj) (news:LO) (n' t' g':Nat):Ah:=(ks,c,l,n,t,g,⟨res,js,os,news,n',0,t',0,g',0⟩,some (ps,ps'))
theorem Afy{z:Zed} {ks:List (Nat×Option (String×Args))} {c:Code} {l ps ps':LO} {n t g:Nat} {res:Result} {js:List Nat} {os:List Obj} {news:LO} {n' t' g':Nat} (hp:∀q∈ps',q.1∈ps.map (·.1)∨n≤q.1) (h:∀bl,Gn bl=ks→Does z c bl (l++ps) n t g res (((l.map (·.1)).zip os++news)++ps') n' t' g') (hj:js.Nodup:=by decide) (hl:os.length=js.length:=by rfl) (hn:∀u∈news,n≤u.1:=by intro _ h;nomatch h):
  Ed z (qP (some ks) c l ps ps' n t g res js os news n' t' g'):=⟨hj,hl,hn,fun bl hb=>⟨hp,h bl hb⟩⟩
theorem A0e{s:Shared} (S:St z s n t g (l++ps)) (G:GKn s gl) {u u₁:Sem Fin} {c c₁:Code} {p p₁:Pos} {pre pre₁:List Frame} {N orc:Nat} {xs:List Ans} {pq:List (Option LO)} {js gjs:List Nat} {L:List Ah} (hjs:js.Nodup) (hgjs:gjs.Nodup) (hL:ObRs z L)
  (h:F0 (Ek z below N u c p pre l gl n t g orc xs ⟨ps,pq⟩) js gjs u₁ c₁ p₁ pre₁ l₁ ps₁ gl₁ n₁ t₁ g₁ L):
  ∃s₁,St z s₁ n₁ t₁ g₁ (l₁++ps₁)∧GKn s₁ gl₁∧KeepG s s₁ ((l++ps).map (·.1)) (gl.map (·.1))∧(∀a∈(l₁++ps₁).map (·.1),a∈(l++ps).map (·.1)∨s.heap.objs.size≤a)∧(∀a∈gl₁.map (·.1),a∈gl.map (·.1)∨s.gens.size≤a) ∧
   ∀s'' e,Reach (model z.prog z.w) (Av below) s₁ u₁ c₁ p₁ pre₁ s'' e→Reach (model z.prog z.w) (Av below) s u c p pre s'' e:=by
 unfold Ek at h
 cases hr:Fd .nil .nil 0 l with
 |none=>simp only [F0,R5,hr,Prod.mk.injEq] at h;exact absurd h.1 (by decide)
 |some r=>
 simp only [hr] at h
 refine Af fun Gz hGz=>?_
 obtain ⟨R0,P0⟩:=S.repG G hr
 have F:=(Qf (z:=z) (below:=below) (h₀:=s.heap) (G₀:=⟨s.gens,gl.map (·.1)⟩) (A₀:=(l++ps).map (·.1)) N u c p pre r.1 r.2.1 r.2.2 0 0 [] orc ⟨n,t,g,0,gl.map (·.1),gl.map (·.2),[],xs,⟨ps,pq⟩⟩ s R0 P0).got
 generalize Ou z below N u c p pre r.1 r.2.1 r.2.2 0 0 [] orc ⟨n,t,g,0,gl.map (·.1),gl.map (·.2),[],xs,⟨ps,pq⟩⟩=o at h F
 simp only [F0,R5,Prod.mk.injEq] at h
 obtain ⟨e1,hob,rfl,rfl,rfl,e4,hlg,hps,rfl,rfl,eg,rfl,rfl⟩:=h
 obtain ⟨s₁,R,P,h⟩:=(F (fun q hq=>by
  obtain ⟨j,hj,rfl⟩:=List.mem_iff_getElem.mp hq
  have x:(o.ob.map (·.1))[j]?=(o.ob.map (·.2))[j]?:=by rw [hob]
  rw [List.getElem?_map,List.getElem?_map,List.getElem?_eq_getElem hj] at x
  exact Option.some.inj x) (Nt hlg fun q hq=>hL.mem q (List.mem_reverse.mp hq)) e1).rep
 have S₁:=R.stP P e4 hjs
 rw [hps] at S₁ P
 obtain ⟨g1,g2,g3⟩:=Pg eg
 refine hGz ?_
 refine ⟨s₁,S₁,⟨fun q hq=>?_,?_⟩,⟨R.keep,R.gold,?_,?_⟩,fun a ha=>?_,fun a ha=>?_,h⟩
 ·refine Af fun Gz hGz=>?_
  obtain ⟨j,_,e,e'⟩:=g3 q hq
  refine hGz ?_
  rw [e'];exact R.gkn j _ e
 ·rw [g1]
  unfold List.Nodup
  rw [List.pairwise_map]
  refine List.Pairwise.imp_of_mem (fun {a b} ha hb hab e=>hab ?_) hgjs
  exact R.ginj a b (g2 a ha) (g2 b hb) e
 ·rw [R.size];exact R.grow
 ·rw [R.gsize];exact R.ggrow
 ·rw [List.map_append] at ha
  rcases List.mem_append.mp ha with ha | ha
  ·refine Af fun Gz hGz=>?_
   obtain ⟨h1,h2,_⟩:=Eo e4
   rw [h1] at ha
   obtain ⟨j,hj,rfl⟩:=List.mem_map.mp ha
   obtain ⟨o',e'⟩:=h2 j hj
   refine hGz ?_
   exact R.newer j (R.own j _ e').1
  ·refine Af fun Gz hGz=>?_
   obtain ⟨q,hq,rfl⟩:=List.mem_map.mp ha
   refine hGz ?_
   exact P.newer q hq
 ·rw [g1] at ha
  refine Af fun Gz hGz=>?_
  obtain ⟨j,hj,rfl⟩:=List.mem_map.mp ha
  refine hGz ?_
  exact R.gnew j (g2 j hj)
theorem Fk{u u₁:Sem Fin}{c c₁:Code}{p p₁:Pos}{pre pre₁:List Frame}(N orc:Nat)(js gjs:List Nat){L:List Ah}(hL:ObRs z L) (next:Goes z below u₁ c₁ p₁ pre₁ (l₁++ps₁) gl₁ n₁ t₁ g₁ res l' n' t' g')
  (hjs:js.Nodup) (hgjs:gjs.Nodup) (h:F0 (Ek z below N u c p pre l gl n t g orc (F1 L) ⟨ps,F2 L⟩) js gjs u₁ c₁ p₁ pre₁ l₁ ps₁ gl₁ n₁ t₁ g₁ L):Goes z below u c p pre (l++ps) gl n t g res l' n' t' g':=by
 intro s S G
 refine Af fun Gz hGz=>?_
 obtain ⟨s₁,S₁,G₁,K,k1,k2,hr⟩:=A0e S G hjs hgjs hL h
 obtain ⟨s₂,y,S₂,K₂⟩:=next s₁ S₁ G₁
 refine hGz ?_
 refine ⟨s₂,hr _ _ y,S₂,⟨fun b o e m=>?_,fun j hj m=>?_,Nat.le_trans K.size K₂.size,Nat.le_trans K.gsize K₂.gsize⟩⟩
 ·refine K₂.heap b o (K.heap b o e m) fun w=>?_
  rcases k1 b w with w | w
  ·exact m w
  ·exact absurd (Heap.lt_size e) (Nat.not_lt.mpr w)
 ·rw [K₂.gens j (Nat.lt_of_lt_of_le hj K.gsize) fun w=>?_,K.gens j hj m]
  rcases k2 j w with w | w
  ·exact m w
  ·exact Hn w hj
theorem A35{u:Sem Fin}{c:Code}{p:Pos}(hu:u=leafOf res):Goes z below u c p [] l gl n t g res l n t g:=by
 subst hu
 intro s S G
 exact ⟨s,.exit ⟨rfl,rfl⟩,S,⟨fun _ _ e _=>e,fun _ _ _=>rfl,Nat.le_refl _,Nat.le_refl _⟩⟩
theorem Ip{u u₁:Sem Fin}{c c₁:Code}{p p₁:Pos}{pre:List Frame}(N orc:Nat)(js:List Nat){L:List Ah}(hL:ObRs z L)
  (hjs:js.Nodup) (h:F0 (Ek z below N u c p pre l gl n t g orc (F1 L) ⟨ps,F2 L⟩) js [] u₁ c₁ p₁ [] l₁ ps₁ [] n₁ t₁ g₁ L) (hu:u₁=leafOf res:=by rfl):Goes z below u c p pre (l++ps) gl n t g res (l₁++ps₁) n₁ t₁ g₁:=
 Fk N orc js [] hL (A35 hu) hjs List.nodup_nil h
theorem Hh{c:Code} (h:∀p,Goes z below (den c) c p [] l [] n t g res l' n' t' g'):Does z c below l n t g res l' n' t' g':=by
 intro s p S
 refine Af fun Gz hGz=>?_
 obtain ⟨s',hr,S',K⟩:=h p s S ⟨fun _ h=>(nomatch h),List.nodup_nil⟩
 have w:=(wp_iff_reach (M:=model z.prog z.w) (base:=Av below) (c:=c) (den c) (fun r s'=>r=res∧St z s' n' t' g' l'∧Keep s s' (l.map (·.1))) p s).mpr
  ⟨_,_,hr,rfl,S',⟨K.heap,fun j hj=>K.gens j hj List.not_mem_nil,K.size,K.gsize⟩⟩
 rw [Sr] at w
 refine hGz ?_
 rw [wpCode_iff_wp]
 exact leP _ _ _ _ w
theorem St.perm{s:Shared}{l L:LO}(S:St z s n t g l)(h:l.Perm L):St z s n t g L:=
 ⟨S.ok,fun q hq=>S.knows q (h.mem_iff.mpr hq),(h.map _).nodup_iff.mp S.nodup,fun a ha=>S.fit a ((h.map _).mem_iff.mpr ha),S.stat,S.low,S.bare,S.os,S.hn,S.ht,S.hg⟩
theorem Goes.perm{u:Sem Fin}{c:Code}{p:Pos}{pre:List Frame}{L:LO}(h:Goes z below u c p pre l gl n t g res l' n' t' g')(e:L.Perm l):Goes z below u c p pre L gl n t g res l' n' t' g':=by
 intro s S G
 refine Af fun Gz hGz=>?_
 obtain ⟨s',hr,S',K⟩:=h s (S.perm e) G
 refine hGz ?_
 exact ⟨s',hr,S',⟨fun b o hb m=>K.heap b o hb fun w=>m ((e.map _).mem_iff.mpr w),K.gens,K.size,K.gsize⟩⟩
theorem Goes.permR{u:Sem Fin}{c:Code}{p:Pos}{pre:List Frame}{L:LO}(h:Goes z below u c p pre l gl n t g res l' n' t' g')(e:l'.Perm L):Goes z below u c p pre l gl n t g res L n' t' g':=by
 intro s S G
 refine Af fun Gz hGz=>?_
 obtain ⟨s',hr,S',K⟩:=h s S G
 refine hGz ?_
 exact ⟨s',hr,S'.perm e,K⟩
end
end
section
theorem Agi{P:Nat→Prop}(h1:P 1)(h2:P 2)(h3:P 3)(h4:P 4)(h5:P 5)(h6:P 6):∀j,1≤j→j≤6→P j
 |0,h,_=>absurd h (by decide)
 |1,_,_=>h1
 |2,_,_=>h2
 |3,_,_=>h3
 |4,_,_=>h4
 |5,_,_=>h5
 |6,_,_=>h6
 |j+7,_,h=>absurd h Rs
theorem Agh{P:Nat→Prop}(h1:P 1)(h2:P 2)(h3:P 3)(h4:P 4)(h5:P 5)(h6:P 6)(h7:P 7):∀j,1≤j→j≤7→P j
 |0,h,_=>absurd h (by decide)
 |1,_,_=>h1
 |2,_,_=>h2
 |3,_,_=>h3
 |4,_,_=>h4
 |5,_,_=>h5
 |6,_,_=>h6
 |7,_,_=>h7
 |j+8,_,h=>absurd h Rs
structure LenP where
 n:Nat
 t:Nat
 g:Nat
 C:Nat
 CD:Nat
 ki:Nat
 ti:Nat
 ep:Nat
 c:Nat
 vs:Array Value
 k:CoK
 x:Nat
 s:Nat
 i:Nat
 y:Nat
noncomputable def A4d(C:Nat):Code:=.call (.builtin "len") ⟨[.ref (C+310)],[]⟩
def Nz(K:SK)(C:Nat):Code:=match K with
 |.o=>.builtin "len" ⟨[.ref (C+310)],[]⟩
 |_=>A4d C
noncomputable def itC(n:Nat):Code:=.call (.builtin "list_iterator.__next__") ⟨[.ref n],[]⟩
noncomputable def Hl(n:Nat):Code:=.builtin "sum.loop" ⟨[.ref (n+313),.ref (n+314),.int 0 0,.int 0 0],[]⟩
def LenP.l0(a:LenP)(P:Params):LO:=[(a.C+310,Aj (a.CD+310) a.vs a.ep),(a.CD+310,B9 P a.ki a.ti),(233,G6 194 19 (a.c+310)),(a.c+310,R9 a.k),(a.x+310,Ap (Bu a.s) (ch a.i a.y))]
abbrev Q5(a:LenP) x0_ (x1_:Nat) (x2_:Nat) (x3_:Nat) (x4_:Nat) x5_ x6_ x7_ x8_ x9_ (x10_:Nat):=(qC (itC (a.n+311)) [(a.n+311,Ad (a.C+310) x0_),(a.C+310,Aj (a.CD+310) a.vs a.ep)] (x1_+x2_) (x3_+x4_) x5_ x6_ [x7_,0] [x8_,Aj (a.CD+310) a.vs a.ep] x9_ (x1_+x10_) (x3_+x4_) x5_:Ah)
def LenP.lg0(a:LenP):List Ah:=[Q5 a 0 a.n 315 a.t 604 (a.g+1) (.ok (.ret (.ref (a.x+310)))) 6 (Ad (a.C+310) 1) [] 315]
variable (R:RK)(K:SK)(w:World)(os:OsState)(b2:Bool)(S:Nat→Slot)(a:LenP)(p:Pos)(ps:LO)
noncomputable def A5x(b1 b2:Bool)(N orc:Nat):Out:=Ek (Z w os b1 b2) (Ab (C7 R K) S 0) N (den (Nz K a.C)) (Nz K a.C) p [] (a.l0 w.params) [] (a.n+310) (a.t+598) a.g orc (F1 a.lg0) ⟨ps,F2 a.lg0⟩
noncomputable def G3(o:Out):GenState:=match o.gs with
 |x::_=>x
 |[]=>.running
def Aj8(n t g:Nat):Obj:=E3 "generator" #[.int (g:Int) 0,.str (Str.ofString "<genexpr>") (t+600),.str (Str.ofString "_Accumulator.__len__.<locals>.<genexpr>") (t+601)]
def gfr(P:Params)(n t:Nat)(v1 v2:Value):Obj:=B4 #[kv P ".0" (t+599) (.ref (n+311)),kv P "fws" (t+604) v1,kv P "part" (t+605) v2] 3
def LenP.lj(a:LenP)(P:Params)(j:Nat)(v1 v2:Value)(q:Nat):LO:=[(a.C+310,Aj (a.CD+310) a.vs a.ep),(a.n+311,Ad (a.C+310) j),(a.n+312,gfr P a.n a.t v1 v2),(a.n+313,Aj8 a.n a.t a.g),(a.n+314,Ax #[.int ((2*j:Nat):Int) q] 0)]
def LenP.lr(a:LenP)(P:Params):LO:=[(a.CD+310,B9 P a.ki a.ti),(233,G6 194 19 (a.c+310)),(a.c+310,R9 a.k),(a.x+310,Ap (Bu a.s) (ch a.i a.y)),(a.n+310,B4 #[kv P "self" (a.t+598) (.ref (a.C+310))] 1)]
noncomputable def hN(K:SK)(b2:Bool):Nat:=match K with
 |.a=>bif b2 then 217 else 227
 |.n=>bif b2 then 217 else 227
 |.o=>bif b2 then 216 else 226
def hO(K:SK)(b2:Bool):Nat:=match K with
 |.a=>bif b2 then o3_ else o4_
 |.n=>bif b2 then o3_ else o4_
 |.o=>bif b2 then 0x162c581000000000004810200000002408112244891c30606183000c003060c0c30600180060c181860c003000c18003000c1830802200010204500140050b002800a0028500000c08204040810400082000408102040820e244810210081100008200040810404081041c081000438702040010204082 else 0x58b16040000000000120408000000090204489122470c181860c003000c183030c18006001830606183000c00306000c003060c20088002000800204010204500140050b002800a0028500000c08204040810400082000408102040820e244810210081100008200040810404081041c081000438702040010204082
noncomputable abbrev G1(b1:Bool):Out:=A5x R K w os S a p ps b1 false (hN K false) (hO K false)
abbrev Agv(b1 b2:Bool):Prop:=F0 (A5x R K w os S a p ps b1 b2 (hN K b2) (hO K b2)) [0,6,7,8,9,1,2,3,4,5] [0] (den (Hl a.n)) (Hl a.n) (G1 R K w os S a p ps b1).p (G1 R K w os S a p ps b1).pre
  (a.lj w.params 1 (Bu a.s) (ch a.i a.y) (a.t+611)++a.lr w.params) ps [(a.g,G3 (G1 R K w os S a p ps b1))] (a.n+318) (a.t+612) (a.g+1) a.lg0
theorem Aec:∀b1 b2,Agv R K w os S a p ps b1 b2:=by
 intro b1 b2
 cases R<;>cases K<;>cases b1<;>cases b2<;>kernel_rfl
def LenP.lgj(a:LenP)(j x m u g1:Nat):List Ah:=[Q5 a j m 310 u 598 g1 (.ok (.ret (.ref (x+310)))) 1 (Ad (a.C+310) (j+1)) [] 310]
abbrev A8y(b1 b2:Bool)(m u g1 x s i y q:Nat)(v1 v2:Value)(pt:LO)(j:Nat):Prop:=
 F0 (Ek (Z w os b1 b2) (Ab (C7 R K) S 0) 120 (den (Hl a.n)) (Hl a.n) (G1 R K w os S a p ps b1).p (G1 R K w os S a p ps b1).pre (a.lj w.params j v1 v2 q++[(x+310,Ap (Bu s) (ch i y))]) [(a.g,G3 (G1 R K w os S a p ps b1))] (m+310) (u+598) g1 0xc18301000000000002010200000001008108102041420407102000800204080e204001000408101c408002000810003800e1c383020c00102042800a00286
  (F1 (a.lgj j x m u g1)) ⟨pt,F2 (a.lgj j x m u g1)⟩) [0,1,2,3,4,5] [0] (den (Hl a.n)) (Hl a.n) (G1 R K w os S a p ps b1).p (G1 R K w os S a p ps b1).pre
  (a.lj w.params (j+1) (Bu s) (ch i y) (u+605)++[(x+310,Ap (Bu s) (ch i y))]) pt [(a.g,G3 (G1 R K w os S a p ps b1))] (m+313) (u+606) g1 (a.lgj j x m u g1)
theorem A30:∀(b1 b2:Bool) (m u g1 x s i y q:Nat) (v1 v2:Value) (pt:LO) (j:Nat),1≤j→j≤6→A8y R K w os S a p ps b1 b2 m u g1 x s i y q v1 v2 pt j:=by
 intro b1
 cases R<;>cases K<;>cases b1<;>intro _ _ _ _ _ _ _ _ _ _ _ _<;>refine Agi ?_ ?_ ?_ ?_ ?_ ?_<;>kernel_rfl
def Oj(P:Params)(n t C:Nat):LO:=[(n+310,B4 #[kv P "self" (t+598) (.ref (C+310))] 1)]
def LenP.lgp(a:LenP)(j m u g1:Nat):List Ah:=[Q5 a j m 310 u 598 g1 (.error (.ref (m+311))) 1 (Ar j) [(m+310,Br),(m+311,At (m+310))] 312]
noncomputable abbrev Vs(b1 b2:Bool)(m u g1 q:Nat)(v1 v2:Value)(pt:LO)(j:Nat):Out:=Ek (Z w os b1 b2) (Ab (C7 R K) S 0) 26 (den (Hl a.n)) (Hl a.n) (G1 R K w os S a p ps b1).p (G1 R K w os S a p ps b1).pre (a.lj w.params j v1 v2 q++Oj w.params a.n a.t a.C) [(a.g,G3 (G1 R K w os S a p ps b1))] (m+310) (u+598) g1 0x2c089020c00102042800a00286
  (F1 (a.lgp j m u g1)) ⟨pt,F2 (a.lgp j m u g1)⟩
abbrev A7a(b1 b2:Bool)(m u g1 q:Nat)(v1 v2:Value)(pt:LO)(j:Nat):Prop:=
 F0 (Vs R K w os S a p ps b1 b2 m u g1 q v1 v2 pt j) [0] [] (leafOf (.ok (.ret (.int ((2*j:Nat):Int) (u+598))))) (Vs R K w os S a p ps b1 b2 m u g1 q v1 v2 pt j).c (Vs R K w os S a p ps b1 b2 m u g1 q v1 v2 pt j).p [] [(a.C+310,Aj (a.CD+310) a.vs a.ep)] pt [] (m+314) (u+599) g1 (a.lgp j m u g1)
theorem A39:∀(b1 b2:Bool) (m u g1 q:Nat) (v1 v2:Value) (pt:LO) (j:Nat),1≤j→j≤7→A7a R K w os S a p ps b1 b2 m u g1 q v1 v2 pt j:=by
 intro b1
 cases R<;>cases K<;>cases b1<;>intro _ _ _ _ _ _ _ _<;>refine Agh ?_ ?_ ?_ ?_ ?_ ?_ ?_<;>kernel_rfl
end
section
theorem L3{α:Type}:∀(l:List α) (j:Nat) (h:j < l.length),(l[j]::l.eraseIdx j).Perm l
 |a::l,0,_=>List.Perm.refl _
 |a::l,j+1,h=>by
  have h':j < l.length:=Nat.lt_of_succ_lt_succ h
  show (l[j]::a::l.eraseIdx j).Perm (a::l)
  exact (List.Perm.swap ..).trans (List.Perm.cons a (L3 l j h'))
theorem Ol{α:Type}(a b c d e:α)(R:List α):(a::b::c::d::e::R).Perm (d::e::a::b::c::R):=by
 classical
 refine List.perm_iff_count.mpr fun y=>?_
 simp only [List.count_cons]
 lia
theorem Ub{α:Type}(a b c d e:α)(R:List α):(a::b::c::R++[d,e]).Perm (a::b::d::e::c::R):=by
 classical
 refine List.perm_iff_count.mpr fun y=>?_
 simp only [List.count_cons,List.count_append,List.cons_append,List.nil_append,List.count_nil]
 lia
theorem Ot{α:Type}(a b d e:α)(R:List α):(a::b::d::e::R).Perm (a::b::R++[d,e]):=by
 classical
 refine List.perm_iff_count.mpr fun y=>?_
 simp only [List.count_cons,List.count_append,List.cons_append,List.nil_append,List.count_nil]
 lia
theorem E9(q:Prt){p j:Nat}(h:j < p):(q.obs p).Perm ((q.x j+310,q.tup j)::(q.obs p).eraseIdx j):=by
 have hl:j < (q.obs p).length:=by simpa [Prt.obs] using h
 have:=L3 (q.obs p) j hl
 have e:(q.obs p)[j]=(q.x j+310,q.tup j):=by simp [Prt.obs]
 rw [e] at this
 exact this.symm
theorem Gh(q:Prt){p j:Nat}(h:j < p):(q.refs p)[j]?=some (.ref (q.x j+310)):=by simp [Prt.refs,h]
theorem Ni(q:Prt)(p:Nat):(q.refs p)[p]?=none:=by simp [Prt.refs]
theorem Ea{α:Type}(A B:List α){C C':List α}{t:α} (h:C.Perm (t::C')):(A++(B++C)).Perm ((A++[t])++(B++C')):=by
 rw [List.append_assoc]
 refine List.Perm.append_left A ?_
 exact ((List.Perm.append_left B h).trans List.perm_middle)
variable (R:RK)(K:SK)(w:World)(os:OsState)(S:Nat→Slot)(pos:Pos)(ps:LO)(q:Prt)(p:Nat)
def LenP.lm(a:LenP)(P:Params):LO:=[(a.CD+310,B9 P a.ki a.ti),(233,G6 194 19 (a.c+310)),(a.c+310,R9 a.k)]
theorem A3t(b1 b2:Bool)(a:LenP)(hv:a.vs=q.refs p)(hp:p≤7):∀d j,1≤j→j+d=p→∀m u g1 tk v1 v2,
  Goes (Z w os b1 b2) (Ab (C7 R K) S 0) (den (Hl a.n)) (Hl a.n) (G1 R K w os S a pos ps b1).p (G1 R K w os S a pos ps b1).pre (a.lj w.params j v1 v2 tk++((Oj w.params a.n a.t a.C++a.lm w.params)++q.obs p)) [(a.g,G3 (G1 R K w os S a pos ps b1))] (m+310) (u+598) g1
   (.ok (.ret (.int ((2*p:Nat):Int) (u+8*d+598)))) ([(a.C+310,Aj (a.CD+310) a.vs a.ep)]++(a.lm w.params++q.obs p)) (m+3*d+314) (u+8*d+599) g1:=by
 intro d;induction d with
 |zero=>
  intro j h1 h2 m u g1 tk v1 v2
  obtain rfl:j=p:=h2
  have hT:=A39 R K w os S a pos ps b1 b2 m u g1 tk v1 v2 (a.lm w.params++q.obs j) j h1 hp
  refine Goes.perm (Ip (ps:=a.lm w.params++q.obs j) 26 _ [0] (L:=a.lgp j m u g1) ⟨Ae (fun bl=>C3 rfl (by rw [hv];exact Ni q j)) (hn:=by simp),trivial⟩ (by decide) hT) (List.Perm.of_eq ?_)
  simp only [List.append_assoc]
 |succ d hlI=>
  intro j h1 h2 m u g1 tk v1 v2
  have hj:j < p:=by exact E1 h2
  have hT:=A30 R K w os S a pos ps b1 b2 m u g1 (q.x j) (q.s j) (q.i j) (q.y j) tk v1 v2 ((Oj w.params a.n a.t a.C++a.lm w.params)++(q.obs p).eraseIdx j) j h1 (by lia)
  have ih:=hlI (j+1) F5 (E4 h2) (m+3) (u+8) g1 (u+605) (Bu (q.s j)) (ch (q.i j) (q.y j))
  rw [show m+3+3*d+314=m+3*(d+1)+314 by exact Kx,show u+8+8*d+598=u+8*(d+1)+598 by exact Kx,show u+8+8*d+599=u+8*(d+1)+599 by exact Kx] at ih
  refine Goes.perm (Fk 120 _ [0,1,2,3,4,5] [0] (L:=a.lgj j (q.x j) m u g1) ⟨Ae (fun bl=>Bd rfl (by rw [hv];exact Gh q hj)),trivial⟩ (Goes.perm ih (Ea _ _ (E9 q hj)).symm) (by decide) (by decide) hT) (Ea _ _ (E9 q hj))
def Oy(P:Params)(C CD ep ki ti:Nat)(q:Prt)(c:Nat)(k:CoK)(p:Nat):LO:=Bv P C CD ep ki ti q p++Ee c k
theorem A5e(n t g C CD ki ti ep c:Nat)(k:CoK)(b1 b2:Bool)(h1:1≤p)(hp:p≤7):Does (Z w os b1 b2) (Nz K C) (Ab (C7 R K) S 0) (Oy w.params C CD ep ki ti q c k p) (n+310) (t+598) g (.ok (.ret (.int ((2*p:Nat):Int) (t+604+8*p)))) (Oy w.params C CD ep ki ti q c k p) (n+319+3*p) (t+605+8*p) (g+1):=by
 refine Hh fun pos=>?_
 let a:LenP:=⟨n,t,g,C,CD,ki,ti,ep,c,q.refs p,k,q.x 0,q.s 0,q.i 0,q.y 0⟩
 have L:=A3t R K w os S pos ((q.obs p).eraseIdx 0) q p b1 b2 a rfl hp (p - 1) 1 (Nat.le_refl _) (by lia) (n+8) (t+14) (g+1) (t+611) (Bu (q.s 0)) (ch (q.i 0) (q.y 0))
 have hH:=Aec R K w os S a pos ((q.obs p).eraseIdx 0) b1 b2
 have e0:=E9 q (p:=p) (j:=0) h1
 have ob:ObRs (Z w os b1 b2) a.lg0:=⟨Ae (fun bl=>Bd rfl (Gh q h1)),trivial⟩
 have N:Goes (Z w os b1 b2) (Ab (C7 R K) S 0) (den (Hl n)) (Hl n) (G1 R K w os S a pos ((q.obs p).eraseIdx 0) b1).p (G1 R K w os S a pos ((q.obs p).eraseIdx 0) b1).pre ((a.lj w.params 1 (Bu (q.s 0)) (ch (q.i 0) (q.y 0)) (t+611)++a.lr w.params)++(q.obs p).eraseIdx 0) [(g,G3 (G1 R K w os S a pos ((q.obs p).eraseIdx 0) b1))] (n+318) (t+612) (g+1) _ _ _ _ _:=Goes.perm L (by
  refine List.Perm.trans ?_ (Ea _ _ e0).symm
  simp only [List.append_assoc]
  exact List.Perm.append_left _ (Ol ..))
 have G:=Fk (ps:=(q.obs p).eraseIdx 0) (hN K b2) (hO K b2) [0,6,7,8,9,1,2,3,4,5] [0] ob N (by decide) (by decide) hH
 rw [show n+8+3*(p - 1)+314=n+319+3*p by lia,show t+14+8*(p - 1)+598=t+604+8*p by lia,show t+14+8*(p - 1)+599=t+605+8*p by lia] at G
 refine (G.perm ?_).permR ?_
 ·unfold Oy Bv Ee
  refine List.Perm.trans ((List.Perm.append_right _ (List.Perm.cons _ (List.Perm.cons _ e0)))) ?_
  exact Ub ..
 ·unfold Oy Bv Ee
  exact Ot ..
end
noncomputable def G4(C:Nat):Code:=.call (.type "str") ⟨[.ref (C+310)],[]⟩
noncomputable def El(gn ac:Nat):Code:=.builtin "list.extend.loop" ⟨[.ref (ac+310),.ref (gn+310),.ref (ac+310)],[]⟩
noncomputable def Aaj(ii r:Nat→Nat)(j:Nat):Array Value:=((List.range j).map fun a=>Value.str ⟨#[32,ii a]⟩ (r a)).toArray
noncomputable def W4(r:Nat→Nat)(j x:Nat):Nat→Nat:=fun a=>if a=j then x else r a
noncomputable def Bl(ii:Nat→Nat)(p:Nat):Str:=⟨((List.range p).flatMap fun j=>[32,ii j]).toArray⟩
def Ox(P:Params)(C CD ep ki ti:Nat)(q:Prt)(c:Nat)(k:CoK)(p:Nat):LO:=Bv P C CD ep ki ti q p++F9 c k
noncomputable def S0(n t:Nat):CoK:=⟨n+2,n+3,t+599,t+600,t+601,t+603,((t+602:Nat):Int)⟩
theorem A9h{α:Type}(a b c d:α)(R:List α):(a::b::c::R++[d]).Perm (a::b::d::c::R):=by
 classical
 refine List.perm_iff_count.mpr fun y=>?_
 simp only [List.count_cons,List.count_append,List.cons_append,List.nil_append,List.count_nil]
 lia
section
theorem Agg{P:Nat→Prop}(h1:P 1)(h2:P 2)(h3:P 3)(h4:P 4)(h5:P 5):∀j,1≤j→j≤5→P j
 |0,h,_=>absurd h (by decide)
 |1,_,_=>h1
 |2,_,_=>h2
 |3,_,_=>h3
 |4,_,_=>h4
 |5,_,_=>h5
 |j+6,_,h=>absurd h Rs
theorem Afn{P:Nat→Prop}(h2:P 2)(h3:P 3)(h4:P 4)(h5:P 5)(h6:P 6):∀j,2≤j→j≤6→P j
 |0,h,_=>absurd h (by decide)
 |1,h,_=>absurd h (by decide)
 |2,_,_=>h2
 |3,_,_=>h3
 |4,_,_=>h4
 |5,_,_=>h5
 |6,_,_=>h6
 |j+7,_,h=>absurd h Rs
def Abj(a:LenP)(P:Params):LO:=[(a.C+310,Aj (a.CD+310) a.vs a.ep),(a.CD+310,B9 P a.ki a.ti),(240,G6 197 32 (a.c+310)),(a.c+310,Hq a.k),(a.x+310,Ap (Bu a.s) (ch a.i a.y))]
def Mk(a:LenP):List Ah:=[Q5 a 0 a.n 315 a.t 602 (a.g+1) (.ok (.ret (.ref (a.x+310)))) 6 (Ad (a.C+310) 1) [] 315]
noncomputable def Za(R:RK)(K:SK)(w:World)(os:OsState)(S:Nat→Slot)(a:LenP)(p:Pos)(ps:LO)(b1 b2:Bool)(N orc:Nat):Out:=Ek (Z w os b1 b2) (Ab (C7 R K) S 0) N (den (G4 a.C)) (G4 a.C) p [] (Abj a w.params) [] (a.n+310) (a.t+598) a.g orc (F1 (Mk a)) ⟨ps,F2 (Mk a)⟩
noncomputable abbrev Cq(R:RK)(K:SK)(w:World)(os:OsState)(S:Nat→Slot)(a:LenP)(p:Pos)(ps:LO)(b1:Bool):Out:=Za R K w os S a p ps b1 false 204 o5_
def A7m(n t g:Nat):Obj:=E3 "generator" #[.int (g:Int) 0,.str (Str.ofString "<genexpr>") (t+600),.str (Str.ofString "_Accumulator.__str__.<locals>.<genexpr>") (t+601)]
def A9u(P:Params)(n t:Nat)(v1 v2:Value):Obj:=B4 #[kv P ".0" (t+599) (.ref (n+311)),kv P "fws" (t+602) v1,kv P "part" (t+603) v2] 3
def K0(a:LenP)(P:Params)(j:Nat)(v1 v2:Value)(ii r:Nat→Nat):LO:=[(a.C+310,Aj (a.CD+310) a.vs a.ep),(a.n+311,Ad (a.C+310) j),(a.n+312,A9u P a.n a.t v1 v2),(a.n+313,A7m a.n a.t a.g),(a.n+314,Ax (Aaj ii r j) (2+j))]
def Md(a:LenP)(j x m u g1:Nat):List Ah:=[Q5 a j m 310 u 598 g1 (.ok (.ret (.ref (x+310)))) 1 (Ad (a.C+310) (j+1)) [] 310]
def M6(a:LenP)(j m u g1:Nat):List Ah:=[Q5 a j m 310 u 598 g1 (.error (.ref (m+311))) 1 (Ar j) [(m+310,Br),(m+311,At (m+310))] 312]
variable (R:RK)(K:SK)(w:World)(os:OsState)(b2:Bool)(S:Nat→Slot)(a:LenP)(p:Pos)(ps:LO)
def Uj(a:LenP):LO:=[(240,G6 197 32 (a.c+310)),(a.c+310,Hq a.k)]
def Zd(a:LenP)(P:Params):LO:=(a.CD+310,B9 P a.ki a.ti)::(Uj a++[(a.x+310,Ap (Bu a.s) (ch a.i a.y)),(a.n+310,B4 #[kv P "self" (a.t+598) (.ref (a.C+310))] 1)])
noncomputable def A6a(b2:Bool):Nat:=bif b2 then 194 else 204
def A5o(b2:Bool):Nat:=bif b2 then 0x162c5811e3c0001224089122448e183030c18006001830606183000c003060c0c30600180060c00180060c184011000081022800a002800b162c58b162850a002800a14284090200500140050a14000091204084020440002080010204101020410702000870e0408002040810400000 else o5_
abbrev A7f(b1 b2:Bool):Prop:=F0 (Za R K w os S a p ps b1 b2 (A6a b2) (A5o b2)) [0,6,7,8,9,1,2,3,4,5] [0] (den (El (a.n+3) (a.n+4))) (El (a.n+3) (a.n+4)) (Cq R K w os S a p ps b1).p (Cq R K w os S a p ps b1).pre
  (K0 a w.params 1 (Bu a.s) (ch a.i a.y) (fun _=>a.i) (fun _=>a.t+604)++Zd a w.params) ps [(a.g,G3 (Cq R K w os S a p ps b1))] (a.n+319) (a.t+605) (a.g+1) (Mk a)
theorem A4f:∀b1 b2,A7f R K w os S a p ps b1 b2:=by
 intro b1 b2
 cases R<;>cases K<;>cases b1<;>cases b2<;>kernel_rfl
abbrev Xr(b1 b2:Bool)(m u g1 x s y:Nat)(v1 v2:Value)(ii r:Nat→Nat)(pt:LO)(j:Nat):Prop:=
 F0 (Ek (Z w os b1 b2) (Ab (C7 R K) S 0) 99 (den (El (a.n+3) (a.n+4))) (El (a.n+3) (a.n+4)) (Cq R K w os S a p ps b1).p (Cq R K w os S a p ps b1).pre (K0 a w.params j v1 v2 ii r++[(x+310,Ap (Bu s) (ch (ii j) y))]) [(a.g,G3 (Cq R K w os S a p ps b1))] (m+310) (u+598) g1 o6_
  (F1 (Md a j x m u g1)) ⟨pt,F2 (Md a j x m u g1)⟩) [0,1,2,3,4,5] [0] (den (El (a.n+3) (a.n+4))) (El (a.n+3) (a.n+4)) (Cq R K w os S a p ps b1).p (Cq R K w os S a p ps b1).pre
  (K0 a w.params (j+1) (Bu s) (ch (ii j) y) ii (W4 r j (u+600))++[(x+310,Ap (Bu s) (ch (ii j) y))]) pt [(a.g,G3 (Cq R K w os S a p ps b1))] (m+314) (u+601) g1 (Md a j x m u g1)
theorem A2z:∀(b1 b2:Bool) (m u g1 x s y:Nat) (v1 v2:Value) (ii r:Nat→Nat) (pt:LO) (j:Nat),1≤j→j≤5→Xr R K w os S a p ps b1 b2 m u g1 x s y v1 v2 ii r pt j:=by
 intro b1
 cases R<;>cases K<;>cases b1<;>intro _ _ _ _ _ _ _ _ _ _ _ _<;>refine Agg ?_ ?_ ?_ ?_ ?_<;>kernel_rfl
noncomputable abbrev S1(b1 b2:Bool)(m u g1:Nat)(v1 v2:Value)(ii r:Nat→Nat)(pt:LO)(j:Nat):Out:=Ek (Z w os b1 b2) (Ab (C7 R K) S 0) 30 (den (El (a.n+3) (a.n+4))) (El (a.n+3) (a.n+4)) (Cq R K w os S a p ps b1).p (Cq R K w os S a p ps b1).pre (K0 a w.params j v1 v2 ii r++Oj w.params a.n a.t a.C) [(a.g,G3 (Cq R K w os S a p ps b1))] (m+310) (u+598) g1 o7_
  (F1 (M6 a j m u g1)) ⟨pt,F2 (M6 a j m u g1)⟩
abbrev Zp(b1 b2:Bool)(m u g1:Nat)(v1 v2:Value)(ii r:Nat→Nat)(pt:LO)(j:Nat):Prop:=
 F0 (S1 R K w os S a p ps b1 b2 m u g1 v1 v2 ii r pt j) [0] [] (leafOf (.ok (.ret (.str (Bl ii j) (u+598))))) (S1 R K w os S a p ps b1 b2 m u g1 v1 v2 ii r pt j).c (S1 R K w os S a p ps b1 b2 m u g1 v1 v2 ii r pt j).p [] [(a.C+310,Aj (a.CD+310) a.vs a.ep)] pt [] (m+314) (u+599) g1 (M6 a j m u g1)
theorem A1s:∀(b1 b2:Bool) (m u g1:Nat) (v1 v2:Value) (ii r:Nat→Nat) (pt:LO) (j:Nat),2≤j→j≤6→Zp R K w os S a p ps b1 b2 m u g1 v1 v2 ii r pt j:=by
 intro b1
 cases R<;>cases K<;>cases b1<;>intro _ _ _ _ _ _ _ _ _<;>refine Afn ?_ ?_ ?_ ?_ ?_<;>kernel_rfl
variable (q:Prt)(pp:Nat)
def Lv(a:LenP)(P:Params):LO:=(a.CD+310,B9 P a.ki a.ti)::Uj a
theorem A0s(b1 b2:Bool)(hv:a.vs=q.refs pp)(hp:pp≤6)(h2p:2≤pp):∀k j,1≤j→j+k=pp→∀m u g1 v1 v2 r,
  Goes (Z w os b1 b2) (Ab (C7 R K) S 0) (den (El (a.n+3) (a.n+4))) (El (a.n+3) (a.n+4)) (Cq R K w os S a p ps b1).p (Cq R K w os S a p ps b1).pre (K0 a w.params j v1 v2 q.i r++((Oj w.params a.n a.t a.C++Lv a w.params)++q.obs pp)) [(a.g,G3 (Cq R K w os S a p ps b1))] (m+310) (u+598) g1
   (.ok (.ret (.str (Bl q.i pp) (u+3*k+598)))) ([(a.C+310,Aj (a.CD+310) a.vs a.ep)]++(Lv a w.params++q.obs pp)) (m+4*k+314) (u+3*k+599) g1:=by
 intro k;induction k with
 |zero=>
  intro j h1 h2 m u g1 v1 v2 r
  obtain rfl:j=pp:=h2
  have hT:=A1s R K w os S a p ps b1 b2 m u g1 v1 v2 q.i r (Lv a w.params++q.obs j) j h2p hp
  refine Goes.perm (Ip (ps:=Lv a w.params++q.obs j) 30 _ [0] (L:=M6 a j m u g1) ⟨Ae (fun bl=>C3 rfl (by rw [hv];exact Ni q j)) (hn:=by simp),trivial⟩ (by decide) hT) (List.Perm.of_eq ?_)
  simp only [List.append_assoc]
 |succ k hsI=>
  intro j h1 h2 m u g1 v1 v2 r
  have hj:j < pp:=by exact E1 h2
  have hT:=A2z R K w os S a p ps b1 b2 m u g1 (q.x j) (q.s j) (q.y j) v1 v2 q.i r ((Oj w.params a.n a.t a.C++Lv a w.params)++(q.obs pp).eraseIdx j) j h1 (by lia)
  have ih:=hsI (j+1) F5 (E4 h2) (m+4) (u+3) g1 (Bu (q.s j)) (ch (q.i j) (q.y j)) (W4 r j (u+600))
  rw [show m+4+4*k+314=m+4*(k+1)+314 by exact Kx,show u+3+3*k+598=u+3*(k+1)+598 by exact Kx,show u+3+3*k+599=u+3*(k+1)+599 by exact Kx] at ih
  refine Goes.perm (Fk 99 _ [0,1,2,3,4,5] [0] (L:=Md a j (q.x j) m u g1) ⟨Ae (fun bl=>Bd rfl (by rw [hv];exact Gh q hj)),trivial⟩ (Goes.perm ih (Ea _ _ (E9 q hj)).symm) (by decide) (by decide) hT) (Ea _ _ (E9 q hj))
theorem A2i(n t g C CD ki ti ep c:Nat)(k:CoK)(b1 b2:Bool)(h1:2≤pp)(hp:pp≤6):Does (Z w os b1 b2) (G4 C) (Ab (C7 R K) S 0) (Ox w.params C CD ep ki ti q c k pp) (n+310) (t+598) g (.ok (.ret (.str (Bl q.i pp) (t+602+3*pp)))) (Ox w.params C CD ep ki ti q c k pp) (n+319+4*pp) (t+603+3*pp) (g+1):=by
 refine Hh fun pos=>?_
 let a:LenP:=⟨n,t,g,C,CD,ki,ti,ep,c,q.refs pp,k,q.x 0,q.s 0,q.i 0,q.y 0⟩
 have L:=A0s R K w os S a pos ((q.obs pp).eraseIdx 0) q pp b1 b2 rfl hp h1 (pp - 1) 1 (Nat.le_refl _) (by lia) (n+9) (t+7) (g+1) (Bu (q.s 0)) (ch (q.i 0) (q.y 0)) (fun _=>t+604)
 have hH:=A4f R K w os S a pos ((q.obs pp).eraseIdx 0) b1 b2
 have e0:=E9 q (p:=pp) (j:=0) (J8 h1)
 have ob:ObRs (Z w os b1 b2) (Mk a):=⟨Ae (fun bl=>Bd rfl (Gh q (J8 h1))),trivial⟩
 have N:Goes (Z w os b1 b2) (Ab (C7 R K) S 0) (den (El (n+3) (n+4))) (El (n+3) (n+4)) (Cq R K w os S a pos ((q.obs pp).eraseIdx 0) b1).p (Cq R K w os S a pos ((q.obs pp).eraseIdx 0) b1).pre ((K0 a w.params 1 (Bu (q.s 0)) (ch (q.i 0) (q.y 0)) (fun _=>q.i 0) (fun _=>t+604)++Zd a w.params)++(q.obs pp).eraseIdx 0) [(g,G3 (Cq R K w os S a pos ((q.obs pp).eraseIdx 0) b1))] (n+319) (t+605) (g+1) _ _ _ _ _:=Goes.perm L (by
  refine List.Perm.trans ?_ (Ea _ _ e0).symm
  simp only [List.append_assoc]
  exact List.Perm.append_left _ (Ol ..))
 have G:=Fk (ps:=(q.obs pp).eraseIdx 0) (A6a b2) (A5o b2) [0,6,7,8,9,1,2,3,4,5] [0] ob N (by decide) (by decide) hH
 rw [show n+9+4*(pp - 1)+314=n+319+4*pp by lia,show t+7+3*(pp - 1)+598=t+602+3*pp by lia,show t+7+3*(pp - 1)+599=t+603+3*pp by lia] at G
 refine (G.perm ?_).permR ?_
 ·unfold Ox Bv F9
  refine List.Perm.trans ((List.Perm.append_right _ (List.Perm.cons _ (List.Perm.cons _ e0)))) ?_
  exact Ub ..
 ·unfold Ox Bv F9
  exact Ot ..
end
section
abbrev Mb:List Kd:=C7 .l .a
def Ac1(a:LenP)(P:Params):LO:=[(a.C+310,Aj (a.CD+310) a.vs a.ep),(a.CD+310,B9 P a.ki a.ti),(240,De),(a.x+310,Ap (Bu a.s) (ch a.i a.y))]
def M3(a:LenP):List Ah:=[Q5 a 0 a.n 318 a.t 607 (a.g+1) (.ok (.ret (.ref (a.x+310)))) 5 (Ad (a.C+310) 1) [] 318]
noncomputable def Ze(w:World)(os:OsState)(S:Nat→Slot)(a:LenP)(p:Pos)(ps:LO)(b1 b2:Bool)(N orc:Nat):Out:=Ek (Z w os b1 b2) (Ab Mb S 0) N (den (G4 a.C)) (G4 a.C) p [] (Ac1 a w.params) [] (a.n+310) (a.t+598) a.g orc (F1 (M3 a)) ⟨ps,F2 (M3 a)⟩
noncomputable abbrev Co(w:World)(os:OsState)(S:Nat→Slot)(a:LenP)(p:Pos)(ps:LO)(b1:Bool):Out:=Ze w os S a p ps b1 false 215 o8_
def A8d(n t g:Nat):Obj:=E3 "generator" #[.int (g:Int) 0,.str (Str.ofString "<genexpr>") (t+605),.str (Str.ofString "_Accumulator.__str__.<locals>.<genexpr>") (t+606)]
def A7i(P:Params)(n t:Nat)(v1 v2:Value):Obj:=B4 #[kv P ".0" (t+604) (.ref (n+311)),kv P "fws" (t+607) v1,kv P "part" (t+608) v2] 3
def Jv(a:LenP)(P:Params)(j:Nat)(v1 v2:Value)(ii r:Nat→Nat):LO:=[(a.C+310,Aj (a.CD+310) a.vs a.ep),(a.n+311,Ad (a.C+310) j),(a.n+315,A7i P a.n a.t v1 v2),(a.n+316,A8d a.n a.t a.g),(a.n+317,Ax (Aaj ii r j) (2+j))]
def M4(a:LenP)(j x m u g1:Nat):List Ah:=[Q5 a j m 310 u 598 g1 (.ok (.ret (.ref (x+310)))) 1 (Ad (a.C+310) (j+1)) [] 310]
def Mj(a:LenP)(j m u g1:Nat):List Ah:=[Q5 a j m 310 u 598 g1 (.error (.ref (m+311))) 1 (Ar j) [(m+310,Br),(m+311,At (m+310))] 312]
variable (w:World)(os:OsState)(b2:Bool)(S:Nat→Slot)(a:LenP)(p:Pos)(ps:LO)
def Uo(a:LenP):LO:=[(240,G6 197 32 (a.n+314)),(a.n+314,Hq (S0 a.n a.t))]
def Z9(a:LenP)(P:Params):LO:=(a.CD+310,B9 P a.ki a.ti)::(Uo a++[(a.x+310,Ap (Bu a.s) (ch a.i a.y)),(a.n+310,B4 #[kv P "self" (a.t+598) (.ref (a.C+310))] 1)])
noncomputable def A6r(b2:Bool):Nat:=bif b2 then 205 else 215
def A5u(b2:Bool):Nat:=bif b2 then 0x3468d0244880002c581162c58b20387051c3800e003870e0a387001c0070e1c1470e003800e1c002800a14287021c001020460018006001a3468d1a3460c1800600183060a160400c003000c1830000162c0810810204020438002080010204101020410602000860c0408002040810400000 else o8_
abbrev A9t(b1 b2:Bool):Prop:=F0 (Ze w os S a p ps b1 b2 (A6r b2) (A5u b2)) [0,5,9,10,11,1,2,8,3,4] [0] (den (El (a.n+6) (a.n+7))) (El (a.n+6) (a.n+7)) (Co w os S a p ps b1).p (Co w os S a p ps b1).pre
  (Jv a w.params 1 (Bu a.s) (ch a.i a.y) (fun _=>a.i) (fun _=>a.t+609)++Z9 a w.params) ps [(a.g,G3 (Co w os S a p ps b1))] (a.n+322) (a.t+610) (a.g+1) (M3 a)
theorem A3c:∀b1 b2,A9t w os S a p ps b1 b2
 |false,false=>by kernel_rfl
 |false,true=>by kernel_rfl
 |true,false=>by kernel_rfl
 |true,true=>by kernel_rfl
abbrev Xc(b1 b2:Bool)(m u g1 x s y:Nat)(v1 v2:Value)(ii r:Nat→Nat)(pt:LO)(j:Nat):Prop:=
 F0 (Ek (Z w os b1 b2) (Ab Mb S 0) 99 (den (El (a.n+6) (a.n+7))) (El (a.n+6) (a.n+7)) (Co w os S a p ps b1).p (Co w os S a p ps b1).pre (Jv a w.params j v1 v2 ii r++[(x+310,Ap (Bu s) (ch (ii j) y))]) [(a.g,G3 (Co w os S a p ps b1))] (m+310) (u+598) g1 o6_
  (F1 (M4 a j x m u g1)) ⟨pt,F2 (M4 a j x m u g1)⟩) [0,1,2,3,4,5] [0] (den (El (a.n+6) (a.n+7))) (El (a.n+6) (a.n+7)) (Co w os S a p ps b1).p (Co w os S a p ps b1).pre
  (Jv a w.params (j+1) (Bu s) (ch (ii j) y) ii (W4 r j (u+600))++[(x+310,Ap (Bu s) (ch (ii j) y))]) pt [(a.g,G3 (Co w os S a p ps b1))] (m+314) (u+601) g1 (M4 a j x m u g1)
theorem A3e:∀(b1 b2:Bool) (m u g1 x s y:Nat) (v1 v2:Value) (ii r:Nat→Nat) (pt:LO) (j:Nat),1≤j→j≤5→Xc w os S a p ps b1 b2 m u g1 x s y v1 v2 ii r pt j
 |false,_,_,_,_,_,_,_,_,_,_,_,_,1,_,_=>by kernel_rfl
 |false,_,_,_,_,_,_,_,_,_,_,_,_,2,_,_=>by kernel_rfl
 |false,_,_,_,_,_,_,_,_,_,_,_,_,3,_,_=>by kernel_rfl
 |false,_,_,_,_,_,_,_,_,_,_,_,_,4,_,_=>by kernel_rfl
 |false,_,_,_,_,_,_,_,_,_,_,_,_,5,_,_=>by kernel_rfl
 |true,_,_,_,_,_,_,_,_,_,_,_,_,1,_,_=>by kernel_rfl
 |true,_,_,_,_,_,_,_,_,_,_,_,_,2,_,_=>by kernel_rfl
 |true,_,_,_,_,_,_,_,_,_,_,_,_,3,_,_=>by kernel_rfl
 |true,_,_,_,_,_,_,_,_,_,_,_,_,4,_,_=>by kernel_rfl
 |true,_,_,_,_,_,_,_,_,_,_,_,_,5,_,_=>by kernel_rfl
 |_,_,_,_,_,_,_,_,_,_,_,_,_,0,h,_=>absurd h (by decide)
 |_,_,_,_,_,_,_,_,_,_,_,_,_,j+6,_,h=>absurd h Rs
noncomputable abbrev So(b1 b2:Bool)(m u g1:Nat)(v1 v2:Value)(ii r:Nat→Nat)(pt:LO)(j:Nat):Out:=Ek (Z w os b1 b2) (Ab Mb S 0) 30 (den (El (a.n+6) (a.n+7))) (El (a.n+6) (a.n+7)) (Co w os S a p ps b1).p (Co w os S a p ps b1).pre (Jv a w.params j v1 v2 ii r++Oj w.params a.n a.t a.C) [(a.g,G3 (Co w os S a p ps b1))] (m+310) (u+598) g1 o7_
  (F1 (Mj a j m u g1)) ⟨pt,F2 (Mj a j m u g1)⟩
abbrev Z6(b1 b2:Bool)(m u g1:Nat)(v1 v2:Value)(ii r:Nat→Nat)(pt:LO)(j:Nat):Prop:=
 F0 (So w os S a p ps b1 b2 m u g1 v1 v2 ii r pt j) [0] [] (leafOf (.ok (.ret (.str (Bl ii j) (u+598))))) (So w os S a p ps b1 b2 m u g1 v1 v2 ii r pt j).c (So w os S a p ps b1 b2 m u g1 v1 v2 ii r pt j).p [] [(a.C+310,Aj (a.CD+310) a.vs a.ep)] pt [] (m+314) (u+599) g1 (Mj a j m u g1)
theorem A4a:∀(b1 b2:Bool) (m u g1:Nat) (v1 v2:Value) (ii r:Nat→Nat) (pt:LO) (j:Nat),2≤j→j≤6→Z6 w os S a p ps b1 b2 m u g1 v1 v2 ii r pt j
 |false,_,_,_,_,_,_,_,_,_,2,_,_=>by kernel_rfl
 |false,_,_,_,_,_,_,_,_,_,3,_,_=>by kernel_rfl
 |false,_,_,_,_,_,_,_,_,_,4,_,_=>by kernel_rfl
 |false,_,_,_,_,_,_,_,_,_,5,_,_=>by kernel_rfl
 |false,_,_,_,_,_,_,_,_,_,6,_,_=>by kernel_rfl
 |true,_,_,_,_,_,_,_,_,_,2,_,_=>by kernel_rfl
 |true,_,_,_,_,_,_,_,_,_,3,_,_=>by kernel_rfl
 |true,_,_,_,_,_,_,_,_,_,4,_,_=>by kernel_rfl
 |true,_,_,_,_,_,_,_,_,_,5,_,_=>by kernel_rfl
 |true,_,_,_,_,_,_,_,_,_,6,_,_=>by kernel_rfl
 |_,_,_,_,_,_,_,_,_,_,0,h,_=>absurd h (by decide)
 |_,_,_,_,_,_,_,_,_,_,1,h,_=>absurd h (by decide)
 |_,_,_,_,_,_,_,_,_,_,j+7,_,h=>absurd h Rs
variable (q:Prt)(pp:Nat)
def Lc(a:LenP)(P:Params):LO:=(a.CD+310,B9 P a.ki a.ti)::Uo a
theorem A24(b1 b2:Bool)(hv:a.vs=q.refs pp)(hp:pp≤6)(h2p:2≤pp):∀k j,1≤j→j+k=pp→∀m u g1 v1 v2 r,
  Goes (Z w os b1 b2) (Ab Mb S 0) (den (El (a.n+6) (a.n+7))) (El (a.n+6) (a.n+7)) (Co w os S a p ps b1).p (Co w os S a p ps b1).pre (Jv a w.params j v1 v2 q.i r++((Oj w.params a.n a.t a.C++Lc a w.params)++q.obs pp)) [(a.g,G3 (Co w os S a p ps b1))] (m+310) (u+598) g1
   (.ok (.ret (.str (Bl q.i pp) (u+3*k+598)))) ([(a.C+310,Aj (a.CD+310) a.vs a.ep)]++(Lc a w.params++q.obs pp)) (m+4*k+314) (u+3*k+599) g1:=by
 intro k;induction k with
 |zero=>
  intro j h1 h2 m u g1 v1 v2 r
  obtain rfl:j=pp:=h2
  have hT:=A4a w os S a p ps b1 b2 m u g1 v1 v2 q.i r (Lc a w.params++q.obs j) j h2p hp
  refine Goes.perm (Ip (ps:=Lc a w.params++q.obs j) 30 _ [0] (L:=Mj a j m u g1) ⟨Ae (fun bl=>C3 rfl (by rw [hv];exact Ni q j)) (hn:=by simp),trivial⟩ (by decide) hT) (List.Perm.of_eq ?_)
  simp only [List.append_assoc]
 |succ k hsI=>
  intro j h1 h2 m u g1 v1 v2 r
  have hj:j < pp:=by exact E1 h2
  have hT:=A3e w os S a p ps b1 b2 m u g1 (q.x j) (q.s j) (q.y j) v1 v2 q.i r ((Oj w.params a.n a.t a.C++Lc a w.params)++(q.obs pp).eraseIdx j) j h1 (by lia)
  have ih:=hsI (j+1) F5 (E4 h2) (m+4) (u+3) g1 (Bu (q.s j)) (ch (q.i j) (q.y j)) (W4 r j (u+600))
  rw [show m+4+4*k+314=m+4*(k+1)+314 by exact Kx,show u+3+3*k+598=u+3*(k+1)+598 by exact Kx,show u+3+3*k+599=u+3*(k+1)+599 by exact Kx] at ih
  refine Goes.perm (Fk 99 _ [0,1,2,3,4,5] [0] (L:=M4 a j (q.x j) m u g1) ⟨Ae (fun bl=>Bd rfl (by rw [hv];exact Gh q hj)),trivial⟩ (Goes.perm ih (Ea _ _ (E9 q hj)).symm) (by decide) (by decide) hT) (Ea _ _ (E9 q hj))
theorem A3y(n t g C CD ki ti ep:Nat)(b1 b2:Bool)(h1:2≤pp)(hp:pp≤6):Does (Z w os b1 b2) (G4 C) (Ab Mb S 0) (Bv w.params C CD ep ki ti q pp++[(240,De)]) (n+310) (t+598) g (.ok (.ret (.str (Bl q.i pp) (t+607+3*pp)))) (Ox w.params C CD ep ki ti q (n+4) (S0 n t) pp) (n+322+4*pp) (t+608+3*pp) (g+1):=by
 refine Hh fun pos=>?_
 let a:LenP:=⟨n,t,g,C,CD,ki,ti,ep,0,q.refs pp,S0 0 0,q.x 0,q.s 0,q.i 0,q.y 0⟩
 have L:=A24 w os S a pos ((q.obs pp).eraseIdx 0) q pp b1 b2 rfl hp h1 (pp - 1) 1 (Nat.le_refl _) (by lia) (n+12) (t+12) (g+1) (Bu (q.s 0)) (ch (q.i 0) (q.y 0)) (fun _=>t+609)
 have hH:=A3c w os S a pos ((q.obs pp).eraseIdx 0) b1 b2
 have e0:=E9 q (p:=pp) (j:=0) (J8 h1)
 have ob:ObRs (Z w os b1 b2) (M3 a):=⟨Ae (fun bl=>Bd rfl (Gh q (J8 h1))),trivial⟩
 have N:Goes (Z w os b1 b2) (Ab Mb S 0) (den (El (n+6) (n+7))) (El (n+6) (n+7)) (Co w os S a pos ((q.obs pp).eraseIdx 0) b1).p (Co w os S a pos ((q.obs pp).eraseIdx 0) b1).pre ((Jv a w.params 1 (Bu (q.s 0)) (ch (q.i 0) (q.y 0)) (fun _=>q.i 0) (fun _=>t+609)++Z9 a w.params)++(q.obs pp).eraseIdx 0) [(g,G3 (Co w os S a pos ((q.obs pp).eraseIdx 0) b1))] (n+322) (t+610) (g+1) _ _ _ _ _:=Goes.perm L (by
  refine List.Perm.trans ?_ (Ea _ _ e0).symm
  simp only [List.append_assoc]
  exact List.Perm.append_left _ (Ol ..))
 have G:=Fk (ps:=(q.obs pp).eraseIdx 0) (A6r b2) (A5u b2) [0,5,9,10,11,1,2,8,3,4] [0] ob N (by decide) (by decide) hH
 rw [show n+12+4*(pp - 1)+314=n+322+4*pp by lia,show t+12+3*(pp - 1)+598=t+607+3*pp by lia,show t+12+3*(pp - 1)+599=t+608+3*pp by lia] at G
 refine (G.perm ?_).permR ?_
 ·unfold Bv
  refine List.Perm.trans ((List.Perm.append_right _ (List.Perm.cons _ (List.Perm.cons _ e0)))) ?_
  exact A9h ..
 ·unfold Ox Bv F9
  exact Ot ..
end
section
def V2(o:Out)(js:List Nat)(L:List Ah):=(o.why,o.ob.map (·.1),o.nb+o.m,o.tb+o.i,o.gb+o.gi,Hk o.T o.A js,Od (L.reverse.map told) o.lg,o.pp.ps,Ac6 o.pre,Im o.t)
abbrev Op(o:Out)(js:List Nat)(lf:Leaf)(l₁ ps₁:LO)(n₁ t₁ g₁:Nat)(L:List Ah):Prop:=
 V2 o js L
  = (0,o.ob.map (·.2),n₁,t₁,g₁,some l₁,L.reverse,ps₁,true,some lf)
noncomputable def Ak(z:Zed) (below:List (Code×Pos)) (N:Nat) (c:Code) (l:LO) (n t g orc:Nat) (L:List Ah) (ps:LO):Pos→Out:=fun p=>Ek z below N (den c) c p [] l [] n t g orc (F1 L) ⟨ps,F2 L⟩
abbrev Ao:=Pos→Nat×List Addr×Nat×Nat×Nat×Option LO×List Ah×LO×Bool×Option Leaf
def B7(o:Pos→Out)(js:List Nat)(L:List Ah):Ao:=fun p=>V2 (o p) js L
noncomputable def B6(o:Pos→Out)(lf:Leaf)(l₁ ps₁:LO)(n₁ t₁ g₁:Nat)(L:List Ah):Ao:=fun p=>(0,(o p).ob.map (·.2),n₁,t₁,g₁,some l₁,L.reverse,ps₁,true,some lf)
section
variable {z:Zed} {below:List (Code×Pos)} {l l' l₁ ps ps₁:LO} {n t g n' t' g' n₁ t₁ g₁:Nat} {res:Result}
theorem Y5{o:Out}{js:List Nat}{lf:Leaf}{L:List Ah}(h:Op o js lf l₁ ps₁ n₁ t₁ g₁ L):F0 o js [] o.t o.c o.p [] l₁ ps₁ [] n₁ t₁ g₁ L∧Im o.t=some lf:=by
 simp only [Op,V2,Prod.mk.injEq] at h
 refine Af fun Gz hGz=>?_
 obtain ⟨h1,h2,h3,h4,h5,h6,h7,h8,h9,h10⟩:=h
 have hpre:o.pre=[]:=by
  cases q:o.pre with
  |nil=>rfl
  |cons=>rw [q] at h9;cases h9
 refine hGz ?_
 refine ⟨?_,h10⟩
 unfold F0 R5
 rw [h1,h2,h3,h4,h5,h6,h7,h8,hpre]
 rfl
theorem V4{c c₂:Code}{p:Pos}(hq:H0 c₂=true)(next:Does z c₂ below l n t g res l' n' t' g'):Goes z below (.pure (.again c₂)) c p [] l [] n t g res l' n' t' g':=by
 intro s S _
 refine Af fun Gz hGz=>?_
 obtain ⟨r,s₂,hr,rfl,S₂,K₂⟩:=next s p S
 have q:=runs_reach (M:=model z.prog z.w) hr (Av below) (by have:=Hs (l:=[]) below c₂ rfl;exact this)
 refine hGz ?_
 refine ⟨s₂,?_,S₂,⟨K₂.heap,fun j hj _=>K₂.gens j hj,K₂.size,K₂.gsize⟩⟩
 exact .step (pre₁:=[]) (PySem.step_again (hq:=by rw [Iw];exact hq) ..) q
theorem Bo{c:Code}(N orc:Nat)(js:List Nat){L:List Ah}(hL:ObRs z L)(hjs:js.Nodup) (h:∀p,Op (Ek z below N (den c) c p [] l [] n t g orc (F1 L) ⟨ps,F2 L⟩) js (.res res) l₁ ps₁ n₁ t₁ g₁ L):
  Does z c below (l++ps) n t g res (l₁++ps₁) n₁ t₁ g₁:=by
 refine Hh fun p=>?_
 obtain ⟨h1,h2⟩:=Y5 (h p)
 exact Ip N orc js hL hjs h1 (Pn h2)
theorem Bz{c c₂:Code}(N orc:Nat)(js:List Nat){L:List Ah}(hL:ObRs z L) (next:Does z c₂ below (l₁++ps₁) n₁ t₁ g₁ res l' n' t' g') (hq:H0 c₂=true) (hjs:js.Nodup)
  (h:∀p,Op (Ek z below N (den c) c p [] l [] n t g orc (F1 L) ⟨ps,F2 L⟩) js (.again c₂) l₁ ps₁ n₁ t₁ g₁ L):Does z c below (l++ps) n t g res l' n' t' g':=by
 refine Hh fun p=>?_
 obtain ⟨h1,h2⟩:=Y5 (h p)
 have e:=Mw h2
 rw [e] at h1
 exact Fk N orc js [] hL (V4 hq next) hjs List.nodup_nil h1
end
def qD(c:Code)(v:Value)(d n t g:Nat):Ah:=qC c [] n t g (.ok (.ret v)) [] [] [] n (t+d) g
theorem Fa{z:Zed}{c:Code}{v:Value}{d n t g:Nat} (h:∀A s R,s.toks=t→R (.ok (.ret v)) {s with toks:=s.toks+d}→codeAny (model z.prog z.w) A c R s):Ed z (qD c v d n t g):=
 Ae fun bl s p S=>Gj fun A=>h A s _ S.ht ⟨rfl,⟨S.ok,S.knows,S.nodup,S.fit,S.stat,S.low,S.bare,S.os,S.hn,by show s.toks+d=_;rw [S.ht],S.hg⟩,⟨fun _ _ e _=>e,fun _ _=>rfl,Nat.le_refl _,Nat.le_refl _⟩⟩
noncomputable def Mp(nm:String)(a:Int)(ta:Nat)(b:Int)(tb:Nat):Code:=.call (.builtin nm) ⟨[.int a ta,.int b tb],[]⟩
def B5(a:Int)(ta:Nat)(b:Int)(tb n t g:Nat):Ah:=qD (Mp "int.__add__" a ta b tb) (.int (a+b) t) 1 n t g
def J5(a:Int)(ta:Nat)(b:Int)(tb n t g:Nat):Ah:=qD (Mp "int.__sub__" a ta b tb) (.int (a - b) t) 1 n t g
def Dn(a:Int)(ta:Nat)(b:Int)(tb n t g:Nat):Ah:=qD (Mp "int.__mul__" a ta b tb) (.int (a*b) t) 1 n t g
def Vf(a:Int)(ta:Nat)(b:Int)(tb n t g:Nat):Ah:=qD (Mp "int.__mod__" a ta b tb) (.int (a.fmod b) t) 1 n t g
def C5(a:Int)(ta:Nat)(b:Int)(tb n t g:Nat):Ah:=qD (Mp "int.__floordiv__" a ta b tb) (.int (a.fdiv b) t) 1 n t g
def Aja(a:Int)(ta:Nat)(b:Int)(tb:Nat)(v:Bool)(n t g:Nat):Ah:=qD (Mp "int.__lt__" a ta b tb) (.bool v) 0 n t g
def Ajg(a:Int)(ta:Nat)(b:Int)(tb:Nat)(v:Bool)(n t g:Nat):Ah:=qD (Mp "int.__le__" a ta b tb) (.bool v) 0 n t g
def A44(a:Int)(ta:Nat)(b:Int)(tb:Nat)(v:Bool)(n t g:Nat):Ah:=qD (Mp "int.__gt__" a ta b tb) (.bool v) 0 n t g
def Aiu(a:Int)(ta:Nat)(b:Int)(tb:Nat)(v:Bool)(n t g:Nat):Ah:=qD (Mp "int.__ge__" a ta b tb) (.bool v) 0 n t g
def Aj9(a:Int)(ta:Nat)(b:Int)(tb:Nat)(v:Bool)(n t g:Nat):Ah:=qD (Mp "int.__eq__" a ta b tb) (.bool v) 0 n t g
section
variable {z:Zed}{a b:Int}{ta tb n t g:Nat}{v:Bool}
theorem Aw:Ed z (B5 a ta b tb n t g):=Fa fun A s R e h=>Agq (by rw [e] at h ⊢;exact h)
theorem I8:Ed z (J5 a ta b tb n t g):=Fa fun A s R e h=>Ag7 (by rw [e] at h ⊢;exact h)
theorem Cy(hm:IntMulOk a b):Ed z (Dn a ta b tb n t g):=Fa fun A s R e h=>Al F.slot_int_mul (typeIs_int s a ta) F.entry_int_mul (F.args_int_mul_2 _ _) (gives_int_mul a b ta tb hm).meets (by subst e;exact h)
theorem Yx (hb:(b == 0)=false):Ed z (Vf a ta b tb n t g):=Fa fun A s R e h=>Al F.slot_int_mod (typeIs_int s a ta) F.entry_int_mod (F.args_int_mod_2 _ _) (AutoIntG6.int___mod___int_int_1 a ta b tb (by rw [hb];decide)).meets (by subst e;exact h)
theorem C4 (hb:(b == 0)=false) (hc:Builtin.divisionGoesByPylong a b=false):Ed z (C5 a ta b tb n t g):=Fa fun A s R e h=>Al F.slot_int_floordiv (typeIs_int s a ta) F.entry_int_floordiv (F.args_int_floordiv_2 _ _) (AutoIntG4.int___floordiv___int_int_1 a ta b tb (by rw [hb];decide) (by rw [hc];decide)).meets (by subst e;exact h)
theorem Dm (h:decide (a < b)=v):Ed z (Aja a ta b tb v n t g):=Fa fun A s R _ hR=>Ajj (by rw [h];exact hR)
theorem Eh (h:decide (a > b)=v):Ed z (A44 a ta b tb v n t g):=Fa fun A s R _ hR=>Ajn (by rw [h];exact hR)
theorem Rb (h:(a == b)=v):Ed z (Aj9 a ta b tb v n t g):=Fa fun A s R _ hR=>Ajo (by rw [h];exact hR)
theorem Afl (h:decide (a≤b)=v):Ed z (Ajg a ta b tb v n t g):=Fa fun A s R _ hR=>Al F.slot_int_le (typeIs_int s a ta) F.entry_int_le (F.args_int_le_2 _ _) (gives_int_le a b ta tb).meets (by rw [h];exact hR)
theorem Re (h:decide (a ≥ b)=v):Ed z (Aiu a ta b tb v n t g):=Fa fun A s R _ hR=>Al F.slot_int_ge (typeIs_int s a ta) F.entry_int_ge (F.args_int_ge_2 _ _) (gives_int_ge a b ta tb).meets (by rw [h];exact hR)
end
theorem Bb{z:Zed}{ks:List Kd}{c:Code}{l:LO}{n t g:Nat}{res:Result}{js:List Nat}{os:List Obj}{news:LO}{n' t' g':Nat} (h:∀S,Does z c (Ab ks S 0) l n t g res ((l.map (·.1)).zip os++news) n' t' g') (hk:Fc ks=true:=by rfl) (hj:js.Nodup:=by decide) (hl:os.length=js.length:=by rfl) (hn:∀u∈news,n≤u.1:=by intro _ h;nomatch h):
  Ed z (qK ks c l n t g res js os news n' t' g'):=Ago (fun bl hb=>by obtain ⟨S,rfl⟩:=Ht bl ks 0 hb hk;exact h S) hj hl hn
theorem B0{z:Zed}{ks:List Kd}{c:Code}{l ps ps':LO}{n t g:Nat}{res:Result}{js:List Nat}{os:List Obj}{news:LO}{n' t' g':Nat} (hp:∀q∈ps',q.1∈ps.map (·.1)∨n≤q.1) (h:∀S,Does z c (Ab ks S 0) (l++ps) n t g res (((l.map (·.1)).zip os++news)++ps') n' t' g') (hk:Fc ks=true:=by rfl) (hj:js.Nodup:=by decide) (hl:os.length=js.length:=by rfl) (hn:∀u∈news,n≤u.1:=by intro _ h;nomatch h):
  Ed z (qP (some ks) c l ps ps' n t g res js os news n' t' g'):=Afy hp (fun bl hb=>by obtain ⟨S,rfl⟩:=Ht bl ks 0 hb hk;exact h S) hj hl hn
section
variable {z:Zed} {below:List (Code×Pos)} {l l' l₁:LO} {n t g n' t' g' n₁ t₁ g₁:Nat} {res:Result}
theorem Cc{c:Code}(N orc:Nat)(js:List Nat){L:List Ah}(hL:ObRs z L)(hjs:js.Nodup) (h:∀p,Op (Ek z below N (den c) c p [] l [] n t g orc (F1 L) ⟨[],F2 L⟩) js (.res res) l₁ [] n₁ t₁ g₁ L):
  Does z c below l n t g res l₁ n₁ t₁ g₁:=by
 have:=Bo (ps:=[]) (ps₁:=[]) N orc js hL hjs h
 rwa [List.append_nil,List.append_nil] at this
theorem B2{c c₂:Code}(N orc:Nat)(js:List Nat){L:List Ah}(hL:ObRs z L)(next:Does z c₂ below l₁ n₁ t₁ g₁ res l' n' t' g')(hq:H0 c₂=true)(hjs:js.Nodup)
  (h:∀p,Op (Ek z below N (den c) c p [] l [] n t g orc (F1 L) ⟨[],F2 L⟩) js (.again c₂) l₁ [] n₁ t₁ g₁ L):Does z c below l n t g res l' n' t' g':=by
 have:=Bz (ps:=[]) (ps₁:=[]) N orc js hL (by rw [List.append_nil];exact next) hq hjs h
 rwa [List.append_nil] at this
end
end
noncomputable def Ji(w:World)(R:RK)(K:SK)(n t g C CD ki ti ep c:Nat)(k:CoK)(q:Prt):List Ah:=[]
noncomputable def S8(b1 b2:Bool):Nat:=match b2 with
 |false=>254
 |true=>244
noncomputable def Su(b1 b2:Bool):Nat:=match b2 with
 |false=>0x164c091102010810004001000081022800a002800b162c08f1e000091204489122470c181060c003000c183020c18006001830604183000c0030600080020408204080420400100040010004001020081022800a002800b162c58b162850a002800a14284090200500140050a14000091204085020440002080010204101020410702000870e0408002040810400000
 |true=>0x593024440804204001000400020408a002800a002c58b023c780002448112244891c30604183000c003060c0830600180060c181060c003000c18002000810208102010810004001000081022800a002800b162c58b162850a002800a14284090200500140050a14000091204085020440002080010204101020410702000870e0408002040810400000
noncomputable def Acu(w:World)(os:OsState)(S:Nat→Slot)(n:Nat)(t:Nat)(g:Nat)(C:Nat)(CD:Nat)(ki:Nat)(ti:Nat)(ep:Nat)(c:Nat)(k:CoK)(q:Prt)(R:RK)(K:SK)(b1 b2:Bool):Ao:=B7 (Ak (Z w os b1 b2) (Ab (C7 R K) S 0) (S8 b1 b2) (G4 C) ([(C+310,Aj (CD+310) (q.refs 1) ep),(CD+310,B9 w.params ki ti),(q.x 0+310,q.tup 0),(240,G6 197 32 (c+310)),(c+310,Hq k)]) (n+310) (t+598) g (Su b1 b2) (Ji w R K n t g C CD ki ti ep c k q) []) [0,1,2,3,4] (Ji w R K n t g C CD ki ti ep c k q)
noncomputable def Ab1(w:World)(os:OsState)(S:Nat→Slot)(n:Nat)(t:Nat)(g:Nat)(C:Nat)(CD:Nat)(ki:Nat)(ti:Nat)(ep:Nat)(c:Nat)(k:CoK)(q:Prt)(R:RK)(K:SK)(b1 b2:Bool):Ao:=B6 (Ak (Z w os b1 b2) (Ab (C7 R K) S 0) (S8 b1 b2) (G4 C) ([(C+310,Aj (CD+310) (q.refs 1) ep),(CD+310,B9 w.params ki ti),(q.x 0+310,q.tup 0),(240,G6 197 32 (c+310)),(c+310,Hq k)]) (n+310) (t+598) g (Su b1 b2) (Ji w R K n t g C CD ki ti ep c k q) []) (.res (.ok (.ret (.str (Bl q.i 1) (t+604))))) ([(C+310,({cls:=.ref 271,dict:=some (CD+310),data:=.seq #[.ref (q.1 0+310)] ep}:Obj)),(CD+310,An #[kv w.params "_initial_size" ki (.int 0 ti)] 1),(q.1 0+310,Cg #[.str (Str.ofString " ") (q.3 0),.str (⟨#[q.i 0]⟩:Str) (q.4 0)]),(240,({cls:=.none,data:=.fields #[.int 197 0,.int 32 0,.ref (c+310)]}:Obj)),(c+310,E3 "code" #[.str (Str.ofString "<genexpr>") k.3,.str (Str.ofString "_Accumulator.__str__.<locals>.<genexpr>") k.4,.str (Str.ofString "/claim/cut.py") k.5,.int 197 0,.int 1 0,.int 0 0,.int 0 0,.int 51 0,.ref (k.1+310),.bool true,.int 181 0,.ref (k.2+310),.none,.none,.none,.none,.int k.t5 0,.int 197 0,.str (Str.ofString "/claim/cut.py") k.6])]) ([]) (n+323) (t+605) (g+1) (Ji w R K n t g C CD ki ti ep c k q)
theorem Aj4(w:World)(os:OsState)(S:Nat→Slot)(n:Nat)(t:Nat)(g:Nat)(C:Nat)(CD:Nat)(ki:Nat)(ti:Nat)(ep:Nat)(c:Nat)(k:CoK)(q:Prt)(R:RK)(K:SK):∀(b1 b2:Bool),Acu w os S n t g C CD ki ti ep c k q R K b1 b2=Ab1 w os S n t g C CD ki ti ep c k q R K b1 b2
 |false,false=>by cases R<;>cases K<;>kernel_rfl
 |false,true=>by cases R<;>cases K<;>kernel_rfl
 |true,false=>by cases R<;>cases K<;>kernel_rfl
 |true,true=>by cases R<;>cases K<;>kernel_rfl
theorem Yo(R:RK)(K:SK)(n t g C CD ki ti ep c:Nat)(k:CoK)(q:Prt)(b1 b2:Bool) (hL:ObRs (Z w os b1 b2) (Ji w R K n t g C CD ki ti ep c k q)):Does (Z w os b1 b2) (G4 C) (Ab (C7 R K) S 0) ([(C+310,Aj (CD+310) (q.refs 1) ep),(CD+310,B9 w.params ki ti),(q.x 0+310,q.tup 0),(240,G6 197 32 (c+310)),(c+310,Hq k)]) (n+310) (t+598) g (.ok (.ret (.str (Bl q.i 1) (t+604)))) ([(C+310,Aj (CD+310) (q.refs 1) ep),(CD+310,B9 w.params ki ti),(q.x 0+310,q.tup 0),(240,G6 197 32 (c+310)),(c+310,Hq k)]) (n+323) (t+605) (g+1):=
 by rw [show ([(C+310,Aj (CD+310) (q.refs 1) ep),(CD+310,B9 w.params ki ti),(q.x 0+310,q.tup 0),(240,G6 197 32 (c+310)),(c+310,Hq k)]:LO)=[(C+310,({cls:=.ref 271,dict:=some (CD+310),data:=.seq #[.ref (q.1 0+310)] ep}:Obj)),(CD+310,An #[kv w.params "_initial_size" ki (.int 0 ti)] 1),(q.1 0+310,Cg #[.str (Str.ofString " ") (q.3 0),.str (⟨#[q.i 0]⟩:Str) (q.4 0)]),(240,({cls:=.none,data:=.fields #[.int 197 0,.int 32 0,.ref (c+310)]}:Obj)),(c+310,E3 "code" #[.str (Str.ofString "<genexpr>") k.3,.str (Str.ofString "_Accumulator.__str__.<locals>.<genexpr>") k.4,.str (Str.ofString "/claim/cut.py") k.5,.int 197 0,.int 1 0,.int 0 0,.int 0 0,.int 51 0,.ref (k.1+310),.bool true,.int 181 0,.ref (k.2+310),.none,.none,.none,.none,.int k.t5 0,.int 197 0,.str (Str.ofString "/claim/cut.py") k.6])] from by kernel_rfl];exact Cc (S8 b1 b2) (Su b1 b2) [0,1,2,3,4] hL (by decide) (fun p=>congrFun (Aj4 w os S n t g C CD ki ti ep c k q R K  b1 b2) p)
section
def Fu(P:Params):FuncData:=Fe (Wf P)
theorem Aes(w:World)(P:Params)(L:Addr) (bl:List (Code×Pos)):Le (model pw w) (Cx (Cw (Fu P) 231 L) bl) (PySem.W.Fast.popF (As (Bi (Fu P)) 0) 231 230 ⟨191,15,191,20⟩ ⟨191,15,191,22⟩ "pop" ⟨191,15,191,26⟩ ⟨191,15,191,28⟩ ⟨191,8,191,28⟩ (C9 (Fu P) 231 L)) (denote table (Cw (Fu P) 231 L)):=by
 rw [← PySem.W.Fast.popF_eq]
 have hb:Bi (Fu P)=[As (Bi (Fu P)) 0,.Return (some (Il ⟨191,15,191,20⟩ ⟨191,15,191,22⟩ "pop" ⟨191,15,191,26⟩ ⟨191,15,191,28⟩)) ⟨191,8,191,28⟩]:=by kernel_rfl
 unfold popT Cw
 refine W5 ?_
 generalize As (Bi (Fu P)) 0=st at hb ⊢
 refine Le.trans (Pv ?_) (Le.of_eq (congrArg (fun b=>execs b _) hb.symm))
 exact Yi rfl rfl (by kernel_rfl) (by kernel_rfl) (by kernel_rfl) (by kernel_rfl)
section
variable (R:RK)(w:World)(os:OsState)(b1 b2:Bool)(S:Nat→Slot)(n t g C CD ep:Nat)(vs:Array Value)
variable (ki ti:Nat)(q:Prt)
def Qz(R:RK)(n t g C CD ep:Nat)(q:Prt)(p:Nat):Et:=
 (.call (.ref 268) ⟨[.ref (C+310)],[]⟩,N4 R .p,[(C+310,Aj (CD+310) (q.refs (p+1)) ep)],n+311+0,t+599+0,g+0,⟨.ok (.ret (.int (q.refs (p+1)).size (t+601))),[0],[Aj (CD+310) (q.refs (p+1)) ep],[],n+311,3,t+599,3,g,0⟩)
theorem Ac8(p:Nat):Qq (Z w os b1 b2) (Qz R n t g C CD ep q p):=by
 refine ⟨by simp [Qz],rfl,fun u hu=>(nomatch hu),fun bl hb=>?_⟩
 obtain ⟨S,rfl⟩:=Ht bl _ 0 hb (Ux R .p)
 show Does (Z w os b1 b2) (.call (.ref 268) ⟨[.ref (C+310)],[]⟩) (Ab (N4 R .p) S 0) [(C+310,Aj (CD+310) (q.refs (p+1)) ep)] (n+311+0) (t+599+0) (g+0) (.ok (.ret (.int (q.refs (p+1)).size (t+601)))) [(C+310,Aj (CD+310) (q.refs (p+1)) ep)] (n+311+3) (t+599+3) (g+0)
 exact Abt R .p w os b1 b2 S (n+1) (t+1) g C CD ep (q.refs (p+1))
def Oz(P:Params)(C CD ep ki ti:Nat)(q:Prt)(p:Nat):LO:=[(C+310,Aj (CD+310) (q.refs p) ep),(CD+310,B9 P ki ti)]
theorem A4c(p:Nat):∀pos,Fb (Mg (Z w os b1 b2) (Ab (C7 R .n) S 0) 9 (.call (.ref 231) ⟨[.ref (C+310)],[]⟩) pos (Oz w.params C CD ep ki ti q (p+1)) (n+310) (t+598) g 0x10810081 (Go []))
  [0,1,2] (.again (Cw (Fu w.params) 231 (n+310))) (Oz w.params C CD ep ki ti q (p+1)++[(n+310,B4 #[kv w.params "self" (t+598) (.ref (C+310))] 1)]) (n+311) (t+599) g []:=by
 intro pos
 cases R<;>kernel_rfl
def Aiq(b1:Bool)(p:Nat):Prop:=∀pos,Fb (Mm (Z w os b1 b2) (Ab (C7 R .n) S 0) 102 (PySem.W.Fast.popF (As (Bi (Fu w.params)) 0) 231 230 ⟨191,15,191,20⟩ ⟨191,15,191,22⟩ "pop" ⟨191,15,191,26⟩ ⟨191,15,191,28⟩ ⟨191,8,191,28⟩ (C9 (Fu w.params) 231 (n+310))) (Cw (Fu w.params) 231 (n+310)) pos
  (Oz w.params C CD ep ki ti q (p+1)++[(n+310,B4 #[kv w.params "self" (t+598) (.ref (C+310))] 1)]) (n+311) (t+599) g 0x8102040008104080820c003010400001021428500140050a142850a1428104080800a0028500000800004201020408100000810608081020410102041010204104 (Go [Qz R n t g C CD ep q p]))
  [0,1] (.res (.ok (.ret (.ref (q.x p+310))))) (Oz w.params C CD (ep+1) ki ti q p) (n+316) (t+604) g [Qz R n t g C CD ep q p]
theorem Ym{p:Nat}(h:p < 6):p=0∨p=1∨p=2∨p=3∨p=4∨p=5:=(by decide +kernel:∀p,p < 6→p=0∨p=1∨p=2∨p=3∨p=4∨p=5) p h
theorem A90(p:Nat)(hp:p < 6):Aiq R w os b2 S n t g C CD ep ki ti q b1 p:=by
 obtain rfl | rfl | rfl | rfl | rfl | rfl:=Ym hp<;>cases R<;>cases b1<;>(intro _;kernel_rfl)
theorem Agd(p:Nat)(hp:p < 6):Does (Z w os b1 b2) (.call (.ref 231) ⟨[.ref (C+310)],[]⟩) (Ab (C7 R .n) S 0) (Oz w.params C CD ep ki ti q (p+1)) (n+310) (t+598) g (.ok (.ret (.ref (q.x p+310)))) (Oz w.params C CD (ep+1) ki ti q p) (n+316) (t+604) g:=by
 refine Ko 9 0x10810081 [0,1,2] .nil ?_ (by kernel_rfl) (by decide) (A4c R w os b1 b2 S n t g C CD ep ki ti q p)
 exact Lu _ 102 _ [0,1] (.cons (Ac8 R w os b1 b2 n t g C CD ep q p) .nil) (by decide) (Aes (wf w b1 b2) w.params (n+310) _) (A90 R w os b1 b2 S n t g C CD ep ki ti q p hp)
end
end
end Mine
namespace Mine
open PySem PySem.W PySem.W.X PyProof.Rows PySem.MeetsSeq PySem.SeqAt PySem.Builtin.Str
variable {w:World}{os:OsState}{S:Nat→Slot}{res:Result}{l':LO}{n' t' g':Nat}
theorem Iq{z:Zed}{c:Code} {bl:List (Code×Pos)} {l:LO} {n t g:Nat} {r:Result} {d:Nat}
  (h:∀A s R,(∀q∈l,s.heap.get? q.1=some q.2)→s.toks=t→R r {s with toks:=s.toks+d}→codeAny (model z.prog z.w) A c R s):Does z c bl l n t g r l n (t+d) g:=by
 intro s p S
 exact Gj fun A=>h A s _ S.knows S.ht ⟨rfl,⟨S.ok,S.knows,S.nodup,S.fit,S.stat,S.low,S.bare,S.os,S.hn,by show s.toks+d=_;rw [S.ht],S.hg⟩,⟨fun _ _ e _=>e,fun _ _=>rfl,Nat.le_refl _,Nat.le_refl _⟩⟩
noncomputable def L7(a b:Value):Obj:={cls:=.type "tuple",data:=.seq #[a,b]}
theorem A8p{z:Zed} {bl:List (Code×Pos)} {l b:Addr} {x y x' y':Str} {t1 t2 t3 t4 n t g:Nat} (hv:(x == x' && y == y')=false):
  Does z (.call (.builtin "tuple.__ne__") ⟨[.ref l,.ref b],[]⟩) bl [(l,L7 (.str x t1) (.str y t2)),(b,L7 (.str x' t3) (.str y' t4))] n t g (.ok (.ret (.bool true))) [(l,L7 (.str x t1) (.str y t2)),(b,L7 (.str x' t3) (.str y' t4))] n (t+0) g:=
 Iq fun A s R k _ hR=>by
  have hl:=k _ (.head _)
  have hb:=k _ (.tail _ (.head _))
  refine Al F.slot_tuple_ne ⟨_,hl,rfl⟩ F.entry_tuple_ne (F.args_tuple_ne_2 _ _) (tuple_neAt l b _ _ _ _ none none #[] #[] (fun j=>if j=0 then x == x' else y == y')) ⟨hl,hb,fun j h1 h2=>?_,?_⟩
  ·match j,h1,h2 with
   |0,_,_=>exact EqAt.str_str x t1 x' t3
   |1,_,_=>exact EqAt.str_str y t2 y' t4
   |j+2,h1,_=>exact absurd h1 (by simp)
  ·have:(!((List.range (min #[Value.str x t1,Value.str y t2].size #[Value.str x' t3,Value.str y' t4].size)).all (fun j=>if j=0 then x == x' else y == y') && #[Value.str x t1,Value.str y t2].size == #[Value.str x' t3,Value.str y' t4].size))=true:=by
    show (!(((x == x') && ((y == y') && true)) && true))=true
    rw [Bool.and_true,Bool.and_true,hv];rfl
   rw [this];exact hR
theorem A02{z:Zed} {bl:List (Code×Pos)} {a:Addr} {sep:Str} {tk n t g e:Nat} {l:List (Str×Tok)} (h2:2≤l.length) (hl:PySem.Builtin.Str.tooLong ((l.map (·.1)).toArray.foldl (·+·.length+sep.length) 0)=false):
  Does z (.call (.builtin "str.join") ⟨[.str sep tk,.ref a],[]⟩) bl [(a,Aa (strValues l).toArray e)] n t g (.ok (.ret (.str (Txt.join sep (l.map (·.1))) t))) [(a,Aa (strValues l).toArray e)] n (t+1) g:=
 Iq fun A s R k ht hR=>by
  have ha:=k _ (.head _)
  refine Al F.slot_str_join (typeIs_str s sep tk) F.entry_str_join (F.args_str_join_2 _ _) (meets_str_join_list sep tk a l hl) ⟨⟨_,ha,rfl,_,rfl⟩,?_⟩
  match l,h2 with
  |p::q::r,_=>
   subst ht
   exact ⟨joinFit_length hl,hR⟩
theorem Cu{z:Zed}{c:Code} {bl:List (Code×Pos)} {l:LO} {n t g:Nat} {r:Result} {d:Nat}
  (h:∀A s R,(∀q∈l,s.heap.get? q.1=some q.2)→s.toks=t→R r {s with toks:=s.toks+d}→codeAny (model z.prog z.w) A c R s):Does z c bl l n t g r l n (t+d) g:=by
 intro s p S
 exact Gj fun A=>h A s _ S.knows S.ht ⟨rfl,⟨S.ok,S.knows,S.nodup,S.fit,S.stat,S.low,S.bare,S.os,S.hn,by show s.toks+d=_;rw [S.ht],S.hg⟩,⟨fun _ _ e _=>e,fun _ _=>rfl,Nat.le_refl _,Nat.le_refl _⟩⟩
theorem Oi(l:Addr)(items:Array Value)(n:Nat)(i:Int)(u:Tok)(y:Value)(h0:0≤i)(hf:Builtin.List.listFitsIndex i=true)(hy:items[i.toNat]?=some y):
  Meets (Builtin.«list.__getitem__» ⟨[.ref l,.int i u],[]⟩)
   (fun _ R s=>s.heap.get? l=some {cls:=.type "list",data:=.seq items n}∧R (.ok (.ret y)) s):=
 .of_wp fun prog w A R s h=>by
  obtain ⟨hl,h⟩:=h
  show wpAny _ _ (Builtin.List.listSubscript? (.int i u) >>= _) _ _ s
  refine wpAny_bind (wpAny_listSubscript_int hf ?_)
  clear hf
  obtain ⟨j,rfl⟩:=Int.eq_ofNat_of_zero_le h0
  have hx':items[j]?=some y:=hy
  show wpAny _ _ ((seqItemAt l j >>= fun r=>pure (r.map (j,·))) >>= _) _ _ s
  refine wpAny_bind (wpAny_bind (wpAny_seqItemAt hl rfl (wpAny_pure ?_)))
  rw [hx']
  exact wpAny_pure ⟨_,rfl,h⟩
noncomputable def Ww(a:Addr)(i:Int)(u:Nat):Code:=.call (.builtin "list.__getitem__") ⟨[.ref a,.int i u],[]⟩
theorem Ba{z:Zed} {bl:List (Code×Pos)} {a:Addr} {vs:Array Value} {e n t g u:Nat} {i:Int} {y:Value} (h0:0≤i) (hfit:i < 2 ^ 63) (hy:vs[i.toNat]?=some y):
  Does z (Ww a i u) bl [(a,Aa vs e)] n t g (.ok (.ret y)) [(a,Aa vs e)] n (t+0) g:=
 Cu fun A s R k' _ hR=>by
  have ha:=k' _ (.head _)
  exact Al slot_list_getitem ⟨_,ha,rfl⟩ entry_list_getitem (args_list_getitem _ _) (Oi a vs e i u y h0 (fitsIndex_of h0 hfit) hy) ⟨ha,hR⟩
theorem Bw{z:Zed} {bl:List (Code×Pos)} {a:Addr} {vs:Array Value} {e n t g:Nat} (hfit:(vs.size:Int) < 2 ^ 63):
  Does z (.call (.builtin "len") ⟨[.ref a],[]⟩) bl [(a,Aa vs e)] n t g (.ok (.ret (.int vs.size (t+1)))) [(a,Aa vs e)] n (t+2) g:=
 Cu fun A s R k' ht hR=>by
  have ha:=k' _ (.head _)
  refine codeAny_call_builtin plain_len entry_len (wpAny_of_eq (args_len1 _) ?_)
  refine wpAny_mono (wpAny_len_body_list (E:=fun e s'=>R (.error e) s') (Q:=fun r s'=>R (.ok (.ret r)) s') ⟨_,ha,rfl,_,rfl⟩ hfit (by rw [ht];rw [ht] at hR;exact hR)) ?_ ?_
  ·rintro fin s' ⟨r,rfl,h⟩
   exact h
  ·intro _ _ h;exact h
theorem Xd{z:Zed}{c:Code} {bl:List (Code×Pos)} {a:Addr} {o o':Obj} {rs:LO} {H:Heap→Heap} {n t g:Nat} {r:Result} {d:Nat} (hH:∀h:Heap,h.get? a=some o→Heap.SameBut a h (H h)∧(H h).get? a=some o')
  (h:∀A s R,s.heap.get? a=some o→(∀q∈rs,s.heap.get? q.1=some q.2)→s.toks=t→R r {s with heap:=H s.heap,toks:=s.toks+d}→codeAny (model z.prog z.w) A c R s):Does z c bl ((a,o)::rs) n t g r ((a,o')::rs) n (t+d) g:=by
 intro s p S
 have ha:s.heap.get? a=some o:=S.knows _ (.head _)
 obtain ⟨hs,ge⟩:=hH s.heap ha
 have fit:=S.fit a (.head _)
 have nd:=List.nodup_cons.mp S.nodup
 refine Gj fun A=>h A s _ ha (fun q hq=>S.knows q (.tail _ hq)) S.ht ⟨rfl,⟨S.ok,fun q hq=>?_,S.nodup,S.fit,fun b o' e q=>?_,S.low,S.bare,S.os,?_,?_,S.hg⟩,⟨fun b o' e m=>?_,fun _ _=>rfl,?_,Nat.le_refl _⟩⟩
 ·rcases List.mem_cons.mp hq with rfl | hq
  ·exact ge
  ·exact (hs.2 _ fun w=>nd.1 (List.mem_map.mpr ⟨q,hq,w⟩)).trans (S.knows q (.tail _ hq))
 ·refine (hs.2 b fun w=>?_).trans (S.stat b o' e q)
  subst w
  rcases fit with w | w
  ·rw [w] at q;cases q
  ·have:=S.ok.low _ _ e;exact Hn w this
 ·show (H s.heap).objs.size=n;rw [hs.1];exact S.hn
 ·show s.toks+d=t+d;rw [S.ht]
 ·exact (hs.2 b fun w=>m (w▸.head _)).trans e
 ·show s.heap.objs.size≤(H s.heap).objs.size;rw [hs.1];exact Nat.le_refl _
theorem Hg{z:Zed}{c:Code} {bl:List (Code×Pos)} {l:LO} {o:Obj} {n t g:Nat} {r:Result} {d:Nat} (hf:o.isFreed=false)
  (h:∀A s R,A.handled=none→(∀q∈l,s.heap.get? q.1=some q.2)→s.heap.objs.size=n→s.toks=t→R r {s with heap:=s.heap.push o,toks:=s.toks+d}→codeAny (model z.prog z.w) A c R s):Does z c bl l n t g r (l++[(n,o)]) (n+1) (t+d) g:=by
 intro s p S
 have hn:=S.hn
 have up:∀b o',s.heap.get? b=some o'→(s.heap.push o).get? b=some o':=fun b o' e=>Heap.get?_push_of_some _ e
 have lt:∀q∈l,q.1 < n:=fun q hq=>hn▸Heap.lt_size (S.knows q hq)
 have e:(l++[(n,o)]).map (·.1)=l.map (·.1)++[n]:=by simp
 refine Ds (h _ s _ rfl S.knows hn S.ht ⟨rfl,⟨S.ok,fun q hq=>?_,?_,fun b hb=>?_,fun b o' e q=>up _ _ (S.stat b o' e q),?_,S.bare,S.os,?_,?_,S.hg⟩,⟨fun b o' e m=>up _ _ e,fun _ _=>rfl,?_,Nat.le_refl _⟩⟩)
 ·rcases List.mem_append.mp hq with hq | hq
  ·exact up _ _ (S.knows q hq)
  ·rcases List.mem_singleton.mp hq with rfl
   have:=Heap.get?_push_size s.heap (o:=o) hf
   rw [hn] at this
   exact this
 ·rw [e]
  refine List.nodup_append.mpr ⟨S.nodup,by simp,fun x hx y hy w=>?_⟩
  obtain ⟨q,hq,rfl⟩:=List.mem_map.mp hx
  have:=lt q hq
  have hy:=List.mem_singleton.mp hy
  subst hy;exact absurd (w▸this) (Nat.lt_irrefl _)
 ·rw [e] at hb
  rcases List.mem_append.mp hb with hb | hb
  ·exact S.fit b hb
  ·have hb:=List.mem_singleton.mp hb
   subst hb;exact .inr S.low
 ·exact Nat.le_succ_of_le S.low
 ·show (s.heap.push o).objs.size=n+1
  rw [Heap.size_push,hn]
 ·show s.toks+d=t+d;rw [S.ht]
 ·show s.heap.objs.size≤(s.heap.push o).objs.size
  rw [Heap.size_push];exact Nat.le_succ _
theorem A4m{z:Zed}{c:Code} {bl:List (Code×Pos)} {l:LO} {n t g:Nat}
  (h:∀A s R,A.handled=none→(∀q∈l,s.heap.get? q.1=some q.2)→s.heap.objs.size=n→R (.error (.ref (n+1))) {s with heap:=(s.heap.push Br).push (At n)}→codeAny (model z.prog z.w) A c R s):
  Does z c bl l n t g (.error (.ref (n+1))) (l++[(n,Br),(n+1,At n)]) (n+2) (t+0) g:=by
 intro s p S
 have hn:=S.hn
 have up:∀b o',s.heap.get? b=some o'→((s.heap.push Br).push (At n)).get? b=some o':=fun b o' e=>Heap.get?_push_of_some _ (Heap.get?_push_of_some _ e)
 have lt:∀q∈l,q.1 < n:=fun q hq=>hn▸Heap.lt_size (S.knows q hq)
 have sz2:(s.heap.push Br).objs.size=n+1:=by rw [Heap.size_push,hn]
 have e:(l++[(n,Br),(n+1,At n)]).map (·.1)=l.map (·.1)++[n,n+1]:=by simp
 refine Ds (h _ s _ rfl S.knows hn ⟨rfl,⟨S.ok,fun q hq=>?_,?_,fun b hb=>?_,fun b o' e q=>up _ _ (S.stat b o' e q),?_,S.bare,S.os,?_,S.ht,S.hg⟩,⟨fun b o' e m=>up _ _ e,fun _ _=>rfl,?_,Nat.le_refl _⟩⟩)
 ·rcases List.mem_append.mp hq with hq | hq
  ·exact up _ _ (S.knows q hq)
  ·rcases List.mem_cons.mp hq with rfl | hq
   ·refine Heap.get?_push_of_some _ ?_
    have:=Heap.get?_push_size s.heap (o:=Br) rfl
    rw [hn] at this
    exact this
   ·rcases List.mem_singleton.mp hq with rfl
    have:=Heap.get?_push_size (s.heap.push Br) (o:=At n) rfl
    rw [sz2] at this
    exact this
 ·rw [e]
  refine List.nodup_append.mpr ⟨S.nodup,by simp,fun x hx y hy w=>?_⟩
  obtain ⟨q,hq,rfl⟩:=List.mem_map.mp hx
  have:=lt q hq
  rcases List.mem_cons.mp hy with hy | hy
  ·subst hy;exact absurd (w▸this) (Nat.lt_irrefl _)
  ·have hy:=List.mem_singleton.mp hy
   subst hy;exact absurd (w▸this) (Nat.not_lt.mpr (Nat.le_succ _))
 ·rw [e] at hb
  rcases List.mem_append.mp hb with hb | hb
  ·exact S.fit b hb
  ·right
   rcases List.mem_cons.mp hb with hb | hb
   ·subst hb;exact S.low
   ·have hb:=List.mem_singleton.mp hb
    subst hb;exact Nat.le_succ_of_le S.low
 ·have:=S.low;exact Ey this
 ·show ((s.heap.push Br).push (At n)).objs.size=n+2
  rw [Heap.size_push,sz2]
 ·show s.heap.objs.size≤((s.heap.push Br).push (At n)).objs.size
  rw [Heap.size_push,sz2,hn];lia
noncomputable def Pc(a:Int)(ta:Nat)(b:Int)(tb:Nat)(c:Int)(tc:Nat):Obj:={cls:=.type "range",data:=.fields #[.int a ta,.int b tb,.int c tc]}
noncomputable def Ac(x left step:Int):Obj:={cls:=.type "range_iterator",data:=.fields #[.int x 0,.int left 0,.int step 0]}
noncomputable def Ajh(r:Addr):Code:=.call (.builtin "range.__iter__") ⟨[.ref r],[]⟩
noncomputable def Abd(it:Addr):Code:=.call (.builtin "range_iterator.__next__") ⟨[.ref it],[]⟩
theorem Be{z:Zed} {bl:List (Code×Pos)} {r:Addr} {a b c:Int} {ta tb tc n t g:Nat} (hs:Builtin.Range.small a b c=true):
  Does z (Ajh r) bl [(r,Pc a ta b tb c tc)] n t g (.ok (.ret (.ref n))) [(r,Pc a ta b tb c tc),(n,Ac a (Builtin.Range.rangeSize a b c) c)] (n+1) (t+0) g:=
 Hg (o:=Ac a (Builtin.Range.rangeSize a b c) c) (d:=0) rfl fun A s R _ k hn _ hR=>by
  have ha:=k _ (.head _)
  refine Al F.slot_range_iter ⟨_,ha,rfl⟩ F.entry_range_iter (F.args_range_iter_1 _) (AutoRange.range___iter___range_1 r a b c ta tb tc (by rw [show (Builtin.Range.rangeFitsLong a && Builtin.Range.rangeFitsLong b && Builtin.Range.rangeFitsLong c && Builtin.Range.rangeFitsLong (Builtin.Range.rangeSize a b c) && (Builtin.Range.rangeSize a b c == 0 || if c > 0 then Builtin.Range.rangeFitsLong (b+(c - 1)) else Builtin.Range.rangeFitsLong (b+(c+1))))=true from hs];decide)) ⟨ha,?_⟩
  rw [show (Builtin.Range.rangeFitsLong a && Builtin.Range.rangeFitsLong b && Builtin.Range.rangeFitsLong c && Builtin.Range.rangeFitsLong (Builtin.Range.rangeSize a b c) && (Builtin.Range.rangeSize a b c == 0 || if c > 0 then Builtin.Range.rangeFitsLong (b+(c - 1)) else Builtin.Range.rangeFitsLong (b+(c+1))))=true from hs,hn]
  exact hR
theorem B1{z:Zed} {bl:List (Code×Pos)} {it:Addr} {x left step:Int} {n t g:Nat} (hl:0 < left):
  Does z (Abd it) bl [(it,Ac x left step)] n t g (.ok (.ret (.int x t))) [(it,Ac (x+step) (left - 1) step)] n (t+1) g:=
 Xd (H:=fun h=>(h.update it (Obj.mapFields fun v=>v.setIfInBounds 0 (rawInt (x+step)))).update it (Obj.mapFields fun v=>v.setIfInBounds 1 (rawInt (left - 1)))) (fun h hh=>⟨(Heap.SameBut.update ..).trans (Heap.SameBut.update ..),Heap.get?_update_self _ (Heap.get?_update_self _ hh rfl) rfl⟩)
  fun A s R ha _ ht hR=>Al F.slot_range_iterator_next ⟨_,ha,rfl⟩ F.entry_range_iterator_next (F.args_range_iterator_next_1 _) (AutoRange.range_iterator___next___range_iterator_1 it x left step (Ajc hl)) ⟨ha,by subst ht;exact hR⟩
theorem Sl{it:Addr}{x left step:Int}(hleft:left≤0):Meets (Builtin.«range_iterator.__next__» ⟨[.ref it],[]⟩)
  (fun A R s=>A.handled=none∧s.heap.get? it=some (Ac x left step)∧R (.error (.ref (s.heap.objs.size+1))) {s with heap:=(s.heap.push Br).push (At s.heap.objs.size)}):=
 .of_wp fun prog w A R s h=>by
  refine Af fun Gz hGz=>?_
  obtain ⟨hh,hit,h⟩:=h
  refine hGz ?_
  show wpAny _ _ (field (.ref it) 0 >>= _) _ _ s
  refine wpAny_bind (wpAny_field hit rfl (x:=rawInt x) rfl ?_)
  show wpAny _ _ (field (.ref it) 1 >>= _) _ _ s
  refine wpAny_bind (wpAny_field hit rfl (x:=rawInt left) rfl ?_)
  show wpAny _ _ (field (.ref it) 2 >>= _) _ _ s
  refine wpAny_bind (wpAny_field hit rfl (x:=rawInt step) rfl ?_)
  show wpAny _ _ (if left≤0 then _ else _) _ _ s
  rw [if_pos hleft]
  refine wpAny_bind (wpAny_rule ?_)
  refine wpAny_bind ?_
  show wpAny _ _ (newExc (.type "StopIteration") [] >>= _) _ _ _
  refine wpAny_bind ?_
  simp only [newExc,newTuple]
  refine wpAny_bind (wpAny_newObj_type ?_ (by size_fits))
  refine wpAny_bind (m:=firstArgMember _ _) (wpAny_of_eq (a:=Value.none) (by first | rfl | (simp only [firstArgMember];rfl)) ?_)
  refine wpAny_newObj_type ?_ (by size_fits)
  simp only [raiseNew]
  refine wpAny_bind (wpAny_handled ?_)
  first | rw [show A.in1.handled=none from hh] | rw [hh]
  refine wpAny_bind (wpAny_pure (wpAny_throw ?_))
  have e1:(s.heap.push Br).objs.size=s.heap.objs.size+1:=by rw [Heap.size_push]
  rw [← e1] at h
  exact h
theorem Bm{z:Zed} {bl:List (Code×Pos)} {it:Addr} {x left step:Int} {n t g:Nat} (hl:left≤0):
  Does z (Abd it) bl [(it,Ac x left step)] n t g (.error (.ref (n+1))) [(it,Ac x left step),(n,Br),(n+1,At n)] (n+2) (t+0) g:=
 A4m fun A s R hh k hn hR=>by
  have ha:=k _ (.head _)
  exact Al F.slot_range_iterator_next ⟨_,ha,rfl⟩ F.entry_range_iterator_next (F.args_range_iterator_next_1 _) (Sl hl) ⟨hh,ha,by rw [hn];exact hR⟩
noncomputable def Aa4(st:Stmt):List Stmt:=match st with
 |.If _ b _ _=>b
 |_=>[]
noncomputable def Xb(st:Stmt):List Stmt:=match st with
 |.If _ _ b _=>b
 |_=>[]
noncomputable def Rr(st:Stmt):List Stmt:=match st with
 |.For _ _ b _ _=>b
 |.While _ b _ _=>b
 |_=>[]
noncomputable def Oc(st:Stmt)(env:Env):Code:=match st with
 |.While t b o _=>.whileLoop t b o env
 |_=>.call .none {}
noncomputable def Es(st:Stmt)(it:Value)(env:Env):Code:=match st with
 |.For t _ b o _=>.forLoop t it b o env
 |_=>.call .none {}
noncomputable def Xu (l u:Option (Int×Nat)):Obj:={cls:=.type "slice",data:=.fields #[partValue l,partValue u,.none]}
abbrev Ib(R:RK):List Kd:=kL::kL::kF::Do R
theorem A8g(R:RK):Fc (Ib R)=true:=by cases R<;>rfl
noncomputable def Prt.put(q:Prt)(p a i s y:Nat):Prt:=⟨fun j=>if j=p then a else q.x j,fun j=>if j=p then i else q.i j,fun j=>if j=p then s else q.s j,fun j=>if j=p then y else q.y j⟩
abbrev Ho(P:Params)(m:MK):LO:=[(m.M+310,Az (m.MD+310)),(m.MD+310,By P m)]
abbrev Q28(R:RK)(m:MK)(q:Prt)(pp:Nat)(n:Nat)(x:Nat)(ts:Nat)(ty:Nat)(ep:Nat)(w:World)(ti:Nat)(ps:LO)(ps1:LO)(t:Nat)(g:Nat)(tl:Nat) x0_ (n2:Nat) (t2:Nat) (g2:Nat):=(qP (some (C7 R .a)) (A4d m.C) [(m.C+310,Aj (m.CD+310) ((q.put pp (n+2) x ts ty).refs (pp+1)) (ep+1)),(m.CD+310,B9 w.params m.ki ti),(n+312,Ap (Bu ts) (ch x ty))] ps ps1 (n+313) (t+606) g (.ok (.ret (.int ((2*(pp+1):Nat):Int) tl))) [2,3,x0_] [Aj (m.CD+310) ((q.put pp (n+2) x ts ty).refs (pp+1)) (ep+1),B9 w.params m.ki ti,Ap (Bu ts) (ch x ty)] [] (n2+310) (t2+598) g2:Ah)
def Lm(w:World)(R:RK)(n t g:Nat)(m:MK)(q:Prt)(pp ep ti x ts ty n2 t2 g2 tl:Nat)(ps ps1:LO):List Ah:=[Q28 R m q pp n x ts ty ep w ti ps ps1 t g tl 6 n2 t2 g2,
 (A44 ((2*(pp+1):Nat):Int) tl m.mx m.tm false (n2+310) (t2+599) g2)]
noncomputable def Agb(w:World)(os:OsState)(S:Nat→Slot)(n:Nat)(t:Nat)(g:Nat)(m:MK)(q:Prt)(ep:Nat)(ti:Nat)(x:Nat)(ts:Nat)(ty:Nat)(n2:Nat)(t2:Nat)(g2:Nat)(tl:Nat)(ps:LO)(ps1:LO)(R:RK)(pp:Nat)(b1 b2:Bool):Ao:=B7 (Ak (Z w os b1 b2) (Ab (Ib R) S 0) 167 (.call (.ref 184) ⟨[.ref (m.M+310),Bu ts,ch x ty],[]⟩) ([(m.M+310,Az (m.MD+310)),(m.MD+310,By w.params m),(m.C+310,Aj (m.CD+310) (q.refs pp) ep),(m.CD+310,B9 w.params m.ki ti)]) (n+310) (t+598) g o9_ (Lm w R n t g m q pp ep ti x ts ty n2 t2 g2 tl ps ps1) ps) [0,1,2,3,6] (Lm w R n t g m q pp ep ti x ts ty n2 t2 g2 tl ps ps1)
noncomputable def Agw(w:World)(os:OsState)(S:Nat→Slot)(n:Nat)(t:Nat)(g:Nat)(m:MK)(q:Prt)(ep:Nat)(ti:Nat)(x:Nat)(ts:Nat)(ty:Nat)(n2:Nat)(t2:Nat)(g2:Nat)(tl:Nat)(ps:LO)(ps1:LO)(R:RK)(pp:Nat)(b1 b2:Bool):Ao:=B6 (Ak (Z w os b1 b2) (Ab (Ib R) S 0) 167 (.call (.ref 184) ⟨[.ref (m.M+310),Bu ts,ch x ty],[]⟩) ([(m.M+310,Az (m.MD+310)),(m.MD+310,By w.params m),(m.C+310,Aj (m.CD+310) (q.refs pp) ep),(m.CD+310,B9 w.params m.ki ti)]) (n+310) (t+598) g o9_ (Lm w R n t g m q pp ep ti x ts ty n2 t2 g2 tl ps ps1) ps) (.res (.ok (.ret (.none)))) ([(m.M+310,Az (m.MD+310)),(m.MD+310,By w.params m),(m.C+310,Aj (m.CD+310) ((q.put pp (n+2) x ts ty).refs (pp+1)) (ep+1)),(m.CD+310,B9 w.params m.ki ti),(n+312,Ap (Bu ts) (ch x ty))]) ps1 (n2+310) (t2+599) g2 (Lm w R n t g m q pp ep ti x ts ty n2 t2 g2 tl ps ps1)
theorem chk(w:World)(os:OsState)(S:Nat→Slot)(n:Nat)(t:Nat)(g:Nat)(m:MK)(q:Prt)(ep:Nat)(ti:Nat)(x:Nat)(ts:Nat)(ty:Nat)(n2:Nat)(t2:Nat)(g2:Nat)(tl:Nat)(ps:LO)(ps1:LO)(R:RK)(pp:Nat)(hp:pp < 6):∀(b1 b2:Bool),Agb w os S n t g m q ep ti x ts ty n2 t2 g2 tl ps ps1 R pp b1 b2=Agw w os S n t g m q ep ti x ts ty n2 t2 g2 tl ps ps1 R pp b1 b2
 |false,_=>by obtain rfl |rfl |rfl |rfl |rfl |rfl:=Ym hp<;>cases R<;>kernel_rfl
 |true,_=>by obtain rfl |rfl |rfl |rfl |rfl |rfl:=Ym hp<;>cases R<;>kernel_rfl
theorem A4u(R:RK)(n t g:Nat)(m:MK)(q:Prt)(pp ep ti x ts ty n2 t2 g2 tl:Nat)(ps ps1:LO)(hp:pp < 6)(b1 b2:Bool) (hL:ObRs (Z w os b1 b2) (Lm w R n t g m q pp ep ti x ts ty n2 t2 g2 tl ps ps1)):Does (Z w os b1 b2) (.call (.ref 184) ⟨[.ref (m.M+310),Bu ts,ch x ty],[]⟩) (Ab (Ib R) S 0) (([(m.M+310,Az (m.MD+310)),(m.MD+310,By w.params m),(m.C+310,Aj (m.CD+310) (q.refs pp) ep),(m.CD+310,B9 w.params m.ki ti)])++ps) (n+310) (t+598) g (.ok (.ret (.none))) (([(m.M+310,Az (m.MD+310)),(m.MD+310,By w.params m),(m.C+310,Aj (m.CD+310) ((q.put pp (n+2) x ts ty).refs (pp+1)) (ep+1)),(m.CD+310,B9 w.params m.ki ti),(n+312,Ap (Bu ts) (ch x ty))])++ps1) (n2+310) (t2+599) g2:=
 Bo 167 o9_ [0,1,2,3,6] hL (by decide) (fun p=>congrFun (chk w os S n t g m q ep ti x ts ty n2 t2 g2 tl ps ps1 R pp hp b1 b2) p)
noncomputable def ovE(pp ep:Nat):Nat:=match pp with
 |1=>ep+2
 |_=>ep+3
theorem lt7{p:Nat}(h:0 < p∧p < 7):p=1∨p=2∨p=3∨p=4∨p=5∨p=6:=by lia
abbrev Q30(m:MK)(q:Prt) x0_ x1_ (ls:Array Value) (el:Nat) (x2_:Nat) (x3_:Nat) x4_:=(qC (.call (.builtin "list.append") ⟨[.ref (m.L+310),.str (Bl q.i x0_) x1_],[]⟩) [(m.L+310,Aa ls el)] (x2_+310) (x3_+598) x4_ (.ok (.ret .none)) [4] [Aa (ls.push (.str (Bl q.i x0_) x1_)) (el+1)] [] (x2_+310) (x3_+598) x4_:Ah)
def Ls(w:World)(R:RK)(n t g:Nat)(m:MK)(q:Prt)(pp ep ti x ts ty n2 t2 g2 tl n3 t3 g3 tk el:Nat)(ls:Array Value)(ps ps1 ps2:LO):List Ah:=[Q28 R m q pp n x ts ty ep w ti ps ps1 t g tl 7 n2 t2 g2,
 (A44 ((2*(pp+1):Nat):Int) tl m.mx m.tm true (n2+310) (t2+599) g2),
 qK (N4 R .c) (.call (.ref 268) ⟨[.ref (m.C+310)],[]⟩) [(m.C+310,Aj (m.CD+310) ((q.put pp (n+2) x ts ty).refs (pp+1)) (ep+1))] (n2+311) (t2+603) g2 (.ok (.ret (.int ((q.put pp (n+2) x ts ty).refs (pp+1)).size (t2+605)))) [2] [Aj (m.CD+310) ((q.put pp (n+2) x ts ty).refs (pp+1)) (ep+1)] [] (n2+314) (t2+606) g2,
 qP (some (C7 R .a)) (G4 m.C) [(m.C+310,Aj (m.CD+310) (q.refs pp) (ep+2)),(m.CD+310,B9 w.params m.ki ti)] ps1 ps2 (n2+321) (t2+627) g2 (.ok (.ret (.str (Bl q.i pp) tk))) [2,3] [Aj (m.CD+310) (q.refs pp) (ep+2),B9 w.params m.ki ti] [] (n3+310) (t3+598) g3,
 Q30 m q pp tk ls el n3 t3 g3]
noncomputable def Vz(pp:Nat):Nat:=match pp with
 |1=>744
 |2=>745
 |4=>747
 |5=>748
 |6=>749
 |_=>746
noncomputable def Afj(w:World)(os:OsState)(S:Nat→Slot)(n:Nat)(t:Nat)(g:Nat)(m:MK)(q:Prt)(ep:Nat)(ti:Nat)(x:Nat)(ts:Nat)(ty:Nat)(n2:Nat)(t2:Nat)(g2:Nat)(tl:Nat)(n3:Nat)(t3:Nat)(g3:Nat)(tk:Nat)(el:Nat)(ls:Array Value)(ps:LO)(ps1:LO)(ps2:LO)(R:RK)(pp:Nat)(b1 b2:Bool):Ao:=B7 (Ak (Z w os b1 b2) (Ab (Ib R) S 0) (Vz pp) (.call (.ref 184) ⟨[.ref (m.M+310),Bu ts,ch x ty],[]⟩) ([(m.M+310,Az (m.MD+310)),(m.MD+310,By w.params m),(m.C+310,Aj (m.CD+310) (q.refs pp) ep),(m.CD+310,B9 w.params m.ki ti),(m.L+310,Aa ls el)]) (n+310) (t+598) g A2r (Ls w R n t g m q pp ep ti x ts ty n2 t2 g2 tl n3 t3 g3 tk el ls ps ps1 ps2) ps) [0,1,2,3,7,4] (Ls w R n t g m q pp ep ti x ts ty n2 t2 g2 tl n3 t3 g3 tk el ls ps ps1 ps2)
noncomputable def Ag3(w:World)(os:OsState)(S:Nat→Slot)(n:Nat)(t:Nat)(g:Nat)(m:MK)(q:Prt)(ep:Nat)(ti:Nat)(x:Nat)(ts:Nat)(ty:Nat)(n2:Nat)(t2:Nat)(g2:Nat)(tl:Nat)(n3:Nat)(t3:Nat)(g3:Nat)(tk:Nat)(el:Nat)(ls:Array Value)(ps:LO)(ps1:LO)(ps2:LO)(R:RK)(pp:Nat)(b1 b2:Bool):Ao:=B6 (Ak (Z w os b1 b2) (Ab (Ib R) S 0) (Vz pp) (.call (.ref 184) ⟨[.ref (m.M+310),Bu ts,ch x ty],[]⟩) ([(m.M+310,Az (m.MD+310)),(m.MD+310,By w.params m),(m.C+310,Aj (m.CD+310) (q.refs pp) ep),(m.CD+310,B9 w.params m.ki ti),(m.L+310,Aa ls el)]) (n+310) (t+598) g A2r (Ls w R n t g m q pp ep ti x ts ty n2 t2 g2 tl n3 t3 g3 tk el ls ps ps1 ps2) ps) (.res (.ok (.ret (.none)))) ([(m.M+310,Az (m.MD+310)),(m.MD+310,By w.params m),(m.C+310,Aj (m.CD+310) ((q.put 0 (n+2) x ts ty).refs 1) (ovE pp ep)),(m.CD+310,B9 w.params m.ki (t3+601)),(n+312,Ap (Bu ts) (ch x ty)),(m.L+310,Aa (ls.push (.str (Bl q.i pp) tk)) (el+1))]) ps2 (n3+312) (t3+604) g3 (Ls w R n t g m q pp ep ti x ts ty n2 t2 g2 tl n3 t3 g3 tk el ls ps ps1 ps2)
theorem ovr(w:World)(os:OsState)(S:Nat→Slot)(n:Nat)(t:Nat)(g:Nat)(m:MK)(q:Prt)(ep:Nat)(ti:Nat)(x:Nat)(ts:Nat)(ty:Nat)(n2:Nat)(t2:Nat)(g2:Nat)(tl:Nat)(n3:Nat)(t3:Nat)(g3:Nat)(tk:Nat)(el:Nat)(ls:Array Value)(ps:LO)(ps1:LO)(ps2:LO)(R:RK)(pp:Nat)(hp:0 < pp∧pp < 7):∀(b1 b2:Bool),Afj w os S n t g m q ep ti x ts ty n2 t2 g2 tl n3 t3 g3 tk el ls ps ps1 ps2 R pp b1 b2=Ag3 w os S n t g m q ep ti x ts ty n2 t2 g2 tl n3 t3 g3 tk el ls ps ps1 ps2 R pp b1 b2
 |false,_=>by obtain rfl |rfl |rfl |rfl |rfl |rfl:=lt7 hp<;>cases R<;>kernel_rfl
 |true,_=>by obtain rfl |rfl |rfl |rfl |rfl |rfl:=lt7 hp<;>cases R<;>kernel_rfl
theorem A2h(R:RK)(n t g:Nat)(m:MK)(q:Prt)(pp ep ti x ts ty n2 t2 g2 tl n3 t3 g3 tk el:Nat)(ls:Array Value)(ps ps1 ps2:LO)(hp:0 < pp∧pp < 7)(b1 b2:Bool) (hL:ObRs (Z w os b1 b2) (Ls w R n t g m q pp ep ti x ts ty n2 t2 g2 tl n3 t3 g3 tk el ls ps ps1 ps2)):Does (Z w os b1 b2) (.call (.ref 184) ⟨[.ref (m.M+310),Bu ts,ch x ty],[]⟩) (Ab (Ib R) S 0) (([(m.M+310,Az (m.MD+310)),(m.MD+310,By w.params m),(m.C+310,Aj (m.CD+310) (q.refs pp) ep),(m.CD+310,B9 w.params m.ki ti),(m.L+310,Aa ls el)])++ps) (n+310) (t+598) g (.ok (.ret (.none))) (([(m.M+310,Az (m.MD+310)),(m.MD+310,By w.params m),(m.C+310,Aj (m.CD+310) ((q.put 0 (n+2) x ts ty).refs 1) (ovE pp ep)),(m.CD+310,B9 w.params m.ki (t3+601)),(n+312,Ap (Bu ts) (ch x ty)),(m.L+310,Aa (ls.push (.str (Bl q.i pp) tk)) (el+1))])++ps2) (n3+312) (t3+604) g3:=
 Bo (Vz pp) A2r [0,1,2,3,7,4] hL (by decide) (fun p=>congrFun (ovr w os S n t g m q ep ti x ts ty n2 t2 g2 tl n3 t3 g3 tk el ls ps ps1 ps2 R pp hp b1 b2) p)
abbrev Om(R:RK):List Kd:=kL::kF::Do R
theorem A7v(R:RK):Fc (Om R)=true:=by cases R<;>rfl
noncomputable abbrev D7(q:Prt)(p n:Nat):Prt:=q.put p (n+11) (q.i p) (q.s p) (q.y p)
def O7(w:World)(R:RK)(n t g:Nat)(m:MK)(q:Prt)(pp ep ti el:Nat)(ls:Array Value)(n2 t2 g2 l2 n3 t3 g3 l3 n4 t4 g4 k4 n5 t5 g5 k5:Nat)(ps:LO):List Ah:=[qK (C7 R .n) (.call (.ref 231) ⟨[.ref (m.C+310)],[]⟩) [(m.C+310,Aj (m.CD+310) (q.refs (pp+1)) ep),(m.CD+310,B9 w.params m.ki ti)] (n+311) (t+600) g (.ok (.ret (.ref (q.x pp+310)))) [2,3] [Aj (m.CD+310) (q.refs pp) (ep+1),B9 w.params m.ki ti] [] (n+317) (t+606) g,
 qC (.call (.builtin "tuple.__ne__") ⟨[.ref (q.x pp+310),.ref (n+317)],[]⟩) [(q.x pp+310,q.tup pp),(n+317,L7 (Bu (t+607)) (.str (Str.ofString "") (t+608)))] (n+318) (t+609) g (.ok (.ret (.bool true))) [5,7] [q.tup pp,L7 (Bu (t+607)) (.str (Str.ofString "") (t+608))] [] (n+318) (t+609) g,
 qP (some (C7 R .n)) (A4d m.C) [(m.C+310,Aj (m.CD+310) ((D7 q pp n).refs (pp+1)) (ep+2)),(m.CD+310,B9 w.params m.ki ti),(n+321,(D7 q pp n).tup pp)] ps ps (n+322) (t+615) g (.ok (.ret (.int ((2*(pp+1):Nat):Int) l2))) [2,3,11] [Aj (m.CD+310) ((D7 q pp n).refs (pp+1)) (ep+2),B9 w.params m.ki ti,(D7 q pp n).tup pp] [] (n2+310) (t2+598) g2,
 qP (some (C7 R .o)) (Nz .o m.C) [(m.C+310,Aj (m.CD+310) ((D7 q pp n).refs (pp+1)) (ep+2)),(m.CD+310,B9 w.params m.ki ti),(n+321,(D7 q pp n).tup pp)] ps ps (n2+311) (t2+603) g2 (.ok (.ret (.int ((2*(pp+1):Nat):Int) l3))) [2,3,11] [Aj (m.CD+310) ((D7 q pp n).refs (pp+1)) (ep+2),B9 w.params m.ki ti,(D7 q pp n).tup pp] [] (n3+310) (t3+598) g3,
 qP (some (C7 R .o)) (G4 m.C) [(m.C+310,Aj (m.CD+310) ((D7 q pp n).refs (pp+1)) (ep+2)),(m.CD+310,B9 w.params m.ki ti),(n+321,(D7 q pp n).tup pp)] ps ps (n3+310) (t3+598) g3 (.ok (.ret (.str (Bl q.i (pp+1)) k4))) [2,3,11] [Aj (m.CD+310) ((D7 q pp n).refs (pp+1)) (ep+2),B9 w.params m.ki ti,(D7 q pp n).tup pp] [] (n4+310) (t4+598) g4,
 qC (.call (.builtin "str.isspace") ⟨[.str (Bl q.i (pp+1)) k4],[]⟩) [] (n4+310) (t4+598) g4 (.ok (.ret (.bool false))) [] [] [] (n4+310) (t4+598) g4,
 qP (some (C7 R .n)) (G4 m.C) [(m.C+310,Aj (m.CD+310) ((D7 q pp n).refs (pp+1)) (ep+2)),(m.CD+310,B9 w.params m.ki ti),(n+321,(D7 q pp n).tup pp)] ps ps (n4+310) (t4+600) g4 (.ok (.ret (.str (Bl q.i (pp+1)) k5))) [2,3,11] [Aj (m.CD+310) ((D7 q pp n).refs (pp+1)) (ep+2),B9 w.params m.ki ti,(D7 q pp n).tup pp] [] (n5+310) (t5+598) g5,
 Q30 m q (pp+1) k5 ls el n5 t5 g5]
noncomputable def A31(pp:Nat):Nat:=match pp with
 |3=>537
 |0=>534
 |2=>536
 |4=>538
 |5=>539
 |_=>535
noncomputable def Aik(w:World)(os:OsState)(S:Nat→Slot)(n:Nat)(t:Nat)(g:Nat)(m:MK)(q:Prt)(ep:Nat)(ti:Nat)(el:Nat)(ls:Array Value)(n2:Nat)(t2:Nat)(g2:Nat)(l2:Nat)(n3:Nat)(t3:Nat)(g3:Nat)(l3:Nat)(n4:Nat)(t4:Nat)(g4:Nat)(k4:Nat)(n5:Nat)(t5:Nat)(g5:Nat)(k5:Nat)(ps:LO)(R:RK)(pp:Nat)(b1 b2:Bool):Ao:=B7 (Ak (Z w os b1 b2) (Ab (Om R) S 0) (A31 pp) (.call (.ref 149) ⟨[.ref (m.M+310)],[]⟩) ([(m.M+310,Az (m.MD+310)),(m.MD+310,By w.params m),(m.C+310,Aj (m.CD+310) (q.refs (pp+1)) ep),(m.CD+310,B9 w.params m.ki ti),(m.L+310,Aa ls el),(q.x pp+310,q.tup pp)]) (n+310) (t+598) g A3g (O7 w R n t g m q pp ep ti el ls n2 t2 g2 l2 n3 t3 g3 l3 n4 t4 g4 k4 n5 t5 g5 k5 ps) ps) [0,1,2,3,4,5] (O7 w R n t g m q pp ep ti el ls n2 t2 g2 l2 n3 t3 g3 l3 n4 t4 g4 k4 n5 t5 g5 k5 ps)
noncomputable def Ain(w:World)(os:OsState)(S:Nat→Slot)(n:Nat)(t:Nat)(g:Nat)(m:MK)(q:Prt)(ep:Nat)(ti:Nat)(el:Nat)(ls:Array Value)(n2:Nat)(t2:Nat)(g2:Nat)(l2:Nat)(n3:Nat)(t3:Nat)(g3:Nat)(l3:Nat)(n4:Nat)(t4:Nat)(g4:Nat)(k4:Nat)(n5:Nat)(t5:Nat)(g5:Nat)(k5:Nat)(ps:LO)(R:RK)(pp:Nat)(b1 b2:Bool):Ao:=B6 (Ak (Z w os b1 b2) (Ab (Om R) S 0) (A31 pp) (.call (.ref 149) ⟨[.ref (m.M+310)],[]⟩) ([(m.M+310,Az (m.MD+310)),(m.MD+310,By w.params m),(m.C+310,Aj (m.CD+310) (q.refs (pp+1)) ep),(m.CD+310,B9 w.params m.ki ti),(m.L+310,Aa ls el),(q.x pp+310,q.tup pp)]) (n+310) (t+598) g A3g (O7 w R n t g m q pp ep ti el ls n2 t2 g2 l2 n3 t3 g3 l3 n4 t4 g4 k4 n5 t5 g5 k5 ps) ps) (.res (.ok (.ret (.none)))) ([(m.M+310,Az (m.MD+310)),(m.MD+310,By w.params m),(m.C+310,Aj (m.CD+310) #[] (ep+3)),(m.CD+310,B9 w.params m.ki (t5+602)),(m.L+310,Aa (ls.push (.str (Bl q.i (pp+1)) k5)) (el+1)),(q.x pp+310,q.tup pp)]) ps (n5+313) (t5+605) g5 (O7 w R n t g m q pp ep ti el ls n2 t2 g2 l2 n3 t3 g3 l3 n4 t4 g4 k4 n5 t5 g5 k5 ps)
theorem nl(w:World)(os:OsState)(S:Nat→Slot)(n:Nat)(t:Nat)(g:Nat)(m:MK)(q:Prt)(ep:Nat)(ti:Nat)(el:Nat)(ls:Array Value)(n2:Nat)(t2:Nat)(g2:Nat)(l2:Nat)(n3:Nat)(t3:Nat)(g3:Nat)(l3:Nat)(n4:Nat)(t4:Nat)(g4:Nat)(k4:Nat)(n5:Nat)(t5:Nat)(g5:Nat)(k5:Nat)(ps:LO)(R:RK)(pp:Nat)(hp:pp < 6):∀(b1 b2:Bool),Aik w os S n t g m q ep ti el ls n2 t2 g2 l2 n3 t3 g3 l3 n4 t4 g4 k4 n5 t5 g5 k5 ps R pp b1 b2=Ain w os S n t g m q ep ti el ls n2 t2 g2 l2 n3 t3 g3 l3 n4 t4 g4 k4 n5 t5 g5 k5 ps R pp b1 b2
 |false,_=>by obtain rfl |rfl |rfl |rfl |rfl |rfl:=Ym hp<;>cases R<;>kernel_rfl
 |true,_=>by obtain rfl |rfl |rfl |rfl |rfl |rfl:=Ym hp<;>cases R<;>kernel_rfl
theorem A8a(R:RK)(n t g:Nat)(m:MK)(q:Prt)(pp ep ti el:Nat)(ls:Array Value)(n2 t2 g2 l2 n3 t3 g3 l3 n4 t4 g4 k4 n5 t5 g5 k5:Nat)(ps:LO)(hp:pp < 6)(b1 b2:Bool) (hL:ObRs (Z w os b1 b2) (O7 w R n t g m q pp ep ti el ls n2 t2 g2 l2 n3 t3 g3 l3 n4 t4 g4 k4 n5 t5 g5 k5 ps)):Does (Z w os b1 b2) (.call (.ref 149) ⟨[.ref (m.M+310)],[]⟩) (Ab (Om R) S 0) (([(m.M+310,Az (m.MD+310)),(m.MD+310,By w.params m),(m.C+310,Aj (m.CD+310) (q.refs (pp+1)) ep),(m.CD+310,B9 w.params m.ki ti),(m.L+310,Aa ls el),(q.x pp+310,q.tup pp)])++ps) (n+310) (t+598) g (.ok (.ret (.none))) (([(m.M+310,Az (m.MD+310)),(m.MD+310,By w.params m),(m.C+310,Aj (m.CD+310) #[] (ep+3)),(m.CD+310,B9 w.params m.ki (t5+602)),(m.L+310,Aa (ls.push (.str (Bl q.i (pp+1)) k5)) (el+1)),(q.x pp+310,q.tup pp)])++ps) (n5+313) (t5+605) g5:=
 Bo (A31 pp) A3g [0,1,2,3,4,5] hL (by decide) (fun p=>congrFun (nl w os S n t g m q ep ti el ls n2 t2 g2 l2 n3 t3 g3 l3 n4 t4 g4 k4 n5 t5 g5 k5 ps R pp hp b1 b2) p)
noncomputable def Gl(vs:Array Value)(k:Nat)(y:Value):Array Value:=(vs.extract 0 k).push y++vs.extract k vs.size
theorem U5{z:Zed} {bl:List (Code×Pos)} {a:Addr} {vs:Array Value} {e n t g u:Nat} {i:Int} {y:Value} (h0:0≤i) (h1:i≤vs.size) (hfit:i < 2 ^ 63) (hz:vs.size≤sizeLine):
  Does z (.call (.builtin "list.insert") ⟨[.ref a,.int i u,y],[]⟩) bl [(a,Aa vs e)] n t g (.ok (.ret .none)) [(a,Aa (Gl vs i.toNat y) (e+1))] n (t+0) g:=by
 have hk:(if i < 0 then (i+(vs.size:Int)).toNat else min i.toNat vs.size)=i.toNat:=by
  rw [if_neg (by exact A3n h0)];lia
 have hs:(Gl vs i.toNat y).size=vs.size+1:=by
  unfold Gl
  simp
  lia
 have hf:Obj.mapSeq (fun xs=>have k:=if i < 0 then (i+(xs.size:Int)).toNat else min i.toNat xs.size;(xs.extract 0 k).push y++xs.extract k) (Aa vs e)=Aa (Gl vs i.toNat y) (e+1):=by
  have hne:((Gl vs i.toNat y).size == vs.size)=false:=by rw [hs];simp
  have e1:((vs.extract 0 (if i < 0 then (i+(vs.size:Int)).toNat else min i.toNat vs.size)).push y++vs.extract (if i < 0 then (i+(vs.size:Int)).toNat else min i.toNat vs.size))=Gl vs i.toNat y:=by rw [hk];rfl
  show ({cls:=_,dict:=_,data:=.seq ((vs.extract 0 (if i < 0 then (i+(vs.size:Int)).toNat else min i.toNat vs.size)).push y++vs.extract (if i < 0 then (i+(vs.size:Int)).toNat else min i.toNat vs.size)) (if (((vs.extract 0 (if i < 0 then (i+(vs.size:Int)).toNat else min i.toNat vs.size)).push y++vs.extract (if i < 0 then (i+(vs.size:Int)).toNat else min i.toNat vs.size)).size == vs.size)=true then e else e+1),slots:=_}:Obj)=_
  rw [e1,hne];rfl
 have:=L9 (z:=z) (c:=.call (.builtin "list.insert") ⟨[.ref a,.int i u,y],[]⟩) (bl:=bl) (a:=a) (o:=Aa vs e) (rs:=[]) (f:=Obj.mapSeq (fun xs=>have k:=if i < 0 then (i+(xs.size:Int)).toNat else min i.toNat xs.size;(xs.extract 0 k).push y++xs.extract k)) (n:=n) (t:=t) (g:=g) (r:=.ok (.ret .none)) (d:=0) (by rw [hf];rfl)
  (fun A s R ha _ _ hR=>Al F.slot_list_insert ⟨_,ha,rfl⟩ F.entry_list_insert (F.args_list_insert_3 _ _ _) (AutoSeq1.list_insert_list_int_val_1 a vs e i u y (by rw [fitsIndex_of h0 hfit];decide) hz) ⟨ha,hR⟩)
 rw [hf] at this
 exact this
theorem S3{l sl:Addr}{items:Array Value}{n:Nat}{vl vu:Value}{lo hi:Option Int}(pl:IsPart vl lo)(pu:IsPart vu hi)(hsz:items.size≤sizeLine):Meets (Builtin.«list.__getitem__» ⟨[.ref l,.ref sl],[]⟩)
  (fun _ R s=>s.heap.get? l=some (Aa items n)∧s.heap.get? sl=some ({cls:=.type "slice",data:=.fields #[vl,vu,.none]}:Obj)∧R (.ok (.ret (.ref s.heap.objs.size))) {s with heap:=s.heap.push {cls:=.type "list",data:=.seq (slicePick items lo hi none)}}):=
 .of_wp fun prog w A R s h=>by
  refine Af fun Gz hGz=>?_
  obtain ⟨ho,hos,h⟩:=h
  have hTs:s.TypeIs (.ref sl) "slice":=⟨_,hos,rfl⟩
  refine hGz ?_
  show wpAny _ _ (Builtin.List.listSubscript? (.ref sl) >>= _) _ _ s
  refine wpAny_bind ?_
  unfold Builtin.List.listSubscript?
  refine wpAny_bind (wpAny_specialOf hTs slice_no_index ?_)
  simp only [Option.isNone_none,if_true]
  refine wpAny_pure ?_
  show wpAny _ _ (typeOf (.ref sl) >>= _) _ _ s
  refine wpAny_bind (wpAny_typeOf hTs ?_)
  rw [if_neg (by decide)]
  rw [listSliceParts_eq]
  refine wpAny_bind (wpAny_bind (wpAny_field hos rfl (x:=.none) rfl (wpAny_bind (wpAny_listPart IsPart.none ?_))))
  rw [if_neg (by exact Bool.false_ne_true)]
  refine wpAny_bind (wpAny_field hos rfl (x:=vl) rfl (wpAny_bind (wpAny_listPart pl ?_)))
  refine wpAny_bind (wpAny_field hos rfl (x:=vu) rfl (wpAny_bind (wpAny_listPart pu (wpAny_pure ?_))))
  refine wpAny_bind (m:=Builtin.List.listItems (.ref l)) ?_
  unfold Builtin.List.listItems
  refine wpAny_bind (wpAny_seqItems ho rfl (wpAny_pure ?_))
  refine wpAny_bind (wpAny_of_eq (sliceIndices_raw lo hi none items.size (by simp)) ?_)
  refine wpAny_bind (wpAny_newObj_type (wpAny_pure ⟨_,rfl,h⟩) (Nat.le_trans (slicePick_size_le items lo hi none) hsz))
theorem Mv{z:Zed} {bl:List (Code×Pos)} {a sl:Addr} {vs:Array Value} {e n t g:Nat} {vl vu:Value} {lo hi:Option Int} (pl:IsPart vl lo) (pu:IsPart vu hi) (hsz:vs.size≤sizeLine):
  Does z (.call (.builtin "list.__getitem__") ⟨[.ref a,.ref sl],[]⟩) bl [(a,Aa vs e),(sl,{cls:=.type "slice",data:=.fields #[vl,vu,.none]})] n t g (.ok (.ret (.ref n))) [(a,Aa vs e),(sl,{cls:=.type "slice",data:=.fields #[vl,vu,.none]}),(n,Aa (slicePick vs lo hi none) 0)] (n+1) (t+0) g:=
 Hg (o:=Aa (slicePick vs lo hi none) 0) (d:=0) rfl fun A s R _ k hn _ hR=>by
  have ha:=k _ (.head _)
  have hb:=k _ (.tail _ (.head _))
  exact Al slot_list_getitem ⟨_,ha,rfl⟩ entry_list_getitem (args_list_getitem _ _) (S3 pl pu hsz) ⟨ha,hb,by rw [hn];exact hR⟩
theorem Pp{z:Zed} {bl:List (Code×Pos)} {a b:Addr} {vs ws:Array Value} {e e2 n t g:Nat} (hsz:vs.size+ws.size≤sizeLine):
  Does z (.call (.builtin "list.__add__") ⟨[.ref a,.ref b],[]⟩) bl [(a,Aa vs e),(b,Aa ws e2)] n t g (.ok (.ret (.ref n))) [(a,Aa vs e),(b,Aa ws e2),(n,Aa (vs++ws) 0)] (n+1) (t+0) g:=
 Hg (o:=Aa (vs++ws) 0) (d:=0) rfl fun A s R _ k hn _ hR=>by
  have ha:=k _ (.head _)
  have hb:=k _ (.tail _ (.head _))
  exact Al F.slot_list_add ⟨_,ha,rfl⟩ F.entry_list_add (F.args_list_add_2 _ _) (AutoSeq1.list___add___list_list_0 a vs e b ws e2 hsz) ⟨ha,hb,by rw [hn];exact hR⟩
end Mine
namespace Mine
open PySem PySem.W PySem.W.X PyProof.Rows PySem.MeetsSeq PySem.SeqAt PySem.Builtin.Str
variable {w:World}{os:OsState}{S:Nat→Slot}{res:Result}{l':LO}{n' t' g':Nat}
noncomputable def Rg(st:Stmt):Expr:=match st with
 |.Assign _ v _=>v
 |.AugAssign _ _ v _=>v
 |.Return (some v) _=>v
 |.Expr v _=>v
 |.If t _ _ _=>t
 |.While t _ _ _=>t
 |_=>default
noncomputable def A51:List Expr→Nat→Expr
 |[],_=>default
 |a::_,0=>a
 |_::l,j+1=>A51 l j
def Hr(e:Expr)(i:Nat):Expr:=match e with
 |.Call _ l _ _=>A51 l i
 |_=>default
end Mine
namespace Mine
open PySem PySem.W PySem.W.X PyProof.Rows PySem.MeetsSeq PySem.SeqAt PySem.Builtin.Str
variable {w:World}{os:OsState}{S:Nat→Slot}{res:Result}{l':LO}{n' t' g':Nat}
theorem Qw{x:Str}{t:Nat} (h:x.cps.all (· < 128)=true):Meets (Builtin.«str.__iter__» ⟨[.str x t],[]⟩)
  (fun _ R s=>R (.ok (.ret (.ref s.heap.objs.size))) {s with heap:=s.heap.push (Bk x t 0)}):=
 .of_wp fun prog w A R s hh=>by
  have e:(isExactStr (.str x t) && x.cps.all (· < 128))=true:=by rw [h];rfl
  show wpAny _ _ (newFields (if (isExactStr (.str x t) && x.cps.all (· < 128))=true then "str_ascii_iterator" else "str_iterator") [.str x t,rawInt 0] >>= _) _ _ s
  rw [e]
  refine wpAny_bind ?_
  simp only [newFields]
  exact wpAny_newObj_type (wpAny_pure ⟨_,rfl,hh⟩) (by size_fits)
theorem Sm{z:Zed} {bl:List (Code×Pos)} {x:Str} {tk n t g:Nat} (h:x.cps.all (· < 128)=true):
  Does z (.call (.builtin "str.__iter__") ⟨[.str x tk],[]⟩) bl [] n t g (.ok (.ret (.ref n))) [(n,Bk x tk 0)] (n+1) (t+0) g:=
 Hg (l:=[]) (o:=Bk x tk 0) (d:=0) rfl fun A s R _ _ hn _ hR=>
  Al F.slot_str_iter (typeIs_str s x tk) F.entry_str_iter (F.args_str_iter_1 _) (Qw h) (by rw [hn];exact hR)
noncomputable def H7(i:Nat):Obj:={cls:=.type "str_ascii_iterator",data:=.fields #[.none,.int (i:Int) 0]}
theorem Ru{a:Addr}{x:Str}{tk i:Nat}(hx:x.cps[i]?=none):Meets (Builtin.«str_ascii_iterator.__next__» ⟨[.ref a],[]⟩)
  (fun A R s=>A.handled=none∧s.heap.get? a=some (Bk x tk i)∧R (.error (.ref (s.heap.objs.size+1))) {s with heap:=((s.heap.update a (Obj.mapFields fun v=>v.setIfInBounds 0 .none)).push Br).push (At s.heap.objs.size)}):=
 .of_wp fun prog w A R s h=>by
  refine Af fun Gz hGz=>?_
  obtain ⟨hh,ho,h⟩:=h
  have hs:Heap.SameBut a s.heap (s.heap.update a (Obj.mapFields fun v=>v.setIfInBounds 0 .none)):=Heap.SameBut.update ..
  refine hGz ?_
  show wpAny _ _ (field (.ref a) 0 >>= _) _ _ s
  refine wpAny_bind (wpAny_field ho rfl (x:=.str x tk) rfl ?_)
  show wpAny _ _ (field (.ref a) 1 >>= _) _ _ s
  refine wpAny_bind (wpAny_field ho rfl (x:=.int i 0) rfl ?_)
  simp only [Int.toNat_natCast,hx]
  refine wpAny_bind (wpAny_rule (wpAny_bind (wpAny_setField ho rfl (by simp) ?_)))
  refine wpAny_bind (wpAny_letGo ?_)
  show wpAny _ _ (newExc (.type "StopIteration") [] >>= _) _ _ _
  refine wpAny_bind ?_
  simp only [newExc,newTuple]
  refine wpAny_bind (wpAny_newObj_type ?_ (by size_fits))
  refine wpAny_bind (m:=firstArgMember _ _) (wpAny_of_eq (a:=Value.none) (by first | rfl | (simp only [firstArgMember];rfl)) ?_)
  refine wpAny_newObj_type ?_ (by size_fits)
  simp only [raiseNew]
  refine wpAny_bind (wpAny_handled ?_)
  first | rw [show A.in1.handled=none from hh] | rw [hh]
  refine wpAny_bind (wpAny_pure (wpAny_throw ?_))
  have e1:((s.heap.update a (Obj.mapFields fun v=>v.setIfInBounds 0 .none)).push Br).objs.size=s.heap.objs.size+1:=by rw [Heap.size_push,hs.1]
  have e2:(s.heap.update a (Obj.mapFields fun v=>v.setIfInBounds 0 .none)).objs.size=s.heap.objs.size:=hs.1
  rw [← e1,← e2] at h
  exact h
theorem Tv{z:Zed} {bl:List (Code×Pos)} {a:Addr} {x:Str} {tk i n t g:Nat} (hx:x.cps[i]?=none):
  Does z (.call (.builtin "str_ascii_iterator.__next__") ⟨[.ref a],[]⟩) bl [(a,Bk x tk i)] n t g (.error (.ref (n+1))) [(a,H7 i),(n,Br),(n+1,At n)] (n+2) (t+0) g:=by
 have hf:Obj.mapFields (fun v=>v.setIfInBounds 0 .none) (Bk x tk i)=H7 i:=by
  show ({cls:=_,dict:=_,data:=.fields (#[Value.str x tk,Value.int (i:Int) 0].setIfInBounds 0 .none),slots:=_}:Obj)=_
  simp [H7]
 have:=Py (z:=z) (c:=.call (.builtin "str_ascii_iterator.__next__") ⟨[.ref a],[]⟩) (bl:=bl) (a:=a) (o:=Bk x tk i) (rs:=[]) (f:=Obj.mapFields fun v=>v.setIfInBounds 0 .none) (n:=n) (t:=t) (g:=g) (by rw [hf];rfl)
  (fun A s R hh ha _ hn hR=>Al F.slot_str_ascii_iterator_next ⟨_,ha,rfl⟩ F.entry_str_ascii_iterator_next (F.args_str_ascii_iterator_next_1 _) (Ru hx) ⟨hh,ha,by rw [hn];exact hR⟩)
 rw [hf] at this
 exact this
noncomputable def Ro(vs:Array Value)(k:Nat):Array Value:=List.foldl (fun x1 x2=>x1++x2) #[] (List.replicate (if vs.isEmpty=true then 0 else k) vs)
theorem A1g(v:Value)(k:Nat):Ro #[v] k=Array.replicate k v:=by
 have h:∀(k:Nat) (a:Array Value),List.foldl (fun x1 x2=>x1++x2) a (List.replicate k #[v])=a++Array.replicate k v:=by
  intro k
  induction k with
  |zero=>intro a;simp
  |succ k ih=>
   intro a
   rw [List.replicate_succ,List.foldl_cons,ih]
   apply Array.toList_inj.mp
   simp [List.replicate_succ]
 unfold Ro
 have:=h k #[]
 simpa using this
theorem Y4{z:Zed} {bl:List (Code×Pos)} {a:Addr} {vs:Array Value} {x:Int} {u e n t g:Nat} (h0:0≤x) (h1:x≤1000) (hs:vs.size≤1000):
  Does z (.call (.builtin "list.__mul__") ⟨[.ref a,.int x u],[]⟩) bl [(a,Aa vs e)] n t g (.ok (.ret (.ref n))) [(a,Aa vs e),(n,Aa (Ro vs x.toNat) 0)] (n+1) (t+0) g:=
 Hg (o:=Aa (Ro vs x.toNat) 0) (d:=0) rfl fun A s R _ k hn _ hR=>by
  have ha:=k _ (.head _)
  have hm:vs.size*x.toNat≤1000*1000:=Nat.mul_le_mul hs (Af8 h1)
  refine Al F.slot_list_mul ⟨_,ha,rfl⟩ F.entry_list_mul (F.args_list_mul_2 _ _) (AutoListH.list___mul___list_int_3 a vs e x u (by rw [fitsIndex_of h0 (by lia)];decide) (by lia) (by unfold Builtin.List.listTooLong;simp;exact Nat.le_trans hm (by decide))) ⟨ha,by rw [hn];exact hR⟩
theorem Qv{a:Addr}{vs:Array Value}{e u:Nat}{i:Int}{y:Value}(h0:0≤i)(h1:i < vs.size)(hfit:i < 2 ^ 63):Meets (Builtin.«list.__setitem__» ⟨[.ref a,.int i u,y],[]⟩)
  (fun _ R s=>s.heap.get? a=some (Aa vs e)∧R (.ok (.ret .none)) {s with heap:=s.heap.update a (Obj.mapSeq (·.setIfInBounds i.toNat y)),toks:=s.toks+0}):=
 .of_wp fun prog w A R s h=>by
  obtain ⟨hl,h⟩:=h
  show wpAny _ _ (Builtin.List.listSubscript? (.int i u) >>= _) _ _ s
  refine wpAny_bind (wpAny_listSubscript_int (fitsIndex_of h0 hfit) ?_)
  clear hfit
  obtain ⟨j,rfl⟩:=Int.eq_ofNat_of_zero_le h0
  have hj:j < vs.size:=by exact A14 h1
  have hx':vs[j]?=some vs[j]:=Array.getElem?_eq_getElem hj
  show wpAny _ _ ((seqItemAt a j >>= fun r=>pure (r.map (j,·))) >>= _) _ _ s
  refine wpAny_bind (wpAny_bind (wpAny_seqItemAt hl rfl (wpAny_pure ?_)))
  rw [hx']
  show wpAny _ _ (setSeqItemAt a j y >>= _) _ _ s
  exact wpAny_bind (wpAny_setSeqItemAt hl rfl (wpAny_pure ⟨_,rfl,h⟩))
theorem Fp{z:Zed} {bl:List (Code×Pos)} {a:Addr} {vs:Array Value} {e n t g u:Nat} {i:Int} {y:Value} (h0:0≤i) (h1:i < vs.size) (hfit:i < 2 ^ 63):
  Does z (.call (.builtin "list.__setitem__") ⟨[.ref a,.int i u,y],[]⟩) bl [(a,Aa vs e)] n t g (.ok (.ret .none)) [(a,Aa (vs.setIfInBounds i.toNat y) e)] n (t+0) g:=by
 have hf:Obj.mapSeq (·.setIfInBounds i.toNat y) (Aa vs e)=Aa (vs.setIfInBounds i.toNat y) e:=by
  have:((vs.setIfInBounds i.toNat y).size == vs.size)=true:=by simp
  show ({cls:=_,dict:=_,data:=.seq (vs.setIfInBounds i.toNat y) (if ((vs.setIfInBounds i.toNat y).size == vs.size)=true then e else e+1),slots:=_}:Obj)=_
  rw [this];rfl
 have:=L9 (z:=z) (c:=.call (.builtin "list.__setitem__") ⟨[.ref a,.int i u,y],[]⟩) (bl:=bl) (a:=a) (o:=Aa vs e) (rs:=[]) (f:=Obj.mapSeq (·.setIfInBounds i.toNat y)) (n:=n) (t:=t) (g:=g) (r:=.ok (.ret .none)) (d:=0) (by rw [hf];rfl)
  (fun A s R ha _ _ hR=>Al slot_list_setitem ⟨_,ha,rfl⟩ entry_list_setitem (args_list_setitem _ _ _) (Qv h0 h1 hfit) ⟨ha,hR⟩)
 rw [hf] at this
 exact this
theorem Ae9{i:Int}{n:Nat}(h0:0≤i)(h:i.toNat < n):seqIndex? i n=some i.toNat:=by
 unfold seqIndex?
 have h1:¬ i < 0:=A3n h0
 simp only [h1,if_false]
 have h2:(decide (0≤i) && decide (i < (n:Int)))=true:=by simp;lia
 rw [if_pos h2]
noncomputable def tup(vs:Array Value):Obj:={cls:=.type "tuple",data:=.seq vs}
theorem Zy{z:Zed} {bl:List (Code×Pos)} {a:Addr} {vs:Array Value} {n t g u:Nat} {i:Int} {y:Value} (h0:0≤i) (hfit:i < 2 ^ 63) (hy:vs[i.toNat]?=some y):
  Does z (.call (.builtin "tuple.__getitem__") ⟨[.ref a,.int i u],[]⟩) bl [(a,tup vs)] n t g (.ok (.ret y)) [(a,tup vs)] n (t+0) g:=
 Cu fun A s R k' _ hR=>by
  have ha:=k' _ (.head _)
  have hlt:i.toNat < vs.size:=(Array.getElem?_eq_some_iff.mp hy).1
  exact Al F.slot_tuple_getitem ⟨_,ha,rfl⟩ F.entry_tuple_getitem (F.args_tuple_getitem_2 _ _) (tuple_getitem_at a vs 0 i u i.toNat y (by lia) hfit (Ae9 h0 hlt) hy) ⟨ha,hR⟩
theorem Qm{z:Zed} {bl:List (Code×Pos)} {a:Addr} {vs:Array Value} {n t g:Nat} (hfit:(vs.size:Int) < 2 ^ 63):
  Does z (.call (.builtin "len") ⟨[.ref a],[]⟩) bl [(a,tup vs)] n t g (.ok (.ret (.int vs.size (t+1)))) [(a,tup vs)] n (t+2) g:=
 Cu fun A s R k' ht hR=>by
  have ha:=k' _ (.head _)
  have hT:s.TypeIs (.ref a) "tuple":=⟨_,ha,rfl⟩
  refine codeAny_call_builtin plain_len entry_len (wpAny_of_eq (args_len1 _) ?_)
  unfold Builtin.«len»
  refine wpAny_bind (m:=oneArg "len" _) (wpAny_pure ?_)
  refine wpAny_bind (m:=callSpecial? (.ref a) (Str.ofString "__len__")) (wpAny_callSpecial?_slot (name:=Str.ofString "__len__") hT F.slot_tuple_len
   (wpAny_call_entry F.slot_tuple_len hT F.entry_tuple_len ?_ (F.args_tuple_len_1 _)))
  ·refine Af fun Gz hGz=>?_
   obtain ⟨hp,gg,d,tk,os⟩:=s
   have ha:hp.get? a=some (tup vs):=ha
   refine hGz ?_
   unfold tup at ha
   wp_walk using wpAny_loadPart' ha
   refine ⟨_,rfl,?_⟩
   refine wpAny_bind (wpAny_holding (wpAny_pure ?_))
   refine wpAny_bind (wpAny_letGo ?_)
   show wpAny _ _ (if ((vs.size:Nat):Int) < 0 then _ else _) _ _ _
   rw [if_neg (by exact Aa9)]
   show wpAny _ _ (if ((vs.size:Nat):Int) ≥ 2 ^ 63 then _ else _) _ _ _
   rw [if_neg (by omega)]
   exact wpAny_bind (wpAny_mkInt (wpAny_pure (by subst ht;exact hR)))
def rwF(P:Params):FuncData:=Fe (Vg P)
def Gm(P:Params)(L it:Nat):Code:=Es (As (Bi (rwF P)) 1) (.ref (it+310)) (C9 (rwF P) 292 (L+310))
def J7(P:Params)(L it:Nat):Code:=Es (As (Rr (As (Bi (rwF P)) 1)) 0) (.ref (it+310)) (C9 (rwF P) 292 (L+310))
inductive OV
 |n
 |s (k:Nat) (v:Value)
noncomputable def OV.key(o:OV)(t:Nat):Nat:=match o with
 |.n=>t
 |.s k _=>k
structure RwK where
 L:Nat
 V:Nat
 M:Nat
 k1:Nat
 k2:Nat
 k3:Nat
 W:Int
 tw:Nat
def Ej(P:Params)(f:RwK)(p q:OV):Obj:=match p,q with
 |.n,_=>B4 #[kv P "votes" f.k1 (.ref (f.V+310)),kv P "words" f.k2 (.int f.W f.tw),kv P "maker" f.k3 (.ref (f.M+310))] 3
 |.s k v,.n=>B4 #[kv P "votes" f.k1 (.ref (f.V+310)),kv P "words" f.k2 (.int f.W f.tw),kv P "maker" f.k3 (.ref (f.M+310)),kv P "party" k v] 4
 |.s k v,.s k' v'=>B4 #[kv P "votes" f.k1 (.ref (f.V+310)),kv P "words" f.k2 (.int f.W f.tw),kv P "maker" f.k3 (.ref (f.M+310)),kv P "party" k v,kv P "turn" k' v'] 5
theorem Rm{p:Nat}(h:p < 5):p=0∨p=1∨p=2∨p=3∨p=4:=(by decide +kernel:∀p,p < 5→p=0∨p=1∨p=2∨p=3∨p=4) p h
inductive OO
 |n
 |s (kp:Nat) (vp:Value) (kt:Nat) (vt:Value)
noncomputable def OO.kp(o:OO)(t:Nat):Nat:=match o with
 |.n=>t
 |.s k _ _ _=>k
noncomputable def OO.p(o:OO):OV:=match o with
 |.n=>.n
 |.s k v _ _=>.s k v
noncomputable def OO.q(o:OO):OV:=match o with
 |.n=>.n
 |.s _ _ k v=>.s k v
abbrev Q0(it:Nat)(i:Int) x0_ (n:Nat) (t:Nat) (g:Nat) x1_ x2_ x3_ x4_ x5_ (x6_:Nat) (x7_:Nat):=(qC (.call (.builtin "range_iterator.__next__") ⟨[.ref (it+310)],[]⟩) [(it+310,E3 "range_iterator" #[.int i 0,.int x0_ 0,.int 1 0])] (n+310) (t+598) g x1_ [x2_] [(Ac x3_ x4_ 1)] x5_ (n+x6_) (t+x7_) g:Ah)
def Ig(w:World)(R:RK)(n t g it:Nat)(f:RwK)(m:MK)(pp kp tp:Nat)(o:OV)(i left:Int)(n2 t2 g2:Nat)(ps ps1:LO):List Ah:=[Q0 it i left n t g (.ok (.ret (.int i (t+598)))) 1 (i+1) (left - 1) [] 310 599,
 qP (some (Ib R)) (.call (.ref 184) ⟨[.ref (f.M+310),Bu (t+600),ch (97+pp) (t+602)],[]⟩) [(f.M+310,Az (m.MD+310)),(m.MD+310,By w.params m)] ps ps1 (n+310) (t+603) g (.ok (.ret .none)) [2,3] [Az (m.MD+310),By w.params m] [] (n2+310) (t2+598) g2]
noncomputable def A91(w:World)(os:OsState)(S:Nat→Slot)(n:Nat)(t:Nat)(g:Nat)(it:Nat)(f:RwK)(m:MK)(kp:Nat)(tp:Nat)(i:Int)(left:Int)(n2:Nat)(t2:Nat)(g2:Nat)(ps:LO)(ps1:LO)(R:RK)(pp:Nat)(o:OV)(b1 b2:Bool):Ao:=B7 (Ak (Z w os b1 b2) (Ab (kL::kF::Do R) S 0) 43 (J7 w.params f.L it) ([(f.L+310,Ej w.params f (.s kp (.int (pp:Int) tp)) o),(it+310,Ac i left 1),(f.M+310,Az (m.MD+310)),(m.MD+310,By w.params m)]) (n+310) (t+598) g A0u (Ig w R n t g it f m pp kp tp o i left n2 t2 g2 ps ps1) ps) [0,1,2,3] (Ig w R n t g it f m pp kp tp o i left n2 t2 g2 ps ps1)
noncomputable def A96(w:World)(os:OsState)(S:Nat→Slot)(n:Nat)(t:Nat)(g:Nat)(it:Nat)(f:RwK)(m:MK)(kp:Nat)(tp:Nat)(i:Int)(left:Int)(n2:Nat)(t2:Nat)(g2:Nat)(ps:LO)(ps1:LO)(R:RK)(pp:Nat)(o:OV)(b1 b2:Bool):Ao:=B6 (Ak (Z w os b1 b2) (Ab (kL::kF::Do R) S 0) 43 (J7 w.params f.L it) ([(f.L+310,Ej w.params f (.s kp (.int (pp:Int) tp)) o),(it+310,Ac i left 1),(f.M+310,Az (m.MD+310)),(m.MD+310,By w.params m)]) (n+310) (t+598) g A0u (Ig w R n t g it f m pp kp tp o i left n2 t2 g2 ps ps1) ps) (.again (J7 w.params f.L it)) ([(f.L+310,Ej w.params f (.s kp (.int (pp:Int) tp)) (.s (o.key (t+599)) (.int i (t+598)))),(it+310,Ac (i+1) (left-1) 1),(f.M+310,Az (m.MD+310)),(m.MD+310,By w.params m)]) ps1 (n2+310) (t2+598) g2 (Ig w R n t g it f m pp kp tp o i left n2 t2 g2 ps ps1)
theorem Ags(w:World)(os:OsState)(S:Nat→Slot)(n:Nat)(t:Nat)(g:Nat)(it:Nat)(f:RwK)(m:MK)(kp:Nat)(tp:Nat)(i:Int)(left:Int)(n2:Nat)(t2:Nat)(g2:Nat)(ps:LO)(ps1:LO)(R:RK)(pp:Nat)(o:OV)(hp:pp < 5):∀(b1 b2:Bool),A91 w os S n t g it f m kp tp i left n2 t2 g2 ps ps1 R pp o b1 b2=A96 w os S n t g it f m kp tp i left n2 t2 g2 ps ps1 R pp o b1 b2
 |false,_=>by obtain rfl |rfl |rfl |rfl |rfl:=Rm hp<;>cases R<;>cases o<;>kernel_rfl
 |true,_=>by obtain rfl |rfl |rfl |rfl |rfl:=Rm hp<;>cases R<;>cases o<;>kernel_rfl
theorem V5(R:RK)(n t g it:Nat)(f:RwK)(m:MK)(pp kp tp:Nat)(o:OV)(i left:Int)(n2 t2 g2:Nat)(ps ps1:LO)(hp:pp < 5)(b1 b2:Bool) (hL:ObRs (Z w os b1 b2) (Ig w R n t g it f m pp kp tp o i left n2 t2 g2 ps ps1))
  (next:Does (Z w os b1 b2) (J7 w.params f.L it) (Ab (kL::kF::Do R) S 0) (([(f.L+310,Ej w.params f (.s kp (.int (pp:Int) tp)) (.s (o.key (t+599)) (.int i (t+598)))),(it+310,Ac (i+1) (left-1) 1),(f.M+310,Az (m.MD+310)),(m.MD+310,By w.params m)])++ps1) (n2+310) (t2+598) g2 res l' n' t' g'):Does (Z w os b1 b2) (J7 w.params f.L it) (Ab (kL::kF::Do R) S 0) (([(f.L+310,Ej w.params f (.s kp (.int (pp:Int) tp)) o),(it+310,Ac i left 1),(f.M+310,Az (m.MD+310)),(m.MD+310,By w.params m)])++ps) (n+310) (t+598) g res l' n' t' g':=
 Bz 43 A0u [0,1,2,3] hL next (by kernel_rfl) (by decide) (fun p=>congrFun (Ags w os S n t g it f m kp tp i left n2 t2 g2 ps ps1 R pp o hp b1 b2) p)
def Hd(w:World)(R:RK)(n t g L it:Nat)(i:Int)(ps:LO):List Ah:=[Q0 it i 0 n t g (.error (.ref (n+311))) 0 i 0 [(n+310,Cg #[]),(n+311,(At ((n+310).add 0)))] 312 598]
noncomputable def A4j(w:World)(os:OsState)(S:Nat→Slot)(n:Nat)(t:Nat)(g:Nat)(L:Nat)(it:Nat)(i:Int)(ps:LO)(R:RK)(b1 b2:Bool):Ao:=B7 (Ak (Z w os b1 b2) (Ab (kL::kF::Do R) S 0) 5 (J7 w.params L it) ([(it+310,Ac i 0 1)]) (n+310) (t+598) g 0x10082 (Hd w R n t g L it i ps) ps) [0] (Hd w R n t g L it i ps)
noncomputable def A1m(w:World)(os:OsState)(S:Nat→Slot)(n:Nat)(t:Nat)(g:Nat)(L:Nat)(it:Nat)(i:Int)(ps:LO)(R:RK)(b1 b2:Bool):Ao:=B6 (Ak (Z w os b1 b2) (Ab (kL::kF::Do R) S 0) 5 (J7 w.params L it) ([(it+310,Ac i 0 1)]) (n+310) (t+598) g 0x10082 (Hd w R n t g L it i ps) ps) (.res (.ok .next)) ([(it+310,(Ac i 0 1))]) ps (n+312) (t+598) g (Hd w R n t g L it i ps)
theorem Aeo(w:World)(os:OsState)(S:Nat→Slot)(n:Nat)(t:Nat)(g:Nat)(L:Nat)(it:Nat)(i:Int)(ps:LO)(R:RK):∀(b1 b2:Bool),A4j w os S n t g L it i ps R b1 b2=A1m w os S n t g L it i ps R b1 b2
 |false,_=>by cases R<;>kernel_rfl
 |true,_=>by cases R<;>kernel_rfl
theorem U0(R:RK)(n t g L it:Nat)(i:Int)(ps:LO)(b1 b2:Bool) (hL:ObRs (Z w os b1 b2) (Hd w R n t g L it i ps)):Does (Z w os b1 b2) (J7 w.params L it) (Ab (kL::kF::Do R) S 0) (([(it+310,Ac i 0 1)])++ps) (n+310) (t+598) g (.ok .next) (([(it+310,(Ac i 0 1))])++ps) (n+312) (t+598) g:=
 Bo 5 0x10082 [0] hL (by decide) (fun p=>congrFun (Aeo w os S n t g L it i ps R  b1 b2) p)
def Ft(w:World)(R:RK)(n t g L it:Nat)(i:Int)(ps:LO):List Ah:=[Q0 it i 0 n t g (.error (.ref (n+311))) 0 i 0 [(n+310,Cg #[]),(n+311,(At ((n+310).add 0)))] 312 598]
noncomputable def Ye(w:World)(os:OsState)(S:Nat→Slot)(n:Nat)(t:Nat)(g:Nat)(L:Nat)(it:Nat)(i:Int)(ps:LO)(R:RK)(b1 b2:Bool):Ao:=B7 (Ak (Z w os b1 b2) (Ab (kF::Do R) S 0) 5 (Gm w.params L it) ([(it+310,Ac i 0 1)]) (n+310) (t+598) g 0x10082 (Ft w R n t g L it i ps) ps) [0] (Ft w R n t g L it i ps)
noncomputable def Zn(w:World)(os:OsState)(S:Nat→Slot)(n:Nat)(t:Nat)(g:Nat)(L:Nat)(it:Nat)(i:Int)(ps:LO)(R:RK)(b1 b2:Bool):Ao:=B6 (Ak (Z w os b1 b2) (Ab (kF::Do R) S 0) 5 (Gm w.params L it) ([(it+310,Ac i 0 1)]) (n+310) (t+598) g 0x10082 (Ft w R n t g L it i ps) ps) (.res (.ok .next)) ([(it+310,(Ac i 0 1))]) ps (n+312) (t+598) g (Ft w R n t g L it i ps)
theorem A93(w:World)(os:OsState)(S:Nat→Slot)(n:Nat)(t:Nat)(g:Nat)(L:Nat)(it:Nat)(i:Int)(ps:LO)(R:RK):∀(b1 b2:Bool),Ye w os S n t g L it i ps R b1 b2=Zn w os S n t g L it i ps R b1 b2
 |false,_=>by cases R<;>kernel_rfl
 |true,_=>by cases R<;>kernel_rfl
theorem Sh(R:RK)(n t g L it:Nat)(i:Int)(ps:LO)(b1 b2:Bool) (hL:ObRs (Z w os b1 b2) (Ft w R n t g L it i ps)):Does (Z w os b1 b2) (Gm w.params L it) (Ab (kF::Do R) S 0) (([(it+310,Ac i 0 1)])++ps) (n+310) (t+598) g (.ok .next) (([(it+310,(Ac i 0 1))])++ps) (n+312) (t+598) g:=
 Bo 5 0x10082 [0] hL (by decide) (fun p=>congrFun (A93 w os S n t g L it i ps R  b1 b2) p)
abbrev Q2(x0_:Nat)(x1_:Nat) x2_ x3_ x4_ x5_ (x6_:Nat) (x7_:Nat) (x8_:Nat) (x9_:Nat) x10_ x11_ x12_ x13_ x14_ x15_ (x16_:Nat):=(qC (.call (.builtin "range.__iter__") ⟨[.ref (x0_+x1_)],[]⟩) [(x0_+x1_,E3 "range" #[.int x2_ x3_,.int x4_ x5_,.int 1 (x6_+x7_)])] (x0_+x8_) (x6_+x9_) x10_ (.ok (.ret (.ref (x0_+x8_)))) [x11_] [(Pc x12_ x13_ x14_ x15_ 1 (x6_+x7_))] [(x0_+x8_,(Ac x12_ (Builtin.Range.rangeSize x12_ x14_ 1) 1))] (x0_+x16_) (x6_+x9_) x10_:Ah)
def H3(w:World)(R:RK)(n t g it:Nat)(f:RwK)(m:MK)(oo:OO)(i left:Int)(vs:Array Value)(ev:Nat)(v:Int)(tv:Nat)(kt:Nat)(vt:Value)(x:Int)(n2 t2 g2 n3 t3 g3:Nat)(ps ps1 ps2:LO):List Ah:=[Q0 it i left n t g (.ok (.ret (.int i (t+598)))) 1 (i+1) (left - 1) [] 310 599,
 qC (.call (.builtin "list.__getitem__") ⟨[.ref (f.2+310),.int i (t+598)],[]⟩) [(f.2+310,Ax vs ev)] (n+310) (t+600) g (.ok (.ret (.int v tv))) [2] [(Aa vs ev)] [] (n+310) (t+600) g,
 Q2 n 310 0 (t+600) v tv t 601 311 602 g 5 0 (t+600) v tv 312,
 qP (some (kL::kF::Do R)) (J7 w.params f.L (n+1)) [(f.L+310,Ej w.params f (.s (oo.kp (t+599)) (.int i (t+598))) oo.q),(n+311,Ac 0 (Builtin.Range.rangeSize 0 v 1) 1),(f.M+310,Az (m.MD+310)),(m.MD+310,By w.params m)] ps ps1 (n+312) (t+602) g (.ok .next) [0,6,3,4] [Ej w.params f (.s (oo.kp (t+599)) (.int i (t+598))) (.s kt vt),Ac x 0 1,Az (m.MD+310),By w.params m] [] (n2+310) (t2+598) g2,
 qP (some (Om R)) (.call (.ref 149) ⟨[.ref (f.M+310)],[]⟩) [(f.M+310,Az (m.MD+310)),(m.MD+310,By w.params m)] ps1 ps2 (n2+310) (t2+598) g2 (.ok (.ret .none)) [3,4] [Az (m.MD+310),By w.params m] [] (n3+310) (t3+598) g3]
noncomputable def A2c(w:World)(os:OsState)(S:Nat→Slot)(n:Nat)(t:Nat)(g:Nat)(it:Nat)(f:RwK)(m:MK)(i:Int)(left:Int)(vs:Array Value)(ev:Nat)(v:Int)(tv:Nat)(kt:Nat)(vt:Value)(x:Int)(n2:Nat)(t2:Nat)(g2:Nat)(n3:Nat)(t3:Nat)(g3:Nat)(ps:LO)(ps1:LO)(ps2:LO)(R:RK)(oo:OO)(b1 b2:Bool):Ao:=B7 (Ak (Z w os b1 b2) (Ab (kF::Do R) S 0) 73 (Gm w.params f.L it) ([(f.L+310,Ej w.params f oo.p oo.q),(it+310,Ac i left 1),(f.V+310,Aa vs ev),(f.M+310,Az (m.MD+310)),(m.MD+310,By w.params m)]) (n+310) (t+598) g A4i (H3 w R n t g it f m oo i left vs ev v tv kt vt x n2 t2 g2 n3 t3 g3 ps ps1 ps2) ps) [0,1,2,3,4] (H3 w R n t g it f m oo i left vs ev v tv kt vt x n2 t2 g2 n3 t3 g3 ps ps1 ps2)
noncomputable def A3f(w:World)(os:OsState)(S:Nat→Slot)(n:Nat)(t:Nat)(g:Nat)(it:Nat)(f:RwK)(m:MK)(i:Int)(left:Int)(vs:Array Value)(ev:Nat)(v:Int)(tv:Nat)(kt:Nat)(vt:Value)(x:Int)(n2:Nat)(t2:Nat)(g2:Nat)(n3:Nat)(t3:Nat)(g3:Nat)(ps:LO)(ps1:LO)(ps2:LO)(R:RK)(oo:OO)(b1 b2:Bool):Ao:=B6 (Ak (Z w os b1 b2) (Ab (kF::Do R) S 0) 73 (Gm w.params f.L it) ([(f.L+310,Ej w.params f oo.p oo.q),(it+310,Ac i left 1),(f.V+310,Aa vs ev),(f.M+310,Az (m.MD+310)),(m.MD+310,By w.params m)]) (n+310) (t+598) g A4i (H3 w R n t g it f m oo i left vs ev v tv kt vt x n2 t2 g2 n3 t3 g3 ps ps1 ps2) ps) (.again (Gm w.params f.L it)) ([(f.L+310,Ej w.params f (.s (oo.kp (t+599)) (.int i (t+598))) (.s kt vt)),(it+310,Ac (i+1) (left-1) 1),(f.V+310,Aa vs ev),(f.M+310,Az (m.MD+310)),(m.MD+310,By w.params m)]) ps2 (n3+310) (t3+598) g3 (H3 w R n t g it f m oo i left vs ev v tv kt vt x n2 t2 g2 n3 t3 g3 ps ps1 ps2)
theorem Ab2(w:World)(os:OsState)(S:Nat→Slot)(n:Nat)(t:Nat)(g:Nat)(it:Nat)(f:RwK)(m:MK)(i:Int)(left:Int)(vs:Array Value)(ev:Nat)(v:Int)(tv:Nat)(kt:Nat)(vt:Value)(x:Int)(n2:Nat)(t2:Nat)(g2:Nat)(n3:Nat)(t3:Nat)(g3:Nat)(ps:LO)(ps1:LO)(ps2:LO)(R:RK)(oo:OO):∀(b1 b2:Bool),A2c w os S n t g it f m i left vs ev v tv kt vt x n2 t2 g2 n3 t3 g3 ps ps1 ps2 R oo b1 b2=A3f w os S n t g it f m i left vs ev v tv kt vt x n2 t2 g2 n3 t3 g3 ps ps1 ps2 R oo b1 b2
 |false,_=>by cases R<;>cases oo<;>kernel_rfl
 |true,_=>by cases R<;>cases oo<;>kernel_rfl
theorem Tr(R:RK)(n t g it:Nat)(f:RwK)(m:MK)(oo:OO)(i left:Int)(vs:Array Value)(ev:Nat)(v:Int)(tv:Nat)(kt:Nat)(vt:Value)(x:Int)(n2 t2 g2 n3 t3 g3:Nat)(ps ps1 ps2:LO)(b1 b2:Bool) (hL:ObRs (Z w os b1 b2) (H3 w R n t g it f m oo i left vs ev v tv kt vt x n2 t2 g2 n3 t3 g3 ps ps1 ps2))
  (next:Does (Z w os b1 b2) (Gm w.params f.L it) (Ab (kF::Do R) S 0) (([(f.L+310,Ej w.params f (.s (oo.kp (t+599)) (.int i (t+598))) (.s kt vt)),(it+310,Ac (i+1) (left-1) 1),(f.V+310,Aa vs ev),(f.M+310,Az (m.MD+310)),(m.MD+310,By w.params m)])++ps2) (n3+310) (t3+598) g3 res l' n' t' g'):Does (Z w os b1 b2) (Gm w.params f.L it) (Ab (kF::Do R) S 0) (([(f.L+310,Ej w.params f oo.p oo.q),(it+310,Ac i left 1),(f.V+310,Aa vs ev),(f.M+310,Az (m.MD+310)),(m.MD+310,By w.params m)])++ps) (n+310) (t+598) g res l' n' t' g':=
 Bz 73 A4i [0,1,2,3,4] hL next (by kernel_rfl) (by decide) (fun p=>congrFun (Ab2 w os S n t g it f m i left vs ev v tv kt vt x n2 t2 g2 n3 t3 g3 ps ps1 ps2 R oo  b1 b2) p)
abbrev rwM(n t:Nat)(W:Int):MK:=Ade (n+1) (t+7) (2*W) (t+602) (t+603) (t+604)
noncomputable abbrev rwK(n t V:Nat)(W:Int)(tw:Nat):RwK:=⟨n,V,n+2,t+598,t+599,t+629,W,tw⟩
abbrev Q9(x0_:Nat)(x1_:Nat) x2_ (x3_:Nat) (x4_:Nat) (x5_:Nat) (x6_:Nat) (g:Nat) x7_ x8_ (x9_:Nat) (x10_:Nat) (vs:Array Value) (x11_:Nat) (x12_:Nat) (x13_:Nat):=(qC (.call (.builtin "range.__iter__") ⟨[.ref (x0_+x1_)],[]⟩) [(x0_+x1_,x2_)] (x3_+x4_) (x5_+x6_) g (.ok (.ret (.ref (x3_+x4_)))) [x7_] [(Pc x8_ (x9_+x10_) (↑ vs.size) (x9_+x11_) 1 (x9_+x12_))] [(x3_+x4_,(Ac x8_ (Builtin.Range.rangeSize x8_ (↑ vs.size) 1) 1))] (x3_+x13_) (x5_+x6_) g:Ah)
abbrev Pt(x0_:Nat) x1_ (x2_:Nat) (x3_:Nat) (x4_:Nat) (x5_:Nat) x6_ (vs:Array Value) (x7_:Nat) x8_ x9_ (x10_:Nat):=(qC (.call (.builtin "len") ⟨[.ref (x0_+310)],[]⟩) [(x0_+310,x1_)] (x2_+x3_) (x4_+x5_) x6_ (.ok (.ret (.int (↑ vs.size) (x4_+x7_)))) [x8_] [(Aa vs x9_)] [] (x2_+x3_) (x4_+x10_) x6_:Ah)
def He(w:World)(R:RK)(n t g:Nat)(V:Nat)(vs:Array Value)(ev:Nat)(W:Int)(tw:Nat)(n2 t2 g2:Nat)(oo:OO)(x:Int)(e2 ti2 el2:Nat)(ls:Array Value)(ps ps1:LO):List Ah:=[Dn 2 (t+601) W tw (n+311) (t+602) g,
 qK (kF::Do R) (.call (.ref 187) ⟨[.int 0 (t+600),.int (2*W) (t+602),Bu (t+603),Bu (t+604)],[]⟩) [] (n+311) (t+605) g (.ok (.ret (.ref (n+312)))) [] [] [(n+312,Az (n+311)),(n+311,By w.params (rwM n t W)),(n+314,Aa #[] 0),(n+316,Aj (n+315) #[] 0),(n+315,B9 w.params (t+625) (t+600))] (n+320) (t+629) g,
 Pt V (Ax vs ev) n 320 t 630 g vs 631 0 ev 632,
 Q9 n 320 (E3 "range" #[.int 0 (t+632),.int (↑vs.size) (t+631),.int 1 (t+633)]) n 321 t 634 g 7 0 t 632 vs 631 633 322,
 qP (some (kF::Do R)) (Gm w.params n (n+11)) [(n+310,Ej w.params (rwK n t V W tw) .n .n),(n+321,Ac 0 (Builtin.Range.rangeSize 0 (vs.size:Int) 1) 1),(V+310,Aa vs ev),(n+312,Az (n+311)),(n+311,By w.params (rwM n t W)),(n+316,Aj (n+315) #[] 0),(n+315,B9 w.params (t+625) (t+600)),(n+314,Aa #[] 0)] ps ps1 (n+322) (t+634) g (.ok .next) [1,8,0,2,3,5,6,4] [Ej w.params (rwK n t V W tw) oo.p oo.q,Ac x 0 1,Aa vs ev,Az (n+311),By w.params (rwM n t W),Aj (n+315) #[] e2,B9 w.params (t+625) ti2,Aa ls el2] [] (n2+310) (t2+598) g2]
noncomputable def A1n(w:World)(os:OsState)(S:Nat→Slot)(n:Nat)(t:Nat)(g:Nat)(V:Nat)(vs:Array Value)(ev:Nat)(W:Int)(tw:Nat)(n2:Nat)(t2:Nat)(g2:Nat)(x:Int)(e2:Nat)(ti2:Nat)(el2:Nat)(ls:Array Value)(ps:LO)(ps1:LO)(R:RK)(oo:OO)(b1 b2:Bool):Ao:=B7 (Ak (Z w os b1 b2) (Ab (Do R) S 0) 96 (.call (.ref 292) ⟨[.ref (V+310),.int W tw],[]⟩) ([(V+310,Aa vs ev)]) (n+310) (t+598) g A3i (He w R n t g V vs ev W tw n2 t2 g2 oo x e2 ti2 el2 ls ps ps1) ps) [0,4] (He w R n t g V vs ev W tw n2 t2 g2 oo x e2 ti2 el2 ls ps ps1)
noncomputable def A41(w:World)(os:OsState)(S:Nat→Slot)(n:Nat)(t:Nat)(g:Nat)(V:Nat)(vs:Array Value)(ev:Nat)(W:Int)(tw:Nat)(n2:Nat)(t2:Nat)(g2:Nat)(x:Int)(e2:Nat)(ti2:Nat)(el2:Nat)(ls:Array Value)(ps:LO)(ps1:LO)(R:RK)(oo:OO)(b1 b2:Bool):Ao:=B6 (Ak (Z w os b1 b2) (Ab (Do R) S 0) 96 (.call (.ref 292) ⟨[.ref (V+310),.int W tw],[]⟩) ([(V+310,Aa vs ev)]) (n+310) (t+598) g A3i (He w R n t g V vs ev W tw n2 t2 g2 oo x e2 ti2 el2 ls ps ps1) ps) (.res (.ok (.ret (.ref (n+314))))) ([(V+310,Aa vs ev),(n+314,Aa ls el2)]) ps1 (n2+310) (t2+599) g2 (He w R n t g V vs ev W tw n2 t2 g2 oo x e2 ti2 el2 ls ps ps1)
theorem Adm(w:World)(os:OsState)(S:Nat→Slot)(n:Nat)(t:Nat)(g:Nat)(V:Nat)(vs:Array Value)(ev:Nat)(W:Int)(tw:Nat)(n2:Nat)(t2:Nat)(g2:Nat)(x:Int)(e2:Nat)(ti2:Nat)(el2:Nat)(ls:Array Value)(ps:LO)(ps1:LO)(R:RK)(oo:OO):∀(b1 b2:Bool),A1n w os S n t g V vs ev W tw n2 t2 g2 x e2 ti2 el2 ls ps ps1 R oo b1 b2=A41 w os S n t g V vs ev W tw n2 t2 g2 x e2 ti2 el2 ls ps ps1 R oo b1 b2
 |false,_=>by cases R<;>cases oo<;>kernel_rfl
 |true,_=>by cases R<;>cases oo<;>kernel_rfl
theorem U3(R:RK)(n t g:Nat)(V:Nat)(vs:Array Value)(ev:Nat)(W:Int)(tw:Nat)(n2 t2 g2:Nat)(oo:OO)(x:Int)(e2 ti2 el2:Nat)(ls:Array Value)(ps ps1:LO)(b1 b2:Bool) (hL:ObRs (Z w os b1 b2) (He w R n t g V vs ev W tw n2 t2 g2 oo x e2 ti2 el2 ls ps ps1)):Does (Z w os b1 b2) (.call (.ref 292) ⟨[.ref (V+310),.int W tw],[]⟩) (Ab (Do R) S 0) (([(V+310,Aa vs ev)])++ps) (n+310) (t+598) g (.ok (.ret (.ref (n+314)))) (([(V+310,Aa vs ev),(n+314,Aa ls el2)])++ps1) (n2+310) (t2+599) g2:=
 Bo 96 A3i [0,4] hL (by decide) (fun p=>congrFun (Adm w os S n t g V vs ev W tw n2 t2 g2 x e2 ti2 el2 ls ps ps1 R oo  b1 b2) p)
section
section
variable (w:World)(os:OsState)(S:Nat→Slot)(n t g C CD ki ti ep c:Nat)(q:Prt)(k:CoK)
def Vw(b1 b2:Bool)(p N orc:Nat):Prop:=∀pos,Fb (Mg (Z w os b1 b2) (Ab (C7 .l .a) S 0) N (.call (.builtin "len") ⟨[.ref (C+310)],[]⟩) pos (Bv w.params C CD ep ki ti q p++[(233,De)]) (n+310) (t+598) g orc (Go []))
 (List.range (p+3)++[p+7]) (.res (.ok (.ret (.int ((2*p:Nat):Int) (t+617))))) (Oy w.params C CD ep ki ti q (n+4) (S0 n t) p) (n+325) (t+618) (g+1) []
theorem Kl :
 Vw w os S n t g C CD ki ti ep q false false 1 284 Abe ∧
 Vw w os S n t g C CD ki ti ep q false true 1 274 Aa3 ∧
 Vw w os S n t g C CD ki ti ep q true false 1 284 Abe ∧
 Vw w os S n t g C CD ki ti ep q true true 1 274 Aa3:=
 ⟨fun _=>by kernel_rfl,fun _=>by kernel_rfl,fun _=>by kernel_rfl,fun _=>by kernel_rfl⟩
theorem Agp:∀(b1 b2:Bool),Does (Z w os b1 b2) (.call (.builtin "len") ⟨[.ref (C+310)],[]⟩) (Ab (C7 .l .a) S 0) (Bv w.params C CD ep ki ti q 1++[(233,De)]) (n+310) (t+598) g (.ok (.ret (.int 2 (t+617)))) (Oy w.params C CD ep ki ti q (n+4) (S0 n t) 1) (n+325) (t+618) (g+1)
 |false,false=>Gw _ _ (List.range 4++[8]) .nil (by decide) (Kl w os S n t g C CD ki ti ep q).1
 |false,true=>Gw _ _ (List.range 4++[8]) .nil (by decide) (Kl w os S n t g C CD ki ti ep q).2.1
 |true,false=>Gw _ _ (List.range 4++[8]) .nil (by decide) (Kl w os S n t g C CD ki ti ep q).2.2.1
 |true,true=>Gw _ _ (List.range 4++[8]) .nil (by decide) (Kl w os S n t g C CD ki ti ep q).2.2.2
end
end
section
inductive TB
 |e
 |h (c:Nat) (k:CoK)
 |f (c:Nat) (k:CoK) (c2:Nat) (k2:CoK)
def TB.obs:TB→LO
 |.e=>[(233,De),(240,De)]
 |.h c k=>Ee c k++[(240,De)]
 |.f c k c2 k2=>Ee c k++F9 c2 k2
noncomputable def newer(a b:LO)(n:Nat):Prop:=∀u∈b,u.1∈a.map (·.1)∨n≤u.1
theorem newer.same{a:LO}{n:Nat}:newer a a n:=fun u hu=>.inl (List.mem_map.mpr ⟨u,hu,rfl⟩)
theorem newer.app{a b c d:LO}{n:Nat}(h:newer a b n)(h':newer c d n):newer (a++c) (b++d) n:=by
 intro u hu
 rw [List.map_append]
 rcases List.mem_append.mp hu with w | w
 ·exact (h u w).imp (List.mem_append_left _) id
 ·exact (h' u w).imp (List.mem_append_right _) id
theorem newer.mono{a b:LO}{n m:Nat}(h:newer a b n)(hm:m≤n):newer a b m:=fun u hu=>(h u hu).imp id (Nat.le_trans hm)
theorem newer.at{a:Nat}{o o':Obj}{n:Nat}:newer [(a,o)] [(a,o')] n:=fun u hu=>by
 rcases List.mem_singleton.mp hu with rfl
 exact .inl (.head _)
theorem newer.lenT{c:Nat}{k:CoK}{n:Nat}(h:n≤c+310):newer [(233,De)] (Ee c k) n:=fun u hu=>by
 simp only [Ee,List.mem_cons,List.not_mem_nil,or_false] at hu
 rcases hu with rfl | rfl
 ·exact .inl (.head _)
 ·exact .inr h
theorem newer.strT{c:Nat}{k:CoK}{n:Nat}(h:n≤c+310):newer [(240,De)] (F9 c k) n:=fun u hu=>by
 simp only [F9,List.mem_cons,List.not_mem_nil,or_false] at hu
 rcases hu with rfl | rfl
 ·exact .inl (.head _)
 ·exact .inr h
theorem pm{α:Type}(A B C D:List α):((A++B)++(C++D)).Perm (A++(C++(B++D))):=by
 rw [List.append_assoc]
 exact List.Perm.append_left A (List.perm_append_comm_assoc ..)
theorem Ut{α:Type}(A B C D:List α):((A++B)++(C++D)).Perm (A++(C++(D++B))):=
 (pm A B C D).trans (List.Perm.append_left A (List.Perm.append_left C List.perm_append_comm))
section
variable {w:World}{os:OsState}(b1 b2:Bool)(R:RK)(K:SK)(n t g C CD ki ti ep p:Nat)(q:Prt)(rest:LO)(T:TB)
noncomputable def TB.lenOk(R:RK)(K:SK)(p:Nat):TB→Prop
 |.e=>R=.l∧K=.a∧p=1
 |_=>True
def TB.len(n t:Nat):TB→TB
 |.e=>.h (n+4) (S0 n t)
 |T=>T
theorem TB.len_new:newer T.obs (T.len n t).obs (n+310):=by
 cases T with
 |e=>exact newer.app (newer.lenT Dr) newer.same
 |h=>exact newer.same
 |f=>exact newer.same
theorem M7(h1:1≤p)(hp:p≤7)(hT:T.lenOk R K p):∃n' t' g' tl,n≤n'∧∀S,Does (Z w os b1 b2) (Nz K C) (Ab (C7 R K) S 0) (Bv w.params C CD ep ki ti q p++(rest++T.obs)) (n+310) (t+598) g (.ok (.ret (.int ((2*p:Nat):Int) tl)))
  (Bv w.params C CD ep ki ti q p++(rest++(T.len n t).obs)) (n'+310) (t'+598) g':=by
 cases T with
 |e=>
  refine Af fun Gz hGz=>?_
  obtain ⟨rfl,rfl,rfl⟩:=hT
  refine hGz ?_
  refine Ci (n+15) (t+20) (g+1) (t+617) ⟨Er,fun S=>?_⟩
  have D:=(Agp w os S n t g C CD ki ti ep q b1 b2).frame (rest++[(240,De)]) (newer.app newer.same (newer.lenT Dr))
  exact D.perm (pm ..) (pm ..)
 |h c k=>
  refine Ci (n+9+3*p) (t+7+8*p) (g+1) (t+604+8*p) ⟨by lia,fun S=>?_⟩
  have D:=(A5e R K w os S q p n t g C CD ki ti ep c k b1 b2 h1 hp).frame (rest++[(240,De)]) newer.same
  rw [show n+9+3*p+310=n+319+3*p by exact Dp,show t+7+8*p+598=t+605+8*p by exact Dp]
  exact D.perm (pm ..) (pm ..)
 |f c k c2 k2=>
  refine Ci (n+9+3*p) (t+7+8*p) (g+1) (t+604+8*p) ⟨by lia,fun S=>?_⟩
  have D:=(A5e R K w os S q p n t g C CD ki ti ep c k b1 b2 h1 hp).frame (rest++F9 c2 k2) newer.same
  rw [show n+9+3*p+310=n+319+3*p by exact Dp,show t+7+8*p+598=t+605+8*p by exact Dp]
  exact D.perm (pm ..) (pm ..)
noncomputable def TB.strOk(R:RK)(K:SK)(p:Nat):TB→Prop
 |.e=>False
 |.h ..=>R=.l∧K=.a∧2≤p
 |.f ..=>True
def TB.str(n t:Nat):TB→TB
 |.h c k=>.f c k (n+4) (S0 n t)
 |T=>T
theorem TB.str_new:newer T.obs (T.str n t).obs (n+310):=by
 cases T with
 |h=>exact newer.app newer.same (newer.strT Dr)
 |e=>exact newer.same
 |f=>exact newer.same
theorem Os(h1:1≤p)(hp:p≤6)(hT:T.strOk R K p):∃n' t' g' tk,n≤n'∧∀S,Does (Z w os b1 b2) (G4 C) (Ab (C7 R K) S 0) (Bv w.params C CD ep ki ti q p++(rest++T.obs)) (n+310) (t+598) g (.ok (.ret (.str (Bl q.i p) tk)))
  (Bv w.params C CD ep ki ti q p++(rest++(T.str n t).obs)) (n'+310) (t'+598) g':=by
 cases T with
 |e=>exact hT.elim
 |h c k=>
  refine Af fun Gz hGz=>?_
  obtain ⟨rfl,rfl,h2⟩:=hT
  refine hGz ?_
  refine Ci (n+12+4*p) (t+10+3*p) (g+1) (t+607+3*p) ⟨by lia,fun S=>?_⟩
  have D:=(A3y w os S q p n t g C CD ki ti ep b1 b2 h2 hp).frame (rest++Ee c k) (newer.app newer.same (newer.strT Dr))
  rw [show n+12+4*p+310=n+322+4*p by exact Dp,show t+10+3*p+598=t+608+3*p by exact Dp]
  exact D.perm (Ut ..) (Ut ..)
 |f c k c2 k2=>
  rcases Nat.lt_or_ge p 2 with h | h
  ·obtain rfl:p=1:=by lia
   refine Ci (n+13) (t+7) (g+1) (t+604) ⟨Er,fun S=>?_⟩
   have D:=(Yo (w:=w) (os:=os) (S:=S) R K n t g C CD ki ti ep c2 k2 q b1 b2 trivial).frame (rest++Ee c k) newer.same
   exact D.perm (Ut (Bv w.params C CD ep ki ti q 1) (F9 c2 k2) rest (Ee c k)) (Ut (Bv w.params C CD ep ki ti q 1) (F9 c2 k2) rest (Ee c k))
  ·refine Ci (n+9+4*p) (t+5+3*p) (g+1) (t+602+3*p) ⟨by lia,fun S=>?_⟩
   have D:=(A2i R K w os S q p n t g C CD ki ti ep c2 k2 b1 b2 h hp).frame (rest++Ee c k) newer.same
   rw [show n+9+4*p+310=n+319+4*p by exact Dp,show t+5+3*p+598=t+603+3*p by exact Dp]
   exact D.perm (Ut ..) (Ut ..)
end
end
section
theorem Gb(q:Prt)(p a i s y:Nat):(q.put p a i s y).obs (p+1)=q.obs p++[(a+310,Ap (Bu s) (ch i y))]:=by
 unfold Prt.obs
 rw [List.range_succ,List.map_append]
 congr 1
 ·refine List.map_congr_left fun j hj=>?_
  have hj:=List.mem_range.mp hj
  have hne:j≠p:=by exact A26 hj
  simp [Prt.put,Prt.tup,hne]
 ·simp [Prt.put,Prt.tup]
theorem pm3{α:Type}{a b x:α}(A B:List α):((a::b::(A++[x]))++B).Perm ([a,b,x]++(A++B)):=by
 refine .cons a (.cons b ?_)
 show ((A++[x])++B).Perm (x::(A++B))
 rw [List.append_assoc]
 exact List.perm_middle
theorem pm4{α:Type}{a b c d x:α}(A B:List α):([a,b]++((c::d::(A++[x]))++B)).Perm ([a,b,c,d,x]++(A++B)):=.cons a (.cons b (pm3 A B))
theorem pm5{α:Type}{a b c d e:α}(A B:List α):([a,b]++((c::d::A)++(e::B))).Perm ([a,b,c,d,e]++(A++B)):=by
 refine .cons a (.cons b (.cons c (.cons d ?_)))
 exact List.perm_middle
theorem L5{α:Type}{c d x:α}(A B:List α):((c::d::(A++[x]))++B).Perm ([c,d,x]++(A++B)):=pm3 A B
section
variable {w:World}{os:OsState}(b1 b2:Bool)(R:RK)(n t g ti ep el p:Nat)(m:MK)(q:Prt)(T:TB)(ls:Array Value)(x ts ty:Nat)
def stP(P:Params)(m:MK)(ep ti:Nat)(q:Prt)(p:Nat)(ls:Array Value)(el:Nat)(T:TB):LO:=Bv P m.C m.CD ep m.ki ti q p++([(m.L+310,Aa ls el)]++T.obs)
def chC(m:MK)(x ts ty:Nat):Code:=.call (.ref 184) ⟨[.ref (m.M+310),Bu ts,ch x ty],[]⟩
theorem A8r:newer T.obs (T.len (n+3) (t+8)).obs (n+313):=TB.len_new (n+3) (t+8) T
theorem A1e(hp:p < 6) (hd:decide (((2*(p+1):Nat):Int) > m.mx)=false) (hT:T.lenOk R .a (p+1)):∃n' t' g',n≤n'∧∀S,Does (Z w os b1 b2) (chC m x ts ty) (Ab (Ib R) S 0) (Ho w.params m++stP w.params m ep ti q p ls el T) (n+310) (t+598) g (.ok (.ret .none))
  (Ho w.params m++stP w.params m (ep+1) ti (q.put p (n+2) x ts ty) (p+1) ls el (T.len (n+3) (t+8))) (n'+310) (t'+598) g':=by
 refine Af fun Gz hGz=>?_
 refine Iv (M7 (w:=w) (os:=os) b1 b2 R .a (n+3) (t+8) g m.C m.CD m.ki ti (ep+1) (p+1) (q.put p (n+2) x ts ty) [(m.L+310,Aa ls el)] T F5 (A32 hp) hT) fun n2 t2 g2 tl hn D=>?_
 refine hGz ?_
 unfold Bv at D
 rw [Gb] at D
 refine Wn n2 (t2+1) g2 ⟨C6 hn,fun S=>?_⟩
 have X:=A4u (w:=w) (os:=os) (S:=S) R n t g m q p ep ti x ts ty n2 t2 g2 tl (q.obs p++([(m.L+310,Aa ls el)]++T.obs)) (q.obs p++([(m.L+310,Aa ls el)]++(T.len (n+3) (t+8)).obs)) hp b1 b2
  ⟨B0 (newer.app newer.same (newer.app newer.same (A8r n t T))) (fun S=>(D S).perm (L5 ..) (L5 ..)) (Fj R .a),Eh hd,trivial⟩
 refine X.perm (List.Perm.of_eq rfl) ?_
 unfold stP Bv
 rw [Gb]
 exact (pm4 ..).symm
theorem A9f{α:Type}{a b c d x y:α}(A B:List α):([a,b,c,d,x,y]++(A++B)).Perm (([a,b,c,d,x,y]++B)++A):=by
 rw [List.append_assoc]
 exact List.Perm.append_left _ List.perm_append_comm
theorem A2o(hp:0 < p∧p < 7) (hd:decide (((2*(p+1):Nat):Int) > m.mx)=true) (hT:T.lenOk R .a (p+1)) (hS:T.strOk R .a p) (hz:ls.size≤sizeLine) (h6:p≤6):∃n' t' g' ep' ti' tk n1 t1,n≤n'∧n≤n1∧∀S,Does (Z w os b1 b2) (chC m x ts ty) (Ab (Ib R) S 0) (Ho w.params m++stP w.params m ep ti q p ls el T) (n+310) (t+598) g (.ok (.ret .none))
  (Ho w.params m++stP w.params m ep' ti' (q.put 0 (n+2) x ts ty) 1 (ls.push (.str (Bl q.i p) tk)) (el+1) (T.str n1 t1)) (n'+310) (t'+598) g':=by
 have e1:T.len (n+3) (t+8)=T:=by
  cases T with
  |e=>exact hS.elim
  |h=>rfl
  |f=>rfl
 refine Af fun Gz hGz=>?_
 refine Iv (M7 (w:=w) (os:=os) b1 b2 R .a (n+3) (t+8) g m.C m.CD m.ki ti (ep+1) (p+1) (q.put p (n+2) x ts ty) [] T F5 (by lia) hT) fun n2 t2 g2 tl hn D=>?_
 rw [e1] at D
 refine Iv (Os (w:=w) (os:=os) b1 b2 R .a (n2+11) (t2+29) g2 m.C m.CD m.ki ti (ep+2) p q [] T hp.1 h6 hS) fun n3 t3 g3 tk hn3 D3=>?_
 refine hGz ?_
 unfold Bv at D
 rw [Gb] at D
 refine G7 (n3+2) (t3+6) g3 (ovE p ep) (t3+601) tk (n2+11) (t2+29) ⟨by lia,X4 hn,fun S=>?_⟩
 have X:=A2h (w:=w) (os:=os) (S:=S) R n t g m q p ep ti x ts ty n2 t2 g2 tl n3 t3 g3 tk el ls (q.obs p++T.obs) (q.obs p++T.obs) (q.obs p++(T.str (n2+11) (t2+29)).obs) hp b1 b2
  ⟨B0 newer.same (fun S=>?_) (Fj R .a),Eh hd,Bb (fun S=>?_) (Ux R .c),B0 (newer.app newer.same (TB.str_new (n2+11) (t2+29) T)) (fun S=>?_) (Fj R .a),Ae fun bl=>Dz hz,trivial⟩
 ·have Y:=X.perm (L:=Ho w.params m++stP w.params m ep ti q p ls el T) (L':=([(m.M+310,Az (m.MD+310)),(m.MD+310,By w.params m),(m.C+310,Aj (m.CD+310) ((q.put 0 (n+2) x ts ty).refs 1) (ovE p ep)),(m.CD+310,B9 w.params m.ki (t3+601)),(n+312,Ap (Bu ts) (ch x ty)),(m.L+310,Aa (ls.push (.str (Bl q.i p) tk)) (el+1))]++(T.str (n2+11) (t2+29)).obs)++q.obs p) (pm5 ..).symm (A9f ..)
  have Y:=Y.forget (List.sublist_append_left _ _)
  unfold stP Bv at Y ⊢
  rw [Gb q 0]
  exact Y
 ·exact (D S).perm (L5 ..) (L5 ..)
 ·exact Abt R .c w os b1 b2 S (n2+1) (t2+5) g2 m.C m.CD (ep+1) _
 ·exact (D3 S).perm (List.Perm.of_eq rfl) (List.Perm.of_eq rfl)
end
end
section
theorem Afx(q:Prt)(p n:Nat):(D7 q p n).i=q.i:=by
 funext j
 show (if j=p then q.i p else q.i j)=q.i j
 by_cases e:j=p
 ·rw [if_pos e,e]
 ·rw [if_neg e]
theorem A76(q:Prt)(p n:Nat):(D7 q p n).tup p=Ap (Bu (q.s p)) (ch (q.i p) (q.y p)):=by
 simp [D7,Prt.put,Prt.tup]
theorem A04{z:Zed}{x:Str}{tk n t g:Nat}{v:Bool} (h:(decide (x.length > 0) && x.cps.all Unicode.isSpace)=v):Ed z (qC (.call (.builtin "str.isspace") ⟨[.str x tk],[]⟩) [] n t g (.ok (.ret (.bool v))) [] [] [] n t g):=
 Fa (d:=0) fun A s R _ hR=>Al F.slot_str_isspace (typeIs_str s x tk) F.entry_str_isspace (F.args_str_isspace_1 _) (gives_str_isspace x tk).meets (by rw [← h] at hR;exact hR)
theorem Rl(i:Nat→Nat)(p:Nat) (hs:Unicode.isSpace (i p)=false):(decide ((Bl i (p+1)).length > 0) && (Bl i (p+1)).cps.all Unicode.isSpace)=false:=by
 have:(Bl i (p+1)).cps.all Unicode.isSpace=false:=by
  rw [← Array.all_toList]
  rw [List.all_eq_false]
  refine ⟨i p,?_,by rw [hs];decide⟩
  show i p∈((List.range (p+1)).flatMap fun j=>[32,i j])
  exact List.mem_flatMap.mpr ⟨p,List.mem_range.mpr (Nat.lt_succ_self p),by simp⟩
 rw [this,Bool.and_false]
theorem Agf(i:Nat)(s:Str):(s == Str.ofString " " && (⟨#[i]⟩:Str) == Str.ofString "")=false:=by
 have:((⟨#[i]⟩:Str) == Str.ofString "")=false:=by
  rw [beq_eq_false_iff_ne]
  intro e
  have:=congrArg (fun s:Str=>s.cps.size) e
  exact absurd (show (1:Nat)=0 from this) (by decide)
 rw [this,Bool.and_false]
theorem pm7{α:Type}{a b c d l x:α}(A B:List α):([a,b]++((c::d::(A++[x]))++([l]++B))).Perm ([a,b,c,d,l,x]++(A++B)):=by
 refine .cons a (.cons b (.cons c (.cons d ?_)))
 show ((A++[x])++(l::B)).Perm (l::x::(A++B))
 refine List.perm_middle.trans (.cons l ?_)
 rw [List.append_assoc]
 exact List.perm_middle
theorem pm8{α:Type}{a b c d l x:α}(A B:List α):([a,b,c,d,l,x]++(A++B)).Perm (([a,b,c,d,l]++B)++(x::A)):=by
 refine .cons a (.cons b (.cons c (.cons d (.cons l ?_))))
 show (x::(A++B)).Perm (B++(x::A))
 refine (List.Perm.cons x List.perm_append_comm).trans List.perm_middle.symm
theorem A3v(q:Prt)(p:Nat):q.obs (p+1)=q.obs p++[(q.x p+310,q.tup p)]:=by
 unfold Prt.obs
 rw [List.range_succ,List.map_append];rfl
section
variable {w:World}{os:OsState}(b1 b2:Bool)(R:RK)(n t g ti ep el p:Nat)(m:MK)(q:Prt)(ls:Array Value)(c c2:Nat)(k k2:CoK)
theorem Tz(hp:p < 6) (hs:Unicode.isSpace (q.i p)=false) (hz:ls.size≤sizeLine):∃n' t' g' ep' ti' tk,n≤n'∧∀S,Does (Z w os b1 b2) (.call (.ref 149) ⟨[.ref (m.M+310)],[]⟩) (Ab (Om R) S 0) (Ho w.params m++stP w.params m ep ti q (p+1) ls el (.f c k c2 k2)) (n+310) (t+598) g (.ok (.ret .none))
  (Ho w.params m++stP w.params m ep' ti' q 0 (ls.push (.str (Bl q.i (p+1)) tk)) (el+1) (.f c k c2 k2)) (n'+310) (t'+598) g':=by
 refine Af fun Gz hGz=>?_
 refine Iv (M7 (w:=w) (os:=os) b1 b2 R .n (n+12) (t+17) g m.C m.CD m.ki ti (ep+2) (p+1) (D7 q p n) [] (.f c k c2 k2) F5 (A32 hp) trivial) fun n2 t2 g2 l2 h2 D2=>?_
 refine Iv (M7 (w:=w) (os:=os) b1 b2 R .o (n2+1) (t2+5) g2 m.C m.CD m.ki ti (ep+2) (p+1) (D7 q p n) [] (.f c k c2 k2) F5 (A32 hp) trivial) fun n3 t3 g3 l3 h3 D3=>?_
 refine Iv (Os (w:=w) (os:=os) b1 b2 R .o n3 t3 g3 m.C m.CD m.ki ti (ep+2) (p+1) (D7 q p n) [] (.f c k c2 k2) F5 hp trivial) fun n4 t4 g4 k4 h4 D4=>?_
 refine Iv (Os (w:=w) (os:=os) b1 b2 R .n n4 (t4+2) g4 m.C m.CD m.ki ti (ep+2) (p+1) (D7 q p n) [] (.f c k c2 k2) F5 hp trivial) fun n5 t5 g5 k5 h5 D5=>?_
 refine hGz ?_
 unfold Bv at D2 D3 D4 D5
 rw [Afx] at D4 D5
 rw [show (D7 q p n).obs (p+1)=q.obs p++[(n+321,(D7 q p n).tup p)] from by rw [A76];exact Gb ..] at D2 D3 D4 D5
 refine D8 (n5+3) (t5+7) g5 (ep+3) (t5+602) k5 ⟨by lia,fun S=>?_⟩
 have X:=A8a (w:=w) (os:=os) (S:=S) R n t g m q p ep ti el ls n2 t2 g2 l2 n3 t3 g3 l3 n4 t4 g4 k4 n5 t5 g5 k5 (q.obs p++TB.obs (.f c k c2 k2)) hp b1 b2
  ⟨Bb (fun S=>Agd R w os b1 b2 S (n+1) (t+2) g m.C m.CD ep m.ki ti q p hp) (Fj R .n),Ae fun bl=>A8p (Agf _ _),
   B0 newer.same (fun S=>(D2 S).perm (L5 ..) (L5 ..)) (Fj R .n),B0 newer.same (fun S=>(D3 S).perm (L5 ..) (L5 ..)) (Fj R .o),B0 newer.same (fun S=>(D4 S).perm (L5 ..) (L5 ..)) (Fj R .o),
   A04 (Rl q.i p hs),B0 newer.same (fun S=>(D5 S).perm (L5 ..) (L5 ..)) (Fj R .n),Ae fun bl=>Dz hz,trivial⟩
 have Y:=X.perm (L:=Ho w.params m++stP w.params m ep ti q (p+1) ls el (.f c k c2 k2)) (by unfold stP Bv;rw [A3v];exact (pm7 ..).symm) (pm8 ..)
 exact Y.forget (List.sublist_append_left _ _)
end
end
section
noncomputable def I4:Value→Option Str
 |.str s _=>some s
 |_=>none
def C8(x p:Nat):Str:=Bl (fun _=>x) p
theorem Uw{i:Nat→Nat}{x p:Nat}(h:∀j,j < p→i j=x):Bl i p=C8 x p:=by
 unfold C8 Bl
 have:(List.range p).flatMap (fun j=>[32,i j])=(List.range p).flatMap (fun _=>[32,x]):=by
  rw [List.flatMap_def,List.flatMap_def]
  refine congrArg List.flatten (List.map_congr_left fun j hj=>?_)
  rw [h j (List.mem_range.mp hj)]
 rw [this]
def Sc(W x:Nat)(d:List Str×Nat):List Str×Nat:=if d.2 < W then (d.1,d.2+1) else (d.1++[C8 x W],1)
def Gq(W x:Nat):Nat→List Str×Nat→List Str×Nat
 |0,d=>d
 |k+1,d=>Gq W x k (Sc W x d)
structure LSt where
 ep:Nat
 ti:Nat
 q:Prt
 p:Nat
 ls:Array Value
 el:Nat
 T:TB
def LSt.obs(P:Params)(m:MK)(s:LSt):LO:=stP P m s.ep s.ti s.q s.p s.ls s.el s.T
noncomputable def TB.inv(R:RK)(W p r:Nat):TB→Prop
 |.e=>R=.l∧W=4∧p=0∧r=0
 |.h ..=>R=.l∧W=4∧p=r
 |.f ..=>True
noncomputable def TB.isF:TB→Prop
 |.f ..=>True
 |_=>False
theorem TB.F{T:TB}(h:T.isF):∃c k c2 k2,T=.f c k c2 k2:=by
 cases T with
 |e=>exact h.elim
 |h=>exact h.elim
 |f c k c2 k2=>exact Ci _ _ _ _ rfl
structure LSt.Ok (R:RK) (W x r z:Nat) (d:List Str×Nat) (s:LSt):Prop where
 hp:s.p=d.2
 hW:s.p≤W
 hq:∀j,j < s.p→s.q.i j=x
 hl:s.ls.toList.map I4=d.1.map some
 hz:s.ls.size≤z
 hT:s.T.inv R W s.p r
theorem newer.trans{a b c:LO}{n:Nat}(h:newer a b n)(h':newer b c n):newer a c n:=fun u hu=>by
 rcases h' u hu with w | w
 ·refine Af fun Gz hGz=>?_
  obtain ⟨v,hv,e⟩:=List.mem_map.mp w
  refine hGz ?_
  rw [← e]
  exact h v hv
 ·exact .inr w
theorem newer.cons{a b:LO}{n x:Nat}{o o':Obj}(h:newer a b n):newer ((x,o)::a) ((x,o')::b) n:=
 newer.app (a:=[(x,o)]) (b:=[(x,o')]) newer.at h
theorem newer.put{P:Params}{C CD ep ki ti ep' ti' p a i s y N:Nat}{q:Prt}(h:N≤a+310):newer (Bv P C CD ep ki ti q p) (Bv P C CD ep' ki ti' (q.put p a i s y) (p+1)) N:=by
 unfold Bv
 rw [Gb]
 refine newer.cons (newer.cons fun u hu=>?_)
 rcases List.mem_append.mp hu with v | v
 ·exact newer.same u v
 ·rcases List.mem_singleton.mp v with rfl
  exact .inr h
theorem newer.put0{P:Params}{C CD ep ki ti ep' ti' p a i s y N:Nat}{q:Prt}(h:N≤a+310):newer (Bv P C CD ep ki ti q p) (Bv P C CD ep' ki ti' (q.put 0 a i s y) 1) N:=by
 unfold Bv
 rw [Gb q 0]
 refine newer.cons (newer.cons fun u hu=>?_)
 rcases List.mem_singleton.mp hu with rfl
 exact .inr h
section
variable {w:World}{os:OsState}(b1 b2:Bool)(R:RK)(n t g:Nat)(m:MK)(W x ts ty r z:Nat)(d:List Str×Nat)(s:LSt)
theorem Z3 (hm:m.mx=((2*W:Nat):Int)) (hW:1≤W∧W≤6) (h:s.Ok R W x r z d) (hz:z≤sizeLine):∃(n' t' g':Nat) (s':LSt),n≤n'∧s'.Ok R W x (r+1) (z+1) (Sc W x d)∧1≤s'.p∧(s.T.isF→s'.T.isF)∧newer s.T.obs s'.T.obs (n+310)∧newer (s.obs w.params m) (s'.obs w.params m) (n+310) ∧
  ∀S,Does (Z w os b1 b2) (chC m x ts ty) (Ab (Ib R) S 0) (Ho w.params m++s.obs w.params m) (n+310) (t+598) g (.ok (.ret .none)) (Ho w.params m++s'.obs w.params m) (n'+310) (t'+598) g':=by
 obtain ⟨ep,ti,q,p,ls,el,T⟩:=s
 obtain ⟨hp,hpW,hq,hl,hlz,hT⟩:=h
 dsimp only at hp hpW hq hl hlz hT
 have hL:T.lenOk R .a (p+1):=by
  cases T with
  |e=>exact ⟨hT.1,rfl,by rw [hT.2.2.1]⟩
  |h=>trivial
  |f=>trivial
 unfold Sc
 by_cases hlt:p < W
 ·rw [if_pos (by lia)]
  refine Af fun Gz hGz=>?_
  refine Ag0 (A1e (w:=w) (os:=os) b1 b2 R n t g ti ep el p m q T ls x ts ty (by lia) (by rw [hm];exact decide_eq_false (by lia)) hL) fun n' t' g' hn D=>?_
  refine hGz ?_
  refine Ci n' t' g' ⟨ep+1,ti,q.put p (n+2) x ts ty,p+1,ls,el,T.len (n+3) (t+8)⟩ ⟨hn,⟨by show p+1=d.2+1;lia,hlt,fun j hj=>?_,hl,by show ls.size≤z+1;exact Ey hlz,?_⟩,by show 1≤p+1;exact F5,(fun h=>by cases T with | e=>exact h | h=>exact h | f=>trivial),(TB.len_new (n+3) (t+8) T).mono Dr,newer.app (newer.put Dr) (newer.app newer.same ((TB.len_new (n+3) (t+8) T).mono Dr)),D⟩
  ·show (if j=p then x else q.i j)=x
   by_cases e:j=p
   ·rw [if_pos e]
   ·rw [if_neg e];exact hq j (by have:j < p+1:=hj;exact z_6 this e)
  ·cases T with
   |e=>exact ⟨hT.1,hT.2.1,by show p+1=r+1;rw [hT.2.2.1,hT.2.2.2]⟩
   |h=>exact ⟨hT.1,hT.2.1,by show p+1=r+1;rw [hT.2.2]⟩
   |f=>trivial
 ·have hpe:p=W:=by lia
  have hS:T.strOk R .a p:=by
   cases T with
   |e=>have:=hT.2.2.1;lia
   |h=>exact ⟨hT.1,rfl,by have:=hT.2.1;lia⟩
   |f=>trivial
  rw [if_neg (by lia)]
  refine Af fun Gz hGz=>?_
  refine Afo (A2o (w:=w) (os:=os) b1 b2 R n t g ti ep el p m q T ls x ts ty (by lia) (by rw [hm];exact decide_eq_true (by lia)) hL hS (G8 hlz hz) (by lia)) fun n' t' g' ep' ti' tk n1 t1 hn hn1 D=>?_
  refine hGz ?_
  refine Ci n' t' g' ⟨ep',ti',q.put 0 (n+2) x ts ty,1,ls.push (.str (Bl q.i p) tk),el+1,T.str n1 t1⟩ ⟨hn,⟨rfl,hW.1,fun j hj=>?_,?_,?_,?_⟩,Nat.le_refl _,(fun h=>by cases T with | e=>exact h | h=>trivial | f=>trivial),(TB.str_new n1 t1 T).mono (G2 hn1),newer.app (newer.put0 Dr) (newer.app newer.at ((TB.str_new n1 t1 T).mono (G2 hn1))),D⟩
  ·show (if j=0 then x else q.i j)=x
   rw [if_pos (by have:j < 1:=hj;lia)]
  ·show (ls.push (.str (Bl q.i p) tk)).toList.map I4=(d.1++[C8 x W]).map some
   rw [Array.toList_push,List.map_append,List.map_append,hl,Uw hq,hpe];rfl
  ·show (ls.push (.str (Bl q.i p) tk)).size≤z+1
   rw [Array.size_push];exact G2 hlz
  ·cases T with
   |e=>exact hS.elim
   |h=>trivial
   |f=>trivial
end
end
noncomputable def Ag4:Value→Option Int
 |.int i _=>some i
 |_=>none
def IntsL(ws:Array Value)(L:List Int):Prop:=ws.toList.map Ag4=L.map some
theorem IntsL.push{ws:Array Value}{L:List Int}(h:IntsL ws L)(v:Int)(tk:Nat):IntsL (ws.push (.int v tk)) (L++[v]):=by
 unfold IntsL at *
 rw [Array.toList_push,List.map_append,List.map_append,h];rfl
theorem IntsL.size{ws:Array Value}{L:List Int}(h:IntsL ws L):ws.size=L.length:=by
 have:=congrArg List.length h
 simpa using this
theorem Eq{k:Int}(h0:0≤k):Builtin.Range.rangeSize 0 k 1=k:=by
 rw [rangeSize_one]
 split<;>lia
theorem Dv{k:Int}(h0:0≤k)(h1:k≤1000):Builtin.Range.small 0 k 1=true:=small_one (by decide) (by decide) (by lia) (by lia)
theorem C1{a b:Int}(h0:0≤a)(h1:a≤1000):IntMulOk a b:=by
 obtain ⟨j,rfl⟩:=Int.eq_ofNat_of_zero_le h0
 refine IntMulOk.of_left ?_
 have h:∀j:Nat,j < 1001→Builtin.Int.intBits (j:Int)≤64:=by decide +kernel
 exact h j (by lia)
theorem Yr(x:Int):∀k:Nat,k≤40→Builtin.divisionGoesByPylong x (k:Int)=false
 |0,_=>by kernel_rfl
 |1,_=>by kernel_rfl
 |2,_=>by kernel_rfl
 |3,_=>by kernel_rfl
 |4,_=>by kernel_rfl
 |5,_=>by kernel_rfl
 |6,_=>by kernel_rfl
 |7,_=>by kernel_rfl
 |8,_=>by kernel_rfl
 |9,_=>by kernel_rfl
 |10,_=>by kernel_rfl
 |11,_=>by kernel_rfl
 |12,_=>by kernel_rfl
 |13,_=>by kernel_rfl
 |14,_=>by kernel_rfl
 |15,_=>by kernel_rfl
 |16,_=>by kernel_rfl
 |17,_=>by kernel_rfl
 |18,_=>by kernel_rfl
 |19,_=>by kernel_rfl
 |20,_=>by kernel_rfl
 |21,_=>by kernel_rfl
 |22,_=>by kernel_rfl
 |23,_=>by kernel_rfl
 |24,_=>by kernel_rfl
 |25,_=>by kernel_rfl
 |26,_=>by kernel_rfl
 |27,_=>by kernel_rfl
 |28,_=>by kernel_rfl
 |29,_=>by kernel_rfl
 |30,_=>by kernel_rfl
 |31,_=>by kernel_rfl
 |32,_=>by kernel_rfl
 |33,_=>by kernel_rfl
 |34,_=>by kernel_rfl
 |35,_=>by kernel_rfl
 |36,_=>by kernel_rfl
 |37,_=>by kernel_rfl
 |38,_=>by kernel_rfl
 |39,_=>by kernel_rfl
 |40,_=>by kernel_rfl
 |k+41,h=>absurd h Rs
theorem Ew{x y:Int}(h0:0≤y)(h1:y≤40):Builtin.divisionGoesByPylong x y=false:=by
 obtain ⟨j,rfl⟩:=Int.eq_ofNat_of_zero_le h0
 exact Yr x j (Af8 h1)
section
structure SumPost (it S:Addr) (s s':Shared) (dn dt:Nat):Prop where
 size:s'.heap.objs.size=s.heap.objs.size+dn
 toks:s'.toks=s.toks+dt
 gens:s'.gens=s.gens
 os:s'.os=s.os
 keep:∀b o,s.heap.get? b=some o→b≠it→b≠S→s'.heap.get? b=some o
section
variable {prog:Program}{w:World}{A:Around}{E:Value→Shared→Prop}{s:Shared}{it b:Addr}{vs:Array Value}{ep i:Nat}
theorem Np{Q:Option Value→Shared→Prop}(hh:A.handled=none) (hit:s.heap.get? it=some (Ad b i)) (hb:s.heap.get? b=some (Aa vs ep)) (hx:vs[i]?=none)
  (hQ:Q none {s with heap:=((s.heap.update it (Obj.mapFields fun v=>v.setIfInBounds 0 .none)).push Br).push (At s.heap.objs.size)}):wpAny (model prog w) A (pyNext (.ref it)) Q E s:=by
 have hT:s.TypeIs (.ref it) "list_iterator":=⟨_,hit,rfl⟩
 have hsz:((s.heap.update it (Obj.mapFields fun v=>v.setIfInBounds 0 .none)).push Br).objs.size=s.heap.objs.size+1:=by
  rw [Heap.size_push,(Heap.SameBut.update ..).1]
 unfold pyNext
 refine wpAny_bind (wpAny_attempt (wpAny_callSpecial?_slot (name:=Str.ofString "__next__") hT slot_listiter_next
  (call_meets slot_listiter_next hT entry_listiter_next (args_listiter_next _) (L8 (b:=b) rfl hx) ⟨hh,hit,hb,?_⟩)))
 refine wpAny_bind (wpAny_isInstance (T:="StopIteration") (b:=true) ⟨At s.heap.objs.size,?_,rfl⟩ isSubtype_stop (wpAny_pure hQ))
 have:=Heap.get?_push_size ((s.heap.update it (Obj.mapFields fun v=>v.setIfInBounds 0 .none)).push Br) (o:=At s.heap.objs.size) rfl
 rw [hsz] at this
 exact this
theorem H9{Q:Option Value→Shared→Prop}{x:Value} (hit:s.heap.get? it=some (Ad b i)) (hb:s.heap.get? b=some (Aa vs ep)) (hx:vs[i]?=some x)
  (hQ:Q (some x) {s with heap:=s.heap.update it (Obj.mapFields fun v=>v.setIfInBounds 1 (rawInt ((i:Int)+1))),toks:=s.toks+0}):wpAny (model prog w) A (pyNext (.ref it)) Q E s:=by
 have hT:s.TypeIs (.ref it) "list_iterator":=⟨_,hit,rfl⟩
 unfold pyNext
 exact wpAny_bind (wpAny_attempt (wpAny_callSpecial?_slot (name:=Str.ofString "__next__") hT slot_listiter_next
  (call_meets slot_listiter_next hT entry_listiter_next (args_listiter_next _) (K8 (b:=b) rfl hx) ⟨hit,hb,wpAny_pure hQ⟩)))
end
theorem SumPost.trans{it S:Addr}{s s₁ s₂:Shared}{a b c d:Nat}(h:SumPost it S s s₁ a b)(h':SumPost it S s₁ s₂ c d):SumPost it S s s₂ (a+c) (b+d):=
 ⟨by have a:=h.size;have b:=h'.size;lia,by have a:=h.toks;have b:=h'.toks;lia,h'.gens.trans h.gens,h'.os.trans h.os,fun x o e n1 n2=>h'.keep x o (h.keep x o e n1 n2) n1 n2⟩
theorem SumPost.cast{it S:Addr}{s s':Shared}{k:Nat} (h:SumPost it S s s' (0+2) (1+k)):SumPost it S s s' 2 (k+1):=⟨by have:=h.size;exact this,by have:=h.toks;lia,h.gens,h.os,h.keep⟩
theorem IntsL.nth{vs:Array Value}{L:List Int}(h:IntsL vs L){i:Nat}(hi:i < L.length):∃tk,vs[i]?=some (.int L[i] tk):=by
 have e:=congrArg (fun l=>l[i]?) h
 simp only [List.getElem?_map] at e
 have hv:i < vs.size:=h.size▸hi
 rw [List.getElem?_eq_getElem (by simpa using hv),List.getElem?_eq_getElem hi] at e
 simp only [Option.map_some,Option.some.injEq,Array.getElem_toList] at e
 rw [Array.getElem?_eq_getElem hv]
 generalize vs[i]=v at e
 cases v with
 |int x tk=>exact ⟨tk,by rw [show x=L[i] from Option.some.inj e]⟩
 |_=>cases e
theorem Rq{prog:Program}{w:World}{A:Around}{R:Result→Shared→Prop}{it b S:Addr}{vs:Array Value}{L:List Int}{ep e2:Nat}(hh:A.handled=none)(hI:IntsL vs L)(h1:it≠b)(h2:it≠S)(h3:b≠S):
  ∀(k i:Nat) (s:Shared) (a:Int) (ta:Nat) (st:Int),(st=0∨st=2)→i+k=L.length→s.heap.get? it=some (Ad b i)→s.heap.get? b=some (Aa vs ep)→s.heap.get? S=some (Aa #[.int a ta] e2) →
  (∀s',SumPost it S s s' 2 k→R (.ok (.ret (.int (a+(L.drop i).sum) (if k=0 then ta else s.toks+k - 1)))) s')→codeAny (model prog w) A (.builtin "sum.loop" ⟨[.ref it,.ref S,rawInt st,rawInt 0],[]⟩) R s:=by
 intro k
 induction k with
 |zero=>
  intro i s a ta st hst hk hit hb hS hR
  have hsz:=hI.size
  have hx:vs[i]?=none:=Array.getElem?_eq_none (by lia)
  refine codeAny_builtin F.entry_sum_loop ?_
  rw [Around.under_plainId F.plain_sum_loop _]
  show wpAny _ A.in1 (seqItems? (.ref S) >>= _) _ _ s
  refine wpAny_bind (wpAny_seqItems hS rfl ?_)
  show wpAny _ A.in1 (tryCatch (pyNext (.ref it)) _ >>= _) _ _ s
  have hs:Heap.SameBut it s.heap (s.heap.update it (Obj.mapFields fun v=>v.setIfInBounds 0 .none)):=Heap.SameBut.update ..
  refine wpAny_bind (wpAny_tryCatch (Np hh hit hb hx (wpAny_pure ?_)))
  have R1:=hR {s with heap:=((s.heap.update it (Obj.mapFields fun v=>v.setIfInBounds 0 .none)).push Br).push (At s.heap.objs.size)} ⟨by show (((s.heap.update it (Obj.mapFields fun v=>v.setIfInBounds 0 .none)).push Br).push (At s.heap.objs.size)).objs.size=_;rw [Heap.size_push,Heap.size_push,hs.1],rfl,rfl,rfl,fun x o e n1 n2=>Heap.get?_push_of_some _ (Heap.get?_push_of_some _ ((hs.2 x n1).trans e))⟩
  rw [if_pos rfl,List.drop_of_length_le (by exact Mz hk)] at R1
  simp only [List.sum_nil,Int.add_zero] at R1
  exact R1
 |succ k ih=>
  intro i s a ta st hst hk hit hb hS hR
  have hsz:=hI.size
  have hi:i < L.length:=by exact E1 hk
  obtain ⟨t,hx⟩:=hI.nth hi
  have hs:Heap.SameBut it s.heap (s.heap.update it (Obj.mapFields fun v=>v.setIfInBounds 1 (rawInt ((i:Int)+1)))):=Heap.SameBut.update ..
  have hf:Obj.mapFields (fun v=>v.setIfInBounds 1 (rawInt ((i:Int)+1))) (Ad b i)=Ad b (i+1):=by
   show ({cls:=_,dict:=_,data:=.fields (#[Value.ref b,Value.int (i:Int) 0].setIfInBounds 1 (rawInt ((i:Int)+1))),slots:=_}:Obj)=_
   simp [Ad,rawInt]
  have hit':(s.heap.update it (Obj.mapFields fun v=>v.setIfInBounds 1 (rawInt ((i:Int)+1)))).get? it=some (Ad b (i+1)):=by
   have:=Heap.get?_update_self (Obj.mapFields fun v=>v.setIfInBounds 1 (rawInt ((i:Int)+1))) hit (by rw [hf];rfl)
   rw [hf] at this;exact this
  have hb':=(hs.2 b fun w=>h1 w.symm).trans hb
  have hS':=(hs.2 S fun w=>h2 w.symm).trans hS
  have hdrop:(L.drop i).sum=L[i]+(L.drop (i+1)).sum:=by rw [List.drop_eq_getElem_cons hi,List.sum_cons]
  refine codeAny_builtin F.entry_sum_loop ?_
  rw [Around.under_plainId F.plain_sum_loop _]
  show wpAny _ A.in1 (seqItems? (.ref S) >>= _) _ _ s
  refine wpAny_bind (wpAny_seqItems hS rfl ?_)
  show wpAny _ A.in1 (tryCatch (pyNext (.ref it)) _ >>= _) _ _ s
  refine wpAny_bind (wpAny_tryCatch (H9 hit hb hx ?_))
  -- the state behind E2 item
  have fm:∀(h:Heap),h.get? S=some (Aa #[.int a ta] e2)→(h.update S (Obj.mapSeq fun _=>#[.int (a+L[i]) s.toks])).get? S=some (Aa #[.int (a+L[i]) s.toks] e2):=fun h e=>Heap.get?_update_self _ e rfl
  have go:∀(H:Heap) (st':Int),(st'=0∨st'=2)→H.objs.size=s.heap.objs.size→H.get? it=some (Ad b (i+1))→H.get? b=some (Aa vs ep)→H.get? S=some (Aa #[.int (a+L[i]) s.toks] e2)→(∀x o,s.heap.get? x=some o→x≠it→x≠S→H.get? x=some o) →
    codeAny (model prog w) A (.builtin "sum.loop" ⟨[.ref it,.ref S,rawInt st',rawInt 0],[]⟩) R {s with heap:=H,toks:=s.toks+1}:=fun H st' q1 q2 q3 q4 q5 q6=>by
   refine ih (i+1) {s with heap:=H,toks:=s.toks+1} (a+L[i]) s.toks st' q1 (E4 hk) q3 q4 q5 fun s' P=>?_
   have P0:SumPost it S s {s with heap:=H,toks:=s.toks+1} 0 1:=⟨q2,rfl,rfl,rfl,q6⟩
   have R1:=hR s' (P0.trans P).cast
   rw [if_neg (by exact Hj),hdrop] at R1
   have e:(if k=0 then s.toks else (s.toks+1)+k - 1)=s.toks+(k+1) - 1:=by split<;>lia
   show R (.ok (.ret (.int (a+L[i]+(L.drop (i+1)).sum) (if k=0 then s.toks else (s.toks+1)+k - 1)))) s'
   rw [e,Int.add_assoc]
   exact R1
  have same1:∀(f:Obj→Obj) (h:Heap),(h.update S f).objs.size=h.objs.size∧∀x,x≠S→(h.update S f).get? x=h.get? x:=fun f h=>⟨(Heap.SameBut.update ..).1,(Heap.SameBut.update ..).2⟩
  have upd:∀(H:Heap),H.objs.size=s.heap.objs.size→H.get? it=some (Ad b (i+1))→H.get? b=some (Aa vs ep)→(∃v tk,H.get? S=some (Aa #[.int v tk] e2))→(∀x o,s.heap.get? x=some o→x≠it→x≠S→H.get? x=some o) →
    let H':=H.update S (Obj.mapSeq fun _=>#[.int (a+L[i]) s.toks])
    H'.objs.size=s.heap.objs.size∧H'.get? it=some (Ad b (i+1))∧H'.get? b=some (Aa vs ep)∧H'.get? S=some (Aa #[.int (a+L[i]) s.toks] e2)∧(∀x o,s.heap.get? x=some o→x≠it→x≠S→H'.get? x=some o):=fun H q2 q3 q4 ⟨v,tk,q5⟩ q6=>by
   obtain ⟨u1,u2⟩:=same1 (Obj.mapSeq fun _=>#[.int (a+L[i]) s.toks]) H
   exact ⟨u1.trans q2,(u2 it h2).trans q3,(u2 b h3).trans q4,Heap.get?_update_self _ q5 rfl,fun x o e n1 n2=>(u2 x n2).trans (q6 x o e n1 n2)⟩
  obtain ⟨p1,p2,p3,p4,p5⟩:=upd _ hs.1 hit' hb' ⟨_,_,hS'⟩ fun x o e n1 n2=>(hs.2 x n1).trans e
  obtain ⟨r1,r2,r3,r4,r5⟩:=upd _ p1 p2 p3 ⟨_,_,p4⟩ p5
  have plainOk:∀(Q:PySem.Fin→Shared→Prop) (E:Value→Shared→Prop),True:=fun _ _=>trivial
  rcases hst with rfl | rfl
  ·show wpAny _ A.in1 (if (_:Bool)=true then (mkInt (a+L[i]) >>= _) else _) _ _ _
   split
   ·refine wpAny_bind (wpAny_mkInt ?_)
    show wpAny _ A.in1 (updateSeq S (fun _=>#[.int (a+L[i]) s.toks]) >>= _) _ _ _
    refine wpAny_bind (wpAny_updateSeq hS' rfl (wpAny_pure ⟨plainId_quiet F.plain_sum_loop _,?_⟩))
    exact go _ 0 (.inl rfl) p1 p2 p3 p4 p5
   ·refine wpAny_bind (wpAny_rule ?_)
    refine wpAny_bind (wpAny_attempt (wpAny_holding (wpAny_add_int ?_)))
    show wpAny _ A.in1 (updateSeq S (fun _=>#[.int (a+L[i]) s.toks]) >>= _) _ _ _
    refine wpAny_bind (wpAny_updateSeq hS' rfl ?_)
    refine wpAny_bind (wpAny_letGo ?_)
    refine wpAny_bind (wpAny_updateSeq p4 rfl (wpAny_pure ⟨plainId_quiet F.plain_sum_loop _,?_⟩))
    exact go _ 2 (.inr rfl) r1 r2 r3 r4 r5
  ·show wpAny _ A.in1 ((holding [Value.int L[i] t] (binaryOp .Add (.int a ta) (.int L[i] t))).attempt >>= _) _ _ _
   refine wpAny_bind (wpAny_attempt (wpAny_holding (wpAny_add_int ?_)))
   show wpAny _ A.in1 (updateSeq S (fun _=>#[.int (a+L[i]) s.toks]) >>= _) _ _ _
   refine wpAny_bind (wpAny_updateSeq hS' rfl ?_)
   refine wpAny_bind (wpAny_letGo ?_)
   refine wpAny_bind (wpAny_updateSeq p4 rfl (wpAny_pure ⟨plainId_quiet F.plain_sum_loop _,?_⟩))
   exact go _ 2 (.inr rfl) r1 r2 r3 r4 r5
theorem Nr{z:Zed} {bl:List (Code×Pos)} {b:Addr} {vs:Array Value} {L:List Int} {ep n t g:Nat} (hI:IntsL vs L):
  Does z (.call (.builtin "sum") ⟨[.ref b],[]⟩) bl [(b,Aa vs ep)] n t g (.ok (.ret (.int L.sum (t+L.length)))) [(b,Aa vs ep)] (n+4) (t+(1+L.length)) g:=by
 intro s p S
 have hb:s.heap.get? b=some (Aa vs ep):=S.knows _ (.head _)
 have hn:=S.hn
 have ht:=S.ht
 have hbn:b < s.heap.objs.size:=Heap.lt_size hb
 refine Ds (codeAny_call_builtin F.plain_sum F.entry_sum (wpAny_of_eq (F.args_sum1 _) ?_))
 unfold Builtin.«sum»
 simp only [List.length_cons,List.length_nil]
 rw [if_neg (by decide)]
 refine wpAny_bind (wpAny_of_eq (show Builtin.Builtins.bindParams "sum" ["start"] 0 {}=pure [none] from rfl) ?_)
 refine wpAny_bind (wpAny_pyIter_list (items:=vs) ⟨_,hb,rfl,_,rfl⟩ ?_)
 refine wpAny_bind (wpAny_mkInt ?_)
 refine wpAny_bind (wpAny_pure ?_)
 simp only [List.forIn_cons,List.forIn_nil]
 refine wpAny_bind (wpAny_bind (wpAny_bind (wpAny_isInstance (T:="int") (b:=false) (typeIs_int _ _ _) PySem.sub_int_str ?_)))
 simp only [Bool.false_eq_true,if_false]
 refine wpAny_pure (wpAny_bind (wpAny_bind (wpAny_isInstance (T:="int") (b:=false) (typeIs_int _ _ _) PySem.sub_int_bytes ?_)))
 simp only [Bool.false_eq_true,if_false]
 refine wpAny_pure (wpAny_bind (wpAny_bind (wpAny_isInstance (T:="int") (b:=false) (typeIs_int _ _ _) PySem.sub_int_bytearray ?_)))
 simp only [Bool.false_eq_true,if_false]
 refine wpAny_pure (wpAny_pure ?_)
 refine wpAny_bind (wpAny_newObj_type ?_)
 refine wpAny_pure ⟨plainId_quiet F.plain_sum_loop _,?_⟩
 have e1:(s.heap.push (Ad b 0)).objs.size=s.heap.objs.size+1:=Heap.size_push ..
 have g1:(s.heap.push (Ad b 0)).get? s.heap.objs.size=some (Ad b 0):=Heap.get?_push_size _ rfl
 have g2:=Heap.get?_push_size (s.heap.push (Ad b 0)) (o:=Aa #[.int 0 s.toks] 0) rfl
 refine Rq (it:=s.heap.objs.size) (b:=b) (S:=(s.heap.push (Ad b 0)).objs.size) (vs:=vs) (L:=L) (ep:=ep) (e2:=0) (by rfl) hI (Nat.ne_of_gt hbn) (by rw [e1];exact Nat.ne_of_lt (Nat.lt_succ_self _)) (by rw [e1];exact Nat.ne_of_lt (Nat.lt_succ_of_lt hbn)) L.length 0
  {s with heap:=(s.heap.push (Ad b 0)).push (Aa #[.int 0 s.toks] 0),toks:=s.toks+1} 0 s.toks 0 (.inl rfl) Ep (Heap.get?_push_of_some _ g1) (Heap.get?_push_of_some _ (Heap.get?_push_of_some _ hb)) g2 fun s' P=>?_
 have size':s'.heap.objs.size=s.heap.objs.size+4:=by
  have:=P.size
  rw [show ({s with heap:=(s.heap.push (Ad b 0)).push (Aa #[.int 0 s.toks] 0),toks:=s.toks+1}:Shared).heap.objs.size=s.heap.objs.size+2 by show ((s.heap.push (Ad b 0)).push (Aa #[.int 0 s.toks] 0)).objs.size=_;rw [Heap.size_push,e1]] at this
  exact this
 have keep':∀x o,s.heap.get? x=some o→s'.heap.get? x=some o:=fun x o e=>by
  have hx:=Heap.lt_size e
  exact P.keep x o (Heap.get?_push_of_some _ (Heap.get?_push_of_some _ e)) (Nat.ne_of_lt hx) (by rw [e1];exact Nat.ne_of_lt (Nat.lt_succ_of_lt hx))
 have toks':s'.toks=s.toks+(1+L.length):=by
  have:=P.toks
  have e:({s with heap:=(s.heap.push (Ad b 0)).push (Aa #[.int 0 s.toks] 0),toks:=s.toks+1}:Shared).toks=s.toks+1:=rfl
  lia
 refine ⟨?_,⟨S.ok,fun q hq=>?_,S.nodup,S.fit,fun x o e q=>keep' x o (S.stat x o e q),?_,?_,P.os.trans S.os,?_,?_,?_⟩,⟨fun x o e _=>keep' x o e,fun j _=>by rw [P.gens],A4w size',by rw [P.gens];exact Nat.le_refl _⟩⟩
 ·have e:(if L.length=0 then s.toks else (s.toks+1)+L.length - 1)=t+L.length:=by
   rw [ht];split<;>lia
  show (Except.ok (Flow.ret (.int (0+(L.drop 0).sum) (if L.length=0 then s.toks else (s.toks+1)+L.length - 1))):Result)=_
  rw [e,List.drop_zero,Int.zero_add]
 ·rw [List.mem_singleton.mp hq];exact keep' _ _ hb
 ·have:=S.low;exact Ey this
 ·show AllBare s'.gens
  rw [P.gens];exact S.bare
 ·exact Ve hn size'
 ·exact Ve ht toks'
 ·rw [P.gens];exact S.hg
end
section
section
variable {w:World}{os:OsState}(b1 b2:Bool)(R:RK)(m:MK)(W:Nat)(it:Nat)(f:RwK)(pp kp tp:Nat)
def inL(P:Params)(m:MK)(f:RwK)(it:Nat)(p o:OV)(i left:Int)(s:LSt):LO:=[(f.L+310,Ej P f p o),(it+310,Ac i left 1)]++(Ho P m++s.obs P m)
theorem A92 (hm:m.mx=((2*W:Nat):Int)) (hW:1≤W∧W≤6) (hpp:pp < 5) (hM:f.M=m.M) (k:Nat):∀(n t g:Nat) (o:OV) (i:Int) (r z:Nat) (d:List Str×Nat) (s:LSt),s.Ok R W (97+pp) r z d→z+k≤sizeLine →
  ∃(n' t' g':Nat) (s':LSt) (o':OV) (y:Int),n≤n'∧s'.Ok R W (97+pp) (r+k) (z+k) (Gq W (97+pp) k d)∧(k=0→o'=o∧s'=s)∧(1≤k→(∃a b,o'=.s a b)∧1≤s'.p)∧(s.T.isF→s'.T.isF)∧newer s.T.obs s'.T.obs (n+310)∧newer (s.obs w.params m) (s'.obs w.params m) (n+310) ∧
  ∀S,Does (Z w os b1 b2) (J7 w.params f.L it) (Ab (kL::kF::Do R) S 0) (inL w.params m f it (.s kp (.int (pp:Int) tp)) o i (k:Int) s) (n+310) (t+598) g (.ok .next) (inL w.params m f it (.s kp (.int (pp:Int) tp)) o' y 0 s') (n'+310) (t'+598) g':=by
 have eM:Ho w.params m=[(f.M+310,Az (m.MD+310)),(m.MD+310,By w.params m)]:=by rw [hM]
 induction k with
 |zero=>
  intro n t g o i r z d s h hz
  refine D8 (n+2) t g s o i ⟨Er,h,fun _=>⟨rfl,rfl⟩,fun h=>absurd h (by decide),id,newer.same,newer.same,fun S=>?_⟩
  have X:=U0 (w:=w) (os:=os) (S:=S) R n t g f.L it i ((f.L+310,Ej w.params f (.s kp (.int (pp:Int) tp)) o)::(Ho w.params m++s.obs w.params m)) b1 b2 ⟨Ae (fun bl=>Bm (by decide)) (hn:=by simp),trivial⟩
  exact X.perm (List.Perm.swap ..) (List.Perm.swap ..)
 |succ k ih=>
  intro n t g o i r z d s h hz
  refine Af fun Gz hGz=>?_
  refine Afr (Z3 (w:=w) (os:=os) b1 b2 R n (t+5) g m W (97+pp) (t+600) (t+602) r z d s hm hW h (C6 hz)) fun n1 t1 g1 s1 h1 hO hp1 hF1 hN1 hnew D=>?_
  obtain ⟨n2,t2,g2,s2,o2,y,h2,hO2,hz2,ho2,hF2,hN2,hnew2,D2⟩:=ih n1 t1 g1 (.s (o.key (t+599)) (.int i (t+598))) (i+1) (r+1) (z+1) _ s1 hO (E0 hz)
  refine hGz ?_
  refine D8 n2 t2 g2 s2 o2 y ⟨G8 h1 h2,by rw [show r+(k+1)=r+1+k by exact Sn,show z+(k+1)=z+1+k by exact Sn];exact hO2,fun h=>absurd h Hj,fun _=>?_,fun h=>hF2 (hF1 h),hN1.trans (hN2.mono (G2 h1)),hnew.trans (hnew2.mono (G2 h1)),fun S=>?_⟩
  ·rcases Nat.eq_zero_or_pos k with hk | hk
   ·obtain ⟨e1,e2⟩:=hz2 hk
    exact ⟨⟨_,_,e1⟩,by rw [e2];exact hp1⟩
   ·exact ho2 hk
  ·have D2:=D2 S
   unfold inL at D2 ⊢
   rw [eM] at D D2 ⊢
   refine V5 (w:=w) (os:=os) (S:=S) R n t g it f m pp kp tp o i ((k+1:Nat):Int) n1 t1 g1 (s.obs w.params m) (s1.obs w.params m) hpp b1 b2 ⟨Ae fun bl=>B1 Fl,B0 hnew (fun S=>?_) (A8g R),trivial⟩ ?_
   ·have D:=D S
    unfold chC at D
    rw [← hM] at D
    exact D
   ·rw [show (((k+1:Nat):Int) - 1)=(k:Int) by exact Fh]
    exact D2
def Fo(W x v:Nat)(done:List Str):List Str:=(Gq W x v (done,0)).1++[C8 x (Gq W x v (done,0)).2]
def Dy(W:Nat):Nat→List Nat→List Str→List Str
 |_,[],done=>done
 |i,v::V,done=>Dy W (i+1) V (Fo W (97+i) v done)
def A1q(P:Params)(m:MK)(f:RwK)(it:Nat)(oo:OO)(i left:Int)(vs:Array Value)(ev:Nat)(s:LSt):LO:=[(f.L+310,Ej P f oo.p oo.q),(it+310,Ac i left 1),(f.V+310,Aa vs ev)]++(Ho P m++s.obs P m)
theorem newer.nil{P:Params}{C CD ep ki ti ep' ti' p N:Nat}{q q':Prt}:newer (Bv P C CD ep ki ti q p) (Bv P C CD ep' ki ti' q' 0) N:=
 newer.cons (newer.cons fun u hu=>nomatch hu)
theorem Rv{x:Nat}(h:x < 5):Unicode.isSpace (97+x)=false:=by
 obtain rfl | rfl | rfl | rfl | rfl:=Rm h<;>decide +kernel
variable (vs:Array Value)(ev:Nat)(V:List Nat)
theorem A2a (hm:m.mx=((2*W:Nat):Int)) (hW:1≤W∧W≤6) (hM:f.M=m.M) (hI:IntsL vs (V.map Int.ofNat)) (hl:V.length≤5) (hV:∀v∈V,1≤v∧v≤6) (k:Nat):∀(i:Nat) (n t g:Nat) (oo:OO) (z:Nat) (done:List Str) (s:LSt),i+k=V.length→s.Ok R W 0 0 z (done,0)→z+7*k≤sizeLine→(s.T.isF∨∃v∈V[i]?,5≤v) →
  ∃(n' t' g':Nat) (s':LSt) (oo':OO) (y:Int),n≤n'∧s'.Ok R W 0 0 (z+7*k) (Dy W i (V.drop i) done,0)∧s'.T.isF∧newer s.T.obs s'.T.obs (n+310)∧newer (s.obs w.params m) (s'.obs w.params m) (n+310) ∧
  ∀S,Does (Z w os b1 b2) (Gm w.params f.L it) (Ab (kF::Do R) S 0) (A1q w.params m f it oo (i:Int) (k:Int) vs ev s) (n+310) (t+598) g (.ok .next) (A1q w.params m f it oo' y 0 vs ev s') (n'+310) (t'+598) g':=by
 have eM:Ho w.params m=[(f.M+310,Az (m.MD+310)),(m.MD+310,By w.params m)]:=by rw [hM]
 induction k with
 |zero=>
  intro i n t g oo z done s hi h hz hF
  rw [show V.drop i=[] from List.drop_eq_nil_of_le (by exact Mz hi)]
  have hF:s.T.isF:=hF.resolve_right fun ⟨v,hv,_⟩=>by
   rw [List.getElem?_eq_none (by lia)] at hv
   exact nomatch hv
  refine D8 (n+2) t g s oo (i:Int) ⟨Er,h,hF,newer.same,newer.same,fun S=>?_⟩
  have X:=Sh (w:=w) (os:=os) (S:=S) R n t g f.L it (i:Int) ((f.L+310,Ej w.params f oo.p oo.q)::(f.V+310,Aa vs ev)::(Ho w.params m++s.obs w.params m)) b1 b2 ⟨Ae (fun bl=>Bm (by decide)) (hn:=by simp),trivial⟩
  exact X.perm (List.Perm.swap ..) (List.Perm.swap ..)
 |succ k ih=>
  intro i n t g oo z done s hi h hz hF
  have hiv:i < V.length:=by exact E1 hi
  have hvm:=hV _ (List.getElem_mem hiv)
  have hdrop:V.drop i=V[i]::V.drop (i+1):=List.drop_eq_getElem_cons hiv
  obtain ⟨tv,htv⟩:=hI.nth (i:=i) (by rw [List.length_map];exact hiv)
  rw [List.getElem_map] at htv
  obtain ⟨ep,ti,q,p,ls,el,T⟩:=s
  obtain ⟨hp,hpW,hq,hl',hlz,hT⟩:=h
  dsimp only at hp hpW hq hl' hlz hT hF
  subst hp
  have hT':T.inv R W 0 0:=hT
  have hs0:LSt.Ok R W (97+i) 0 z (done,0) ⟨ep,ti,q,0,ls,el,T⟩:=⟨rfl,Nat.zero_le _,fun j hj=>absurd hj (Nat.not_lt_zero _),hl',hlz,hT'⟩
  refine Afu (A92 (w:=w) (os:=os) b1 b2 R m W (n+1) f i (oo.kp (t+599)) (t+598) hm hW (G8 hiv hl) hM V[i] (n+2) (t+4) g oo.q 0 0 z (done,0) _ hs0 (by lia)) fun n2 t2 g2 s2 o2 y h2 hO2 _ ho2 hF2 hN2 hnew2 D2=>?_
  obtain ⟨⟨kt,vt,rfl⟩,hp2⟩:=ho2 hvm.1
  obtain ⟨ep2,ti2,q2,p2,ls2,el2,T2⟩:=s2
  obtain ⟨a1,a2,a3,a4,a5,a6⟩:=hO2
  dsimp only at a1 a2 a3 a4 a5 a6 hp2 hF2
  have hTF:T2.isF:=by
   rcases hF with hF | ⟨v,hv,h5⟩
   ·exact hF2 hF
   ·rw [List.getElem?_eq_getElem hiv] at hv
    cases hv
    cases T2 with
    |e=>have:=a6.2.2.2;lia
    |h=>have:=a6.2.1;have:=a6.2.2;lia
    |f=>trivial
  refine Af fun Gz hGz=>?_
  obtain ⟨c,k1,c2,k2,rfl⟩:=TB.F hTF
  obtain ⟨p2,rfl⟩:∃j,p2=j+1:=⟨p2 - 1,A2j hp2⟩
  refine R7 (Tz (w:=w) (os:=os) b1 b2 R n2 t2 g2 ti2 ep2 el2 p2 m q2 ls2 c c2 k1 k2 (by lia) (by rw [a3 p2 (Nat.lt_succ_self _)];exact Rv (G8 hiv hl)) (by lia)) fun n3 t3 g3 ep3 ti3 tk3 h3 D3=>?_
  have hs3:LSt.Ok R W 0 0 (z+7) (Fo W (97+i) V[i] done,0) ⟨ep3,ti3,q2,0,ls2.push (.str (Bl q2.i (p2+1)) tk3),el2+1,.f c k1 c2 k2⟩:=by
   refine ⟨rfl,Nat.zero_le _,fun j hj=>absurd hj (Nat.not_lt_zero _),?_,?_,trivial⟩
   ·show (ls2.push (.str (Bl q2.i (p2+1)) tk3)).toList.map I4=(Fo W (97+i) V[i] done).map some
    unfold Fo
    rw [Array.toList_push,List.map_append,List.map_append,a4,Uw a3,a1];rfl
   ·show (ls2.push (.str (Bl q2.i (p2+1)) tk3)).size≤z+7
    rw [Array.size_push];lia
  obtain ⟨n4,t4,g4,s4,oo4,y4,h4,hO4,hF4,hN4,hnew4,D4⟩:=ih (i+1) n3 t3 g3 (.s (oo.kp (t+599)) (.int (i:Int) (t+598)) kt vt) (z+7) _ _ (E4 hi) hs3 (E0 hz) (.inl trivial)
  refine hGz ?_
  rw [hdrop]
  have hnl:newer (LSt.obs w.params m ⟨ep2,ti2,q2,p2+1,ls2,el2,.f c k1 c2 k2⟩) (LSt.obs w.params m ⟨ep3,ti3,q2,0,ls2.push (.str (Bl q2.i (p2+1)) tk3),el2+1,.f c k1 c2 k2⟩) (n2+310):=newer.app newer.nil (newer.app newer.at newer.same)
  refine D8 n4 t4 g4 s4 oo4 y4 ⟨by lia,by rw [show z+7*(k+1)=z+7+7*k by exact Sn];exact hO4,hF4,(hN2.mono Dr).trans (hN4.mono (by lia)),(hnew2.mono Dr).trans ((hnl.mono (Sy h2)).trans (hnew4.mono (by lia))),fun S=>?_⟩
  have D4:=D4 S
  unfold inL at D2
  unfold A1q at D4 ⊢
  rw [eM] at D2 D3 D4 ⊢
  rw [show ((i+1:Nat):Int)=(i:Int)+1 by exact Fq] at D4
  have hr:Builtin.Range.rangeSize 0 (V[i]:Int) 1=(V[i]:Int):=Eq Bs
  refine Tr (w:=w) (os:=os) (S:=S) R n t g it f m oo (i:Int) ((k+1:Nat):Int) vs ev (V[i]:Int) tv kt vt y n2 t2 g2 n3 t3 g3 (LSt.obs w.params m ⟨ep,ti,q,0,ls,el,T⟩) (LSt.obs w.params m ⟨ep2,ti2,q2,p2+1,ls2,el2,.f c k1 c2 k2⟩) (LSt.obs w.params m ⟨ep3,ti3,q2,0,ls2.push (.str (Bl q2.i (p2+1)) tk3),el2+1,.f c k1 c2 k2⟩) b1 b2
   ⟨Ae fun bl=>B1 Fl,Ae fun bl=>Ba Bs (by lia) (by rw [Int.toNat_natCast];exact htv),Ae (fun bl=>Be (Dv Bs (La hvm))) (hn:=by simp),B0 (hnew2.mono S5) (fun S=>?_) (by cases R<;>rfl),B0 hnl (fun S=>?_) (A7v R),trivial⟩ ?_
  ·have D2:=D2 S
   rw [← hr] at D2
   exact D2
  ·have D3:=D3 S
   rw [← hM] at D3
   exact D3
  ·rw [show (((k+1:Nat):Int) - 1)=(k:Int) by exact Fh]
   exact D4
end
end
section
def StrsL(ls:Array Value)(L:List Str):Prop:=ls.toList.map I4=L.map some
def Cf(W:Nat)(V:List Nat):List Str:=Dy W 0 V []
section
variable {w:World}{os:OsState}(b1 b2:Bool)(R:RK)(n t g Va ev tw:Nat)(vs:Array Value)(V:List Nat)(W:Nat)(T:TB)
theorem J1(hW:1≤W∧W≤6) (hI:IntsL vs (V.map Int.ofNat)) (hl:V.length≤5) (hV:∀v∈V,1≤v∧v≤6) (hF:T.isF∨(R=.l∧W=4∧T=.e∧∃v∈V[0]?,5≤v)):
  ∃(n' t' g':Nat) (ls:Array Value) (el:Nat) (T':TB),n≤n'∧StrsL ls (Cf W V)∧ls.size≤35∧T'.isF∧newer T.obs T'.obs (n+310) ∧
  ∀S,Does (Z w os b1 b2) (.call (.ref 292) ⟨[.ref (Va+310),.int (W:Int) tw],[]⟩) (Ab (Do R) S 0) ([(Va+310,Aa vs ev)]++T.obs) (n+310) (t+598) g (.ok (.ret (.ref (n+314)))) ([(Va+310,Aa vs ev),(n+314,Aa ls el)]++T'.obs) (n'+310) (t'+598) g':=by
 have hsz:vs.size=V.length:=by rw [hI.size,List.length_map]
 let m:=rwM n t (W:Int)
 let f:=rwK n t Va (W:Int) tw
 let s0:LSt:=⟨0,t+600,⟨id,id,id,id⟩,0,#[],0,T⟩
 have hs0:s0.Ok R W 0 0 0 ([],0):=⟨rfl,Nat.zero_le _,fun j hj=>absurd hj (Nat.not_lt_zero _),rfl,Nat.le_refl _,by
  rcases hF with hF | ⟨h1,h2,h3,_⟩
  ·obtain ⟨c,k,c2,k2,rfl⟩:=TB.F hF
   trivial
  ·show T.inv R W 0 0
   rw [h3];exact ⟨h1,h2,rfl,rfl⟩⟩
 refine O6 (A2a (w:=w) (os:=os) b1 b2 R m W (n+11) f vs ev V (by show (2*(W:Int))=_;exact Aii) hW rfl hI hl hV V.length 0 (n+12) (t+36) g .n 0 [] s0 Ep hs0 (Nat.le_trans (show 0+7*V.length≤35 by lia) (by decide)) (hF.imp id fun h=>h.2.2.2)) fun n2 t2 g2 s2 oo y h2 hO hTF hN hnew D=>?_
 obtain ⟨ep,ti,q,p,ls,el,T2⟩:=s2
 obtain ⟨a1,a2,a3,a4,a5,a6⟩:=hO
 dsimp only at a1 a2 a3 a4 a5 a6 hTF
 subst a1
 refine D8 n2 (t2+1) g2 ls el T2 ⟨C6 h2,?_,by lia,hTF,hN.mono Dr,fun S=>?_⟩
 ·have a4:ls.toList.map I4=(Dy W 0 (V.drop 0) []).map some:=a4
  exact a4
 ·have hr:Builtin.Range.rangeSize 0 (vs.size:Int) 1=(V.length:Int):=by rw [Eq (by exact Bs),hsz]
  refine U3 (w:=w) (os:=os) (S:=S) R n t g Va vs ev (W:Int) tw n2 t2 g2 oo y ep ti el ls T.obs T2.obs b1 b2
   ⟨Cy (C1 (by decide) (by decide)),Bb (fun S=>Wg R w os b1 b2 S (n+1) (t+7) g (2*(W:Int)) (t+600) (t+602) (t+603) (t+604)) (by cases R<;>rfl) (hn:=?_),Ae fun bl=>Bw (by lia),Ae (fun bl=>Be (Dv Bs (by lia))) (hn:=by simp),B0 ?_ (fun S=>?_) (by cases R<;>rfl),trivial⟩
  ·intro u hu
   simp only [List.mem_cons,List.not_mem_nil,or_false] at hu
   rcases hu with rfl | rfl | rfl | rfl | rfl<;>(show n+311≤_;lia)
  ·exact hN
  ·have D:=D S
   rw [← hr] at D
   exact D
end
end
noncomputable def Aq(X:Nat→Value)(j:Nat):Array Value:=((List.range j).map X).toArray
noncomputable def Ck(X:Nat→Value)(j:Nat)(v:Value):Nat→Value:=fun a=>if a=j then v else X a
theorem Cd(X:Nat→Value)(j:Nat)(v:Value):Aq (Ck X j v) (j+1)=(Aq X j).push v:=by
 unfold Aq
 apply Array.toList_inj.mp
 rw [Array.toList_push,List.range_succ,List.map_append]
 show (List.range j).map (Ck X j v)++[j].map (Ck X j v)=(List.range j).map X++[v]
 congr 1
 ·refine List.map_congr_left fun a ha=>?_
  have:=List.mem_range.mp ha
  show (if a=j then v else X a)=X a
  rw [if_neg (by exact A26 this)]
 ·show [if j=j then v else X j]=[v]
  rw [if_pos rfl]
theorem D6(vs:Array Value):∃X,vs=Aq X vs.size:=by
 refine ⟨fun i=>vs[i]?.getD .none,?_⟩
 unfold Aq
 apply Array.ext
 ·simp
 ·intro i h1 h2
  simp [h1]
theorem Ad4{p:Nat}(h:p < 36):p=0∨p=1∨p=2∨p=3∨p=4∨p=5∨p=6∨p=7∨p=8∨p=9∨p=10∨p=11∨p=12∨p=13∨p=14∨p=15∨p=16∨p=17∨p=18∨p=19∨p=20∨p=21∨p=22∨p=23∨p=24∨p=25∨p=26∨p=27∨p=28∨p=29∨p=30∨p=31∨p=32∨p=33∨p=34∨p=35:=(by decide +kernel:∀p,p < 36→p=0∨p=1∨p=2∨p=3∨p=4∨p=5∨p=6∨p=7∨p=8∨p=9∨p=10∨p=11∨p=12∨p=13∨p=14∨p=15∨p=16∨p=17∨p=18∨p=19∨p=20∨p=21∨p=22∨p=23∨p=24∨p=25∨p=26∨p=27∨p=28∨p=29∨p=30∨p=31∨p=32∨p=33∨p=34∨p=35) p h
noncomputable def Ag(v:Value):Obj:={cls:=.type "cell",data:=.cell (some v)}
def Ai(P:Params)(nm:String)(o:OV):Obj:=match o with
 |.n=>An #[] 0
 |.s k v=>An #[kv P nm k v] 1
noncomputable def E6(e:Expr)(env:Env)(D:Addr) (cs:List (Str×Addr)):Env:=match e with
 |.ListComp _ _ sc _=>{scope:={sc with names:=sc.names.map fun (n,k)=>if k == .free && env.scope.kind == .function && env.kindOf n == some .cell then (n,.cell) else (n,k)},locals:=D,globals:=env.globals,cells:=cs,qual:=env.qual,func:=none,code:=env.code,frame:=env.frame,builtins:=env.builtins}
 |_=>env
def U8(P:Params):FuncData:=Fe (Wm P)
def J3(P:Params)(L it:Nat):Code:=Es (As (Bi (U8 P)) 2) (.ref (it+310)) (C9 (U8 P) 280 (L+310))
def Ga(P:Params)(L it:Nat):Code:=Es (As (Rr (As (Bi (U8 P)) 2)) 1) (.ref (it+310)) (C9 (U8 P) 280 (L+310))
def dlE(P:Params):Expr:=Rg (As (Bi (U8 P)) 0)
def dlV(P:Params)(L D:Nat):Env:=E6 (dlE P) (C9 (U8 P) 280 (L+310)) (D+310) []
def dlC(P:Params)(L it acc D:Nat):Code:=.compStart (dlE P) 0 (.ref (it+310)) (.ref (acc+310)) (dlV P L D)
def Qk(P:Params)(L it acc D:Nat):Code:=.compLoop (dlE P) 0 (.ref (it+310)) (.ref (acc+310)) (dlV P L D)
structure DlK where
 L:Nat
 V:Nat
 G:Nat
 N:Nat
 k1:Nat
 k2:Nat
 k3:Nat
 k4:Nat
 k5:Nat
 s:Int
 ts:Nat
 a:Int
 ta:Nat
inductive DO
 |n
 |b (kt:Nat) (vt:Value) (kb:Nat) (vb:Value)
 |p (kt:Nat) (vt:Value) (kb:Nat) (vb:Value) (kp:Nat) (vp:Value)
noncomputable def DO.kt(o:DO)(t:Nat):Nat:=match o with
 |.n=>t
 |.b k _ _ _=>k
 |.p k _ _ _ _ _=>k
noncomputable def DO.kb(o:DO)(t:Nat):Nat:=match o with
 |.n=>t
 |.b _ _ k _=>k
 |.p _ _ k _ _ _=>k
def DO.set(o:DO)(kt:Nat)(vt:Value)(kb:Nat)(vb:Value):DO:=match o with
 |.n=>.b kt vt kb vb
 |.b ..=>.b kt vt kb vb
 |.p _ _ _ _ kp vp=>.p kt vt kb vb kp vp
def Jc(kt:Nat)(vt:Value)(kb:Nat)(vb:Value)(o:OV):DO:=match o with
 |.n=>.b kt vt kb vb
 |.s kp vp=>.p kt vt kb vb kp vp
def Dg(P:Params)(f:DlK)(o:DO):Obj:=match o with
 |.n=>B4 #[kv P "votes" f.k1 (.ref (f.V+310)),kv P "seats" f.k2 (.int f.s f.ts),kv P "ahead" f.k3 (.int f.a f.ta),kv P "got" f.k4 (.ref (f.G+310)),kv P "row" f.k5 (.ref (f.N+310))] 5
 |.b kt vt kb vb=>B4 #[kv P "votes" f.k1 (.ref (f.V+310)),kv P "seats" f.k2 (.int f.s f.ts),kv P "ahead" f.k3 (.int f.a f.ta),kv P "got" f.k4 (.ref (f.G+310)),kv P "row" f.k5 (.ref (f.N+310)),kv P "turn" kt vt,kv P "best" kb vb] 7
 |.p kt vt kb vb kp vp=>B4 #[kv P "votes" f.k1 (.ref (f.V+310)),kv P "seats" f.k2 (.int f.s f.ts),kv P "ahead" f.k3 (.int f.a f.ta),kv P "got" f.k4 (.ref (f.G+310)),kv P "row" f.k5 (.ref (f.N+310)),kv P "turn" kt vt,kv P "best" kb vb,kv P "party" kp vp] 8
abbrev Q3(x0_:Nat) x1_ x2_ x3_ (x4_:Nat) (x5_:Nat) (x6_:Nat) (g:Nat) x7_ x8_ x9_ x10_ x11_:=(qC (.call (.builtin "list.__getitem__") ⟨[.ref (x0_+310),.int x1_ x2_],[]⟩) [(x0_+310,x3_)] (x4_+310) (x5_+x6_) g (.ok (.ret (.int x7_ x8_))) [x9_] [(Aa x10_ x11_)] [] (x4_+310) (x5_+x6_) g:Ah)
def Kf(w:World)(n t g it:Nat)(f:DlK)(kt:Nat)(vt:Value)(kb:Nat)(bi:Int)(bt:Nat)(o:OV)(i left:Int)(vs gs:Array Value)(ev eg:Nat)(vp vb gb gp:Int)(tvp tvb tgb tgp:Nat):List Ah:=[Q0 it i left n t g (.ok (.ret (.int i (t+598)))) 1 (i+1) (left - 1) [] 310 599,
 Q3 f.2 i (t+598) (Ax vs ev) n t 600 g vp tvp 2 vs ev,
 Q3 f.3 bi bt (Ax gs eg) n t 600 g gb tgb 3 gs eg,
 B5 gb tgb f.a f.13 (n+310) (t+600) g,
 Dn vp tvp (gb+f.a) (t+600) (n+310) (t+601) g,
 Q3 f.2 bi bt (Aa vs ev) n t 602 g vb tvb 2 vs ev,
 Q3 f.3 i (t+598) (Aa gs eg) n t 602 g gp tgp 3 gs eg,
 B5 gp tgp f.a f.13 (n+310) (t+602) g,
 Dn vb tvb (gp+f.a) (t+602) (n+310) (t+603) g,
 qC (.call (.builtin "int.__gt__") ⟨[.int (vp*(gb+f.a)) (t+601),.int (vb*(gp+f.a)) (t+603)],[]⟩) [] (n+310) (t+604) g (.ok (.ret (.bool true))) [] [] [] (n+310) (t+604) g]
noncomputable def Aci(w:World)(os:OsState)(S:Nat→Slot)(n:Nat)(t:Nat)(g:Nat)(it:Nat)(f:DlK)(kt:Nat)(vt:Value)(kb:Nat)(bi:Int)(bt:Nat)(i:Int)(left:Int)(vs:Array Value)(gs:Array Value)(ev:Nat)(eg:Nat)(vp:Int)(vb:Int)(gb:Int)(gp:Int)(tvp:Nat)(tvb:Nat)(tgb:Nat)(tgp:Nat)(o:OV)(b1 b2:Bool):Ao:=B7 (Ak (Z w os b1 b2) (Ab [kL,kF,kF,kB] S 0) 72 (Ga w.params f.L it) ([(f.L+310,Dg w.params f (Jc kt vt kb (.int bi bt) o)),(it+310,Ac i left 1),(f.V+310,Aa vs ev),(f.G+310,Aa gs eg)]) (n+310) (t+598) g A1a (Kf w n t g it f kt vt kb bi bt o i left vs gs ev eg vp vb gb gp tvp tvb tgb tgp) []) [0,1,2,3] (Kf w n t g it f kt vt kb bi bt o i left vs gs ev eg vp vb gb gp tvp tvb tgb tgp)
noncomputable def Af9(w:World)(os:OsState)(S:Nat→Slot)(n:Nat)(t:Nat)(g:Nat)(it:Nat)(f:DlK)(kt:Nat)(vt:Value)(kb:Nat)(bi:Int)(bt:Nat)(i:Int)(left:Int)(vs:Array Value)(gs:Array Value)(ev:Nat)(eg:Nat)(vp:Int)(vb:Int)(gb:Int)(gp:Int)(tvp:Nat)(tvb:Nat)(tgb:Nat)(tgp:Nat)(o:OV)(b1 b2:Bool):Ao:=B6 (Ak (Z w os b1 b2) (Ab [kL,kF,kF,kB] S 0) 72 (Ga w.params f.L it) ([(f.L+310,Dg w.params f (Jc kt vt kb (.int bi bt) o)),(it+310,Ac i left 1),(f.V+310,Aa vs ev),(f.G+310,Aa gs eg)]) (n+310) (t+598) g A1a (Kf w n t g it f kt vt kb bi bt o i left vs gs ev eg vp vb gb gp tvp tvb tgb tgp) []) (.again (Ga w.params f.L it)) ([(f.L+310,Dg w.params f (.p kt vt kb (.int i (t+598)) (o.key (t+599)) (.int i (t+598)))),(it+310,Ac (i+1) (left-1) 1),(f.V+310,Aa vs ev),(f.G+310,Aa gs eg)]) ([]) (n+310) (t+605) g (Kf w n t g it f kt vt kb bi bt o i left vs gs ev eg vp vb gb gp tvp tvb tgb tgp)
theorem Ais(w:World)(os:OsState)(S:Nat→Slot)(n:Nat)(t:Nat)(g:Nat)(it:Nat)(f:DlK)(kt:Nat)(vt:Value)(kb:Nat)(bi:Int)(bt:Nat)(i:Int)(left:Int)(vs:Array Value)(gs:Array Value)(ev:Nat)(eg:Nat)(vp:Int)(vb:Int)(gb:Int)(gp:Int)(tvp:Nat)(tvb:Nat)(tgb:Nat)(tgp:Nat)(o:OV):∀(b1 b2:Bool),Aci w os S n t g it f kt vt kb bi bt i left vs gs ev eg vp vb gb gp tvp tvb tgb tgp o b1 b2=Af9 w os S n t g it f kt vt kb bi bt i left vs gs ev eg vp vb gb gp tvp tvb tgb tgp o b1 b2
 |false,_=>by cases o<;>kernel_rfl
 |true,_=>by cases o<;>kernel_rfl
theorem Xo(n t g it:Nat)(f:DlK)(kt:Nat)(vt:Value)(kb:Nat)(bi:Int)(bt:Nat)(o:OV)(i left:Int)(vs gs:Array Value)(ev eg:Nat)(vp vb gb gp:Int)(tvp tvb tgb tgp:Nat)(b1 b2:Bool) (hL:ObRs (Z w os b1 b2) (Kf w n t g it f kt vt kb bi bt o i left vs gs ev eg vp vb gb gp tvp tvb tgb tgp))
  (next:Does (Z w os b1 b2) (Ga w.params f.L it) (Ab [kL,kF,kF,kB] S 0) ([(f.L+310,Dg w.params f (.p kt vt kb (.int i (t+598)) (o.key (t+599)) (.int i (t+598)))),(it+310,Ac (i+1) (left-1) 1),(f.V+310,Aa vs ev),(f.G+310,Aa gs eg)]) (n+310) (t+605) g res l' n' t' g'):Does (Z w os b1 b2) (Ga w.params f.L it) (Ab [kL,kF,kF,kB] S 0) ([(f.L+310,Dg w.params f (Jc kt vt kb (.int bi bt) o)),(it+310,Ac i left 1),(f.V+310,Aa vs ev),(f.G+310,Aa gs eg)]) (n+310) (t+598) g res l' n' t' g':=
 B2 72 A1a [0,1,2,3] hL next (by kernel_rfl) (by decide) (fun p=>congrFun (Ais w os S n t g it f kt vt kb bi bt i left vs gs ev eg vp vb gb gp tvp tvb tgb tgp o  b1 b2) p)
def Ka(w:World)(n t g it:Nat)(f:DlK)(kt:Nat)(vt:Value)(kb:Nat)(bi:Int)(bt:Nat)(o:OV)(i left:Int)(vs gs:Array Value)(ev eg:Nat)(vp vb gb gp:Int)(tvp tvb tgb tgp:Nat):List Ah:=[Q0 it i left n t g (.ok (.ret (.int i (t+598)))) 1 (i+1) (left - 1) [] 310 599,
 Q3 f.2 i (t+598) (Ax vs ev) n t 600 g vp tvp 2 vs ev,
 Q3 f.3 bi bt (Ax gs eg) n t 600 g gb tgb 3 gs eg,
 B5 gb tgb f.a f.13 (n+310) (t+600) g,
 Dn vp tvp (gb+f.a) (t+600) (n+310) (t+601) g,
 Q3 f.2 bi bt (Aa vs ev) n t 602 g vb tvb 2 vs ev,
 Q3 f.3 i (t+598) (Aa gs eg) n t 602 g gp tgp 3 gs eg,
 B5 gp tgp f.a f.13 (n+310) (t+602) g,
 Dn vb tvb (gp+f.a) (t+602) (n+310) (t+603) g,
 qC (.call (.builtin "int.__gt__") ⟨[.int (vp*(gb+f.a)) (t+601),.int (vb*(gp+f.a)) (t+603)],[]⟩) [] (n+310) (t+604) g (.ok (.ret (.bool false))) [] [] [] (n+310) (t+604) g]
noncomputable def Aet(w:World)(os:OsState)(S:Nat→Slot)(n:Nat)(t:Nat)(g:Nat)(it:Nat)(f:DlK)(kt:Nat)(vt:Value)(kb:Nat)(bi:Int)(bt:Nat)(i:Int)(left:Int)(vs:Array Value)(gs:Array Value)(ev:Nat)(eg:Nat)(vp:Int)(vb:Int)(gb:Int)(gp:Int)(tvp:Nat)(tvb:Nat)(tgb:Nat)(tgp:Nat)(o:OV)(b1 b2:Bool):Ao:=B7 (Ak (Z w os b1 b2) (Ab [kL,kF,kF,kB] S 0) 62 (Ga w.params f.L it) ([(f.L+310,Dg w.params f (Jc kt vt kb (.int bi bt) o)),(it+310,Ac i left 1),(f.V+310,Aa vs ev),(f.G+310,Aa gs eg)]) (n+310) (t+598) g A2g (Ka w n t g it f kt vt kb bi bt o i left vs gs ev eg vp vb gb gp tvp tvb tgb tgp) []) [0,1,2,3] (Ka w n t g it f kt vt kb bi bt o i left vs gs ev eg vp vb gb gp tvp tvb tgb tgp)
noncomputable def Aaq(w:World)(os:OsState)(S:Nat→Slot)(n:Nat)(t:Nat)(g:Nat)(it:Nat)(f:DlK)(kt:Nat)(vt:Value)(kb:Nat)(bi:Int)(bt:Nat)(i:Int)(left:Int)(vs:Array Value)(gs:Array Value)(ev:Nat)(eg:Nat)(vp:Int)(vb:Int)(gb:Int)(gp:Int)(tvp:Nat)(tvb:Nat)(tgb:Nat)(tgp:Nat)(o:OV)(b1 b2:Bool):Ao:=B6 (Ak (Z w os b1 b2) (Ab [kL,kF,kF,kB] S 0) 62 (Ga w.params f.L it) ([(f.L+310,Dg w.params f (Jc kt vt kb (.int bi bt) o)),(it+310,Ac i left 1),(f.V+310,Aa vs ev),(f.G+310,Aa gs eg)]) (n+310) (t+598) g A2g (Ka w n t g it f kt vt kb bi bt o i left vs gs ev eg vp vb gb gp tvp tvb tgb tgp) []) (.again (Ga w.params f.L it)) ([(f.L+310,Dg w.params f (.p kt vt kb (.int bi bt) (o.key (t+599)) (.int i (t+598)))),(it+310,Ac (i+1) (left-1) 1),(f.V+310,Aa vs ev),(f.G+310,Aa gs eg)]) ([]) (n+310) (t+604) g (Ka w n t g it f kt vt kb bi bt o i left vs gs ev eg vp vb gb gp tvp tvb tgb tgp)
theorem Aiw(w:World)(os:OsState)(S:Nat→Slot)(n:Nat)(t:Nat)(g:Nat)(it:Nat)(f:DlK)(kt:Nat)(vt:Value)(kb:Nat)(bi:Int)(bt:Nat)(i:Int)(left:Int)(vs:Array Value)(gs:Array Value)(ev:Nat)(eg:Nat)(vp:Int)(vb:Int)(gb:Int)(gp:Int)(tvp:Nat)(tvb:Nat)(tgb:Nat)(tgp:Nat)(o:OV):∀(b1 b2:Bool),Aet w os S n t g it f kt vt kb bi bt i left vs gs ev eg vp vb gb gp tvp tvb tgb tgp o b1 b2=Aaq w os S n t g it f kt vt kb bi bt i left vs gs ev eg vp vb gb gp tvp tvb tgb tgp o b1 b2
 |false,_=>by cases o<;>kernel_rfl
 |true,_=>by cases o<;>kernel_rfl
theorem Zk(n t g it:Nat)(f:DlK)(kt:Nat)(vt:Value)(kb:Nat)(bi:Int)(bt:Nat)(o:OV)(i left:Int)(vs gs:Array Value)(ev eg:Nat)(vp vb gb gp:Int)(tvp tvb tgb tgp:Nat)(b1 b2:Bool) (hL:ObRs (Z w os b1 b2) (Ka w n t g it f kt vt kb bi bt o i left vs gs ev eg vp vb gb gp tvp tvb tgb tgp))
  (next:Does (Z w os b1 b2) (Ga w.params f.L it) (Ab [kL,kF,kF,kB] S 0) ([(f.L+310,Dg w.params f (.p kt vt kb (.int bi bt) (o.key (t+599)) (.int i (t+598)))),(it+310,Ac (i+1) (left-1) 1),(f.V+310,Aa vs ev),(f.G+310,Aa gs eg)]) (n+310) (t+604) g res l' n' t' g'):Does (Z w os b1 b2) (Ga w.params f.L it) (Ab [kL,kF,kF,kB] S 0) ([(f.L+310,Dg w.params f (Jc kt vt kb (.int bi bt) o)),(it+310,Ac i left 1),(f.V+310,Aa vs ev),(f.G+310,Aa gs eg)]) (n+310) (t+598) g res l' n' t' g':=
 B2 62 A2g [0,1,2,3] hL next (by kernel_rfl) (by decide) (fun p=>congrFun (Aiw w os S n t g it f kt vt kb bi bt i left vs gs ev eg vp vb gb gp tvp tvb tgb tgp o  b1 b2) p)
theorem L4{b1 b2:Bool} {below:List (Code×Pos)} {l l₁ ps ps₁:LO} {n t g n₁ t₁ g₁:Nat} {res:Result} {c:Code} (N orc:Nat) (js:List Nat) {L:List Ah} (hL:ObRs (Z w os b1 b2) L) (hjs:js.Nodup:=by decide) (h0:B7 (Ak (Z w os false b2) below N c l n t g orc L ps) js L=B6 (Ak (Z w os false b2) below N c l n t g orc L ps) (.res res) l₁ ps₁ n₁ t₁ g₁ L:=by kernel_rfl) (h1:B7 (Ak (Z w os true b2) below N c l n t g orc L ps) js L=B6 (Ak (Z w os true b2) below N c l n t g orc L ps) (.res res) l₁ ps₁ n₁ t₁ g₁ L:=by kernel_rfl):Does (Z w os b1 b2) c below (l++ps) n t g res (l₁++ps₁) n₁ t₁ g₁:=by
 cases b1
 ·exact Bo _ _ js hL hjs fun p=>congrFun h0 p
 ·exact Bo _ _ js hL hjs fun p=>congrFun h1 p
theorem Ce{b1 b2:Bool} {below:List (Code×Pos)} {l l₁:LO} {n t g n₁ t₁ g₁:Nat} {res:Result} {c:Code} (N orc:Nat) (js:List Nat) {L:List Ah} (hL:ObRs (Z w os b1 b2) L) (hjs:js.Nodup:=by decide) (h0:B7 (Ak (Z w os false b2) below N c l n t g orc L []) js L=B6 (Ak (Z w os false b2) below N c l n t g orc L []) (.res res) l₁ [] n₁ t₁ g₁ L:=by kernel_rfl) (h1:B7 (Ak (Z w os true b2) below N c l n t g orc L []) js L=B6 (Ak (Z w os true b2) below N c l n t g orc L []) (.res res) l₁ [] n₁ t₁ g₁ L:=by kernel_rfl):Does (Z w os b1 b2) c below l n t g res l₁ n₁ t₁ g₁:=by
 cases b1
 ·exact Cc _ _ js hL hjs fun p=>congrFun h0 p
 ·exact Cc _ _ js hL hjs fun p=>congrFun h1 p
theorem Acb{b1 b2:Bool} {below:List (Code×Pos)} {l l₁:LO} {n t g n₁ t₁ g₁:Nat} {res:Result} {c:Code} (N orc:Nat) (js:List Nat) {L:List Ah} (hL:ObRs (Z w os b1 b2) L) (hjs:js.Nodup:=by decide) (h0:B7 (Ak (Z w os false false) below N c l n t g orc L []) js L=B6 (Ak (Z w os false false) below N c l n t g orc L []) (.res res) l₁ [] n₁ t₁ g₁ L:=by kernel_rfl) (h1:B7 (Ak (Z w os false true) below N c l n t g orc L []) js L=B6 (Ak (Z w os false true) below N c l n t g orc L []) (.res res) l₁ [] n₁ t₁ g₁ L:=by kernel_rfl) (h2:B7 (Ak (Z w os true false) below N c l n t g orc L []) js L=B6 (Ak (Z w os true false) below N c l n t g orc L []) (.res res) l₁ [] n₁ t₁ g₁ L:=by kernel_rfl) (h3:B7 (Ak (Z w os true true) below N c l n t g orc L []) js L=B6 (Ak (Z w os true true) below N c l n t g orc L []) (.res res) l₁ [] n₁ t₁ g₁ L:=by kernel_rfl):Does (Z w os b1 b2) c below l n t g res l₁ n₁ t₁ g₁:=by
 cases b1<;>cases b2
 ·exact Cc _ _ js hL hjs fun p=>congrFun h0 p
 ·exact Cc _ _ js hL hjs fun p=>congrFun h1 p
 ·exact Cc _ _ js hL hjs fun p=>congrFun h2 p
 ·exact Cc _ _ js hL hjs fun p=>congrFun h3 p
theorem E5{b1 b2:Bool} {below:List (Code×Pos)} {l l' l₁:LO} {n t g n' t' g' n₁ t₁ g₁:Nat} {res:Result} {c c₂:Code} (N orc:Bool→Bool→Nat) (js:List Nat) {L:List Ah} (hL:ObRs (Z w os b1 b2) L) (next:Does (Z w os b1 b2) c₂ below l₁ n₁ t₁ g₁ res l' n' t' g') (hq:H0 c₂=true:=by kernel_rfl) (hjs:js.Nodup:=by decide) (h0:B7 (Ak (Z w os false false) below (N false false) c l n t g (orc false false) L []) js L=B6 (Ak (Z w os false false) below (N false false) c l n t g (orc false false) L []) (.again c₂) l₁ [] n₁ t₁ g₁ L:=by kernel_rfl) (h1:B7 (Ak (Z w os false true) below (N false true) c l n t g (orc false true) L []) js L=B6 (Ak (Z w os false true) below (N false true) c l n t g (orc false true) L []) (.again c₂) l₁ [] n₁ t₁ g₁ L:=by kernel_rfl) (h2:B7 (Ak (Z w os true false) below (N true false) c l n t g (orc true false) L []) js L=B6 (Ak (Z w os true false) below (N true false) c l n t g (orc true false) L []) (.again c₂) l₁ [] n₁ t₁ g₁ L:=by kernel_rfl) (h3:B7 (Ak (Z w os true true) below (N true true) c l n t g (orc true true) L []) js L=B6 (Ak (Z w os true true) below (N true true) c l n t g (orc true true) L []) (.again c₂) l₁ [] n₁ t₁ g₁ L:=by kernel_rfl):Does (Z w os b1 b2) c below l n t g res l' n' t' g':=by
 cases b1<;>cases b2
 ·exact B2 _ _ js hL next hq hjs fun p=>congrFun h0 p
 ·exact B2 _ _ js hL next hq hjs fun p=>congrFun h1 p
 ·exact B2 _ _ js hL next hq hjs fun p=>congrFun h2 p
 ·exact B2 _ _ js hL next hq hjs fun p=>congrFun h3 p
theorem Tm(n t g L it:Nat)(i:Int)(b1 b2:Bool) (hL:ObRs (Z w os b1 b2) [Q0 it i 0 n t g (.error (.ref (n+311))) 0 i 0 [(n+310,Cg #[]),(n+311,(At ((n+310).add 0)))] 312 598]):Does (Z w os b1 b2) (Ga w.params L it) (Ab [kL,kF,kF,kB] S 0) ([(it+310,Ac i 0 1)]) (n+310) (t+598) g (.ok .next) ([(it+310,(Ac i 0 1))]) (n+312) (t+598) g:=
 Ce 5 0x10082 [0] hL
theorem Sg(n t g L it:Nat)(i:Int)(b1 b2:Bool) (hL:ObRs (Z w os b1 b2) [Q0 it i 0 n t g (.error (.ref (n+311))) 0 i 0 [(n+310,Cg #[]),(n+311,(At ((n+310).add 0)))] 312 598]):Does (Z w os b1 b2) (J3 w.params L it) (Ab [kF,kF,kB] S 0) ([(it+310,Ac i 0 1)]) (n+310) (t+598) g (.ok .next) ([(it+310,(Ac i 0 1))]) (n+312) (t+598) g:=
 Ce 5 0x10082 [0] hL
def H2(w:World)(n t g it:Nat)(f:DlK)(o:DO)(i left:Int)(vs gs rs:Array Value)(ev eg er:Nat)(kp:Nat)(vp:Value)(bi:Int)(bt:Nat)(gb:Int)(tgb:Nat)(x:Int)(n2 t2:Nat):List Ah:=[Q0 it i left n t g (.ok (.ret (.int i (t+598)))) 1 (i+1) (left - 1) [] 310 599,
 qC (.call (.builtin "len") ⟨[.ref (f.2+310)],[]⟩) [(f.2+310,Ax vs ev)] (n+310) (t+603) g (.ok (.ret (.int (↑vs.size) (t+604)))) [2] [(Aa vs ev)] [] (n+310) (t+605) g,
 Q9 n 310 (E3 "range" #[.int 1 (t+602),.int (↑vs.size) (t+604),.int 1 (t+605)]) n 311 t 606 g 5 1 t 602 vs 604 605 312,
 qK [kL,kF,kF,kB] (Ga w.params f.L (n+1)) [(f.L+310,Dg w.params f (o.set (o.kt (t+599)) (.int i (t+598)) (o.kb (t+601)) (.int 0 (t+600)))),(n+311,Ac 1 (Builtin.Range.rangeSize 1 (vs.size:Int) 1) 1),(f.V+310,Aa vs ev),(f.G+310,Aa gs eg)] (n+312) (t+606) g (.ok .next) [0,6,2,3] [Dg w.params f (.p (o.kt (t+599)) (.int i (t+598)) (o.kb (t+601)) (.int bi bt) kp vp),Ac x 0 1,Aa vs ev,Aa gs eg] [] (n2+310) (t2+598) g,
 Q3 f.3 bi bt (Aa gs eg) n2 t2 598 g gb tgb 3 gs eg,
 B5 gb tgb 1 (t2+598) (n2+310) (t2+599) g,
 qC (.call (.builtin "list.__setitem__") ⟨[.ref (f.3+310),.int bi bt,.int (gb+1) (t2+599)],[]⟩) [(f.3+310,(Aa gs eg))] (n2+310) (t2+600) g (.ok (.ret (.none))) [3] [(Aa (gs.setIfInBounds bi.toNat (Value.int (gb+1) (t2+599))) eg)] [] (n2+310) (t2+600) g,
 qC (.call (.builtin "list.append") ⟨[.ref (f.4+310),.int bi bt],[]⟩) [(f.4+310,Ax rs er)] (n2+310) (t2+600) g (.ok (.ret (.none))) [4] [(Aa (rs.push (Value.int bi bt)) (er+1))] [] (n2+310) (t2+600) g]
noncomputable def A27(w:World)(os:OsState)(S:Nat→Slot)(n:Nat)(t:Nat)(g:Nat)(it:Nat)(f:DlK)(i:Int)(left:Int)(vs:Array Value)(gs:Array Value)(rs:Array Value)(ev:Nat)(eg:Nat)(er:Nat)(kp:Nat)(vp:Value)(bi:Int)(bt:Nat)(gb:Int)(tgb:Nat)(x:Int)(n2:Nat)(t2:Nat)(o:DO)(b1 b2:Bool):Ao:=B7 (Ak (Z w os b1 b2) (Ab [kF,kF,kB] S 0) 86 (J3 w.params f.L it) ([(f.L+310,Dg w.params f o),(it+310,Ac i left 1),(f.V+310,Aa vs ev),(f.G+310,Aa gs eg),(f.N+310,Aa rs er)]) (n+310) (t+598) g A2n (H2 w n t g it f o i left vs gs rs ev eg er kp vp bi bt gb tgb x n2 t2) []) [0,1,2,3,4] (H2 w n t g it f o i left vs gs rs ev eg er kp vp bi bt gb tgb x n2 t2)
noncomputable def A3r(w:World)(os:OsState)(S:Nat→Slot)(n:Nat)(t:Nat)(g:Nat)(it:Nat)(f:DlK)(i:Int)(left:Int)(vs:Array Value)(gs:Array Value)(rs:Array Value)(ev:Nat)(eg:Nat)(er:Nat)(kp:Nat)(vp:Value)(bi:Int)(bt:Nat)(gb:Int)(tgb:Nat)(x:Int)(n2:Nat)(t2:Nat)(o:DO)(b1 b2:Bool):Ao:=B6 (Ak (Z w os b1 b2) (Ab [kF,kF,kB] S 0) 86 (J3 w.params f.L it) ([(f.L+310,Dg w.params f o),(it+310,Ac i left 1),(f.V+310,Aa vs ev),(f.G+310,Aa gs eg),(f.N+310,Aa rs er)]) (n+310) (t+598) g A2n (H2 w n t g it f o i left vs gs rs ev eg er kp vp bi bt gb tgb x n2 t2) []) (.again (J3 w.params f.L it)) ([(f.L+310,Dg w.params f (.p (o.kt (t+599)) (.int i (t+598)) (o.kb (t+601)) (.int bi bt) kp vp)),(it+310,Ac (i+1) (left-1) 1),(f.V+310,Aa vs ev),(f.G+310,Aa (gs.setIfInBounds bi.toNat (.int (gb+1) (t2+599))) eg),(f.N+310,Aa (rs.push (.int bi bt)) (er+1))]) ([]) (n2+310) (t2+600) g (H2 w n t g it f o i left vs gs rs ev eg er kp vp bi bt gb tgb x n2 t2)
theorem Aff(w:World)(os:OsState)(S:Nat→Slot)(n:Nat)(t:Nat)(g:Nat)(it:Nat)(f:DlK)(i:Int)(left:Int)(vs:Array Value)(gs:Array Value)(rs:Array Value)(ev:Nat)(eg:Nat)(er:Nat)(kp:Nat)(vp:Value)(bi:Int)(bt:Nat)(gb:Int)(tgb:Nat)(x:Int)(n2:Nat)(t2:Nat)(o:DO):∀(b1 b2:Bool),A27 w os S n t g it f i left vs gs rs ev eg er kp vp bi bt gb tgb x n2 t2 o b1 b2=A3r w os S n t g it f i left vs gs rs ev eg er kp vp bi bt gb tgb x n2 t2 o b1 b2
 |false,_=>by cases o<;>kernel_rfl
 |true,_=>by cases o<;>kernel_rfl
theorem U4(n t g it:Nat)(f:DlK)(o:DO)(i left:Int)(vs gs rs:Array Value)(ev eg er:Nat)(kp:Nat)(vp:Value)(bi:Int)(bt:Nat)(gb:Int)(tgb:Nat)(x:Int)(n2 t2:Nat)(b1 b2:Bool) (hL:ObRs (Z w os b1 b2) (H2 w n t g it f o i left vs gs rs ev eg er kp vp bi bt gb tgb x n2 t2))
  (next:Does (Z w os b1 b2) (J3 w.params f.L it) (Ab [kF,kF,kB] S 0) ([(f.L+310,Dg w.params f (.p (o.kt (t+599)) (.int i (t+598)) (o.kb (t+601)) (.int bi bt) kp vp)),(it+310,Ac (i+1) (left-1) 1),(f.V+310,Aa vs ev),(f.G+310,Aa (gs.setIfInBounds bi.toNat (.int (gb+1) (t2+599))) eg),(f.N+310,Aa (rs.push (.int bi bt)) (er+1))]) (n2+310) (t2+600) g res l' n' t' g'):Does (Z w os b1 b2) (J3 w.params f.L it) (Ab [kF,kF,kB] S 0) ([(f.L+310,Dg w.params f o),(it+310,Ac i left 1),(f.V+310,Aa vs ev),(f.G+310,Aa gs eg),(f.N+310,Aa rs er)]) (n+310) (t+598) g res l' n' t' g':=
 B2 86 A2n [0,1,2,3,4] hL next (by kernel_rfl) (by decide) (fun p=>congrFun (Aff w os S n t g it f i left vs gs rs ev eg er kp vp bi bt gb tgb x n2 t2 o  b1 b2) p)
theorem Ez{p:Nat}(h:p < 5):p=0∨p=1∨p=2∨p=3∨p=4:=(by decide +kernel:∀p,p < 5→p=0∨p=1∨p=2∨p=3∨p=4) p h
abbrev Q1(it:Nat)(x0_:Nat)(i:Nat)(ls:Array Value)(el:Nat)(n:Nat)(t:Nat)(g:Nat) x1_ x2_ x3_ x4_ (x5_:Nat):=(qC (.call (.builtin "list_iterator.__next__") ⟨[.ref (it+310)],[]⟩) [(it+310,E3 "list_iterator" #[.ref (x0_+310),.int (↑ i) 0]),(x0_+310,Ax ls el)] (n+310) (t+598) g x1_ [0,x2_] [x3_,(Aa ls el)] x4_ (n+x5_) (t+598) g:Ah)
def Hu(w:World)(n t g c it acc D Lx i:Nat)(o:OV)(e:Nat)(ls:Array Value)(el:Nat)(xi:Int)(tx:Nat)(X:Nat→Value)(jj:Nat):List Ah:=[Q1 it Lx i ls el n t g (.ok (.ret (.int xi tx))) 1 (Ad (Lx+310) (i+1)) [] 310]
noncomputable def A8s(w:World)(os:OsState)(S:Nat→Slot)(n:Nat)(t:Nat)(g:Nat)(c:Nat)(it:Nat)(acc:Nat)(D:Nat)(Lx:Nat)(i:Nat)(e:Nat)(ls:Array Value)(el:Nat)(xi:Int)(tx:Nat)(X:Nat→Value)(o:OV)(jj:Nat)(b1 b2:Bool):Ao:=B7 (Ak (Z w os b1 b2) (Ab [kF,kF,kB] S 0) 18 (Qk w.params c it acc D) ([(it+310,Ad (Lx+310) i),(Lx+310,Aa ls el),(acc+310,Aa (Aq X jj) e),(D+310,Ai w.params "vote" o)]) (n+310) (t+598) g Ud (Hu w n t g c it acc D Lx i o e ls el xi tx X jj) []) [0,1,2,3] (Hu w n t g c it acc D Lx i o e ls el xi tx X jj)
noncomputable def A8q(w:World)(os:OsState)(S:Nat→Slot)(n:Nat)(t:Nat)(g:Nat)(c:Nat)(it:Nat)(acc:Nat)(D:Nat)(Lx:Nat)(i:Nat)(e:Nat)(ls:Array Value)(el:Nat)(xi:Int)(tx:Nat)(X:Nat→Value)(o:OV)(jj:Nat)(b1 b2:Bool):Ao:=B6 (Ak (Z w os b1 b2) (Ab [kF,kF,kB] S 0) 18 (Qk w.params c it acc D) ([(it+310,Ad (Lx+310) i),(Lx+310,Aa ls el),(acc+310,Aa (Aq X jj) e),(D+310,Ai w.params "vote" o)]) (n+310) (t+598) g Ud (Hu w n t g c it acc D Lx i o e ls el xi tx X jj) []) (.again (Qk w.params c it acc D)) ([(it+310,Ad (Lx+310) (i+1)),(Lx+310,Aa ls el),(acc+310,Aa (Aq (Ck X jj (.int 0 (t+599))) (jj+1)) (e+1)),(D+310,Ai w.params "vote" (.s (o.key (t+598)) (.int xi tx)))]) ([]) (n+310) (t+600) g (Hu w n t g c it acc D Lx i o e ls el xi tx X jj)
theorem Aga(w:World)(os:OsState)(S:Nat→Slot)(n:Nat)(t:Nat)(g:Nat)(c:Nat)(it:Nat)(acc:Nat)(D:Nat)(Lx:Nat)(i:Nat)(e:Nat)(ls:Array Value)(el:Nat)(xi:Int)(tx:Nat)(X:Nat→Value)(o:OV)(jj:Nat)(hj:jj < 5):∀(b1 b2:Bool),A8s w os S n t g c it acc D Lx i e ls el xi tx X o jj b1 b2=A8q w os S n t g c it acc D Lx i e ls el xi tx X o jj b1 b2
 |false,_=>by obtain rfl |rfl |rfl |rfl |rfl:=Ez hj<;>cases o<;>kernel_rfl
 |true,_=>by obtain rfl |rfl |rfl |rfl |rfl:=Ez hj<;>cases o<;>kernel_rfl
theorem X1(n t g c it acc D Lx i:Nat)(o:OV)(e:Nat)(ls:Array Value)(el:Nat)(xi:Int)(tx:Nat)(X:Nat→Value)(jj:Nat)(hj:jj < 5)(b1 b2:Bool) (hL:ObRs (Z w os b1 b2) (Hu w n t g c it acc D Lx i o e ls el xi tx X jj))
  (next:Does (Z w os b1 b2) (Qk w.params c it acc D) (Ab [kF,kF,kB] S 0) ([(it+310,Ad (Lx+310) (i+1)),(Lx+310,Aa ls el),(acc+310,Aa (Aq (Ck X jj (.int 0 (t+599))) (jj+1)) (e+1)),(D+310,Ai w.params "vote" (.s (o.key (t+598)) (.int xi tx)))]) (n+310) (t+600) g res l' n' t' g'):Does (Z w os b1 b2) (Qk w.params c it acc D) (Ab [kF,kF,kB] S 0) ([(it+310,Ad (Lx+310) i),(Lx+310,Aa ls el),(acc+310,Aa (Aq X jj) e),(D+310,Ai w.params "vote" o)]) (n+310) (t+598) g res l' n' t' g':=
 B2 18 Ud [0,1,2,3] hL next (by kernel_rfl) (by decide) (fun p=>congrFun (Aga w os S n t g c it acc D Lx i e ls el xi tx X o jj hj b1 b2) p)
theorem Vd(n t g c it acc D Lx i:Nat)(ls:Array Value)(el:Nat)(b1 b2:Bool) (hL:ObRs (Z w os b1 b2) [Q1 it Lx i ls el n t g (.error (.ref (n+311))) 1 (Ar i) [(n+310,Cg #[]),(n+311,(At ((n+310).add 0)))] 312]):Does (Z w os b1 b2) (Qk w.params c it acc D) (Ab [kF,kF,kB] S 0) ([(it+310,Ad (Lx+310) i),(Lx+310,Aa ls el)]) (n+310) (t+598) g (.ok .next) ([(it+310,(Ar i)),(Lx+310,(Aa ls el))]) (n+312) (t+598) g:=
 Ce 4 0x14082 [0,1] hL
noncomputable def A9n(b1 b2:Bool):Nat:=match b2 with
 |false=>11
 |true=>1
def A99(b1 b2:Bool):Nat:=match b2 with
 |false=>Kb
 |true=>0
theorem Wd(n t g c it acc D Lx:Nat)(ls:Array Value)(el:Nat)(b1 b2:Bool) (hL:ObRs (Z w os b1 b2) [])
  (next:Does (Z w os b1 b2) (Qk w.params c it acc D) (Ab [kF,kF,kB] S 0) ([(it+310,Ad (Lx+310) 0),(Lx+310,Aa ls el),(acc+310,Aa #[] 0),(D+310,An #[] 0)]) (n+310) (t+598) g res l' n' t' g'):Does (Z w os b1 b2) (dlC w.params c it acc D) (Ab [kF,kF,kB] S 0) ([(it+310,Ad (Lx+310) 0),(Lx+310,Aa ls el),(acc+310,Aa #[] 0),(D+310,An #[] 0)]) (n+310) (t+598) g res l' n' t' g':=
 E5 A9n A99 [0,1,2,3] hL next
noncomputable abbrev dlK(n t n2 t2 V:Nat)(s:Int)(ts:Nat)(a:Int)(ta:Nat):DlK:=⟨n,V,n+2,n2,t+598,t+599,t+600,t2+598,t2+599,s,ts,a,ta⟩
def Gy(w:World)(n t g V:Nat)(vs gs gs2 rs:Array Value)(ev eg eg2 er:Nat)(s:Int)(ts:Nat)(a:Int)(ta:Nat)(i n2 t2 n3 t3 kk:Nat)(vv:Value)(o:DO)(x:Int):List Ah:=[qK [kF,kF,kB] (dlC w.params n (n+1) (n+2) (n+3)) [(n+311,Ad (V+310) 0),(V+310,Aa vs ev),(n+312,Aa #[] 0),(n+313,An #[] 0)] (n+314) (t+601) g (.ok .next) [2,0,3,4] [Ar i,Aa vs ev,Aa gs eg,Ai w.params "vote" (.s kk vv)] [] (n2+310) (t2+598) g,
 Q2 n2 311 0 (t2+600) s ts t2 601 312 602 g 6 0 (t2+600) s ts 313,
 qK [kF,kF,kB] (J3 w.params n (n2+2)) [(n+310,Dg w.params (dlK n t n2 t2 V s ts a ta) .n),(n2+312,Ac 0 (Builtin.Range.rangeSize 0 s 1) 1),(V+310,Aa vs ev),(n+312,Aa gs eg),(n2+310,Aa #[] 0)] (n2+313) (t2+602) g (.ok .next) [1,7,0,3,5] [Dg w.params (dlK n t n2 t2 V s ts a ta) o,Ac x 0 1,Aa vs ev,Aa gs2 eg2,Aa rs er] [] (n3+310) (t3+598) g]
noncomputable def A3x(w:World)(os:OsState)(S:Nat→Slot)(n:Nat)(t:Nat)(g:Nat)(V:Nat)(vs:Array Value)(gs:Array Value)(gs2:Array Value)(rs:Array Value)(ev:Nat)(eg:Nat)(eg2:Nat)(er:Nat)(s:Int)(ts:Nat)(a:Int)(ta:Nat)(i:Nat)(n2:Nat)(t2:Nat)(n3:Nat)(t3:Nat)(kk:Nat)(vv:Value)(x:Int)(o:DO)(b1 b2:Bool):Ao:=B7 (Ak (Z w os b1 b2) (Ab [kF,kB] S 0) 98 (.call (.ref 280) ⟨[.ref (V+310),.int s ts,.int a ta],[]⟩) ([(V+310,Aa vs ev)]) (n+310) (t+598) g A18 (Gy w n t g V vs gs gs2 rs ev eg eg2 er s ts a ta i n2 t2 n3 t3 kk vv o x) []) [0,3,5,8] (Gy w n t g V vs gs gs2 rs ev eg eg2 er s ts a ta i n2 t2 n3 t3 kk vv o x)
noncomputable def A0w(w:World)(os:OsState)(S:Nat→Slot)(n:Nat)(t:Nat)(g:Nat)(V:Nat)(vs:Array Value)(gs:Array Value)(gs2:Array Value)(rs:Array Value)(ev:Nat)(eg:Nat)(eg2:Nat)(er:Nat)(s:Int)(ts:Nat)(a:Int)(ta:Nat)(i:Nat)(n2:Nat)(t2:Nat)(n3:Nat)(t3:Nat)(kk:Nat)(vv:Value)(x:Int)(o:DO)(b1 b2:Bool):Ao:=B6 (Ak (Z w os b1 b2) (Ab [kF,kB] S 0) 98 (.call (.ref 280) ⟨[.ref (V+310),.int s ts,.int a ta],[]⟩) ([(V+310,Aa vs ev)]) (n+310) (t+598) g A18 (Gy w n t g V vs gs gs2 rs ev eg eg2 er s ts a ta i n2 t2 n3 t3 kk vv o x) []) (.res (.ok (.ret (.ref (n3+310))))) ([(V+310,Aa vs ev),(n+312,Aa gs2 eg2),(n2+310,Aa rs er),(n3+310,L7 (.ref (n2+310)) (.ref (n+312)))]) ([]) (n3+311) (t3+598) g (Gy w n t g V vs gs gs2 rs ev eg eg2 er s ts a ta i n2 t2 n3 t3 kk vv o x)
theorem Ae8(w:World)(os:OsState)(S:Nat→Slot)(n:Nat)(t:Nat)(g:Nat)(V:Nat)(vs:Array Value)(gs:Array Value)(gs2:Array Value)(rs:Array Value)(ev:Nat)(eg:Nat)(eg2:Nat)(er:Nat)(s:Int)(ts:Nat)(a:Int)(ta:Nat)(i:Nat)(n2:Nat)(t2:Nat)(n3:Nat)(t3:Nat)(kk:Nat)(vv:Value)(x:Int)(o:DO):∀(b1 b2:Bool),A3x w os S n t g V vs gs gs2 rs ev eg eg2 er s ts a ta i n2 t2 n3 t3 kk vv x o b1 b2=A0w w os S n t g V vs gs gs2 rs ev eg eg2 er s ts a ta i n2 t2 n3 t3 kk vv x o b1 b2
 |false,_=>by cases o<;>kernel_rfl
 |true,_=>by cases o<;>kernel_rfl
theorem Tk(n t g V:Nat)(vs gs gs2 rs:Array Value)(ev eg eg2 er:Nat)(s:Int)(ts:Nat)(a:Int)(ta:Nat)(i n2 t2 n3 t3 kk:Nat)(vv:Value)(o:DO)(x:Int)(b1 b2:Bool) (hL:ObRs (Z w os b1 b2) (Gy w n t g V vs gs gs2 rs ev eg eg2 er s ts a ta i n2 t2 n3 t3 kk vv o x)):Does (Z w os b1 b2) (.call (.ref 280) ⟨[.ref (V+310),.int s ts,.int a ta],[]⟩) (Ab [kF,kB] S 0) ([(V+310,Aa vs ev)]) (n+310) (t+598) g (.ok (.ret (.ref (n3+310)))) ([(V+310,Aa vs ev),(n+312,Aa gs2 eg2),(n2+310,Aa rs er),(n3+310,L7 (.ref (n2+310)) (.ref (n+312)))]) (n3+311) (t3+598) g:=
 Cc 98 A18 [0,3,5,8] hL (by decide) (fun p=>congrFun (Ae8 w os S n t g V vs gs gs2 rs ev eg eg2 er s ts a ta i n2 t2 n3 t3 kk vv x o  b1 b2) p)
abbrev F3:List Kd:=[kE,kW,kF,kF,kB]
def flF(P:Params):FuncData:=Fe (W9 P)
def Ag2(P:Params)(n:Nat):Env:={C9 (flF P) 297 (n+310) with cells:=[(Str.ofString "words",n+311)]}
def flE(P:Params):Expr:=Hr (Rg (As (Bi (flF P)) 0)) 0
def flV(P:Params)(n D:Nat):Env:=E6 (flE P) (Ag2 P n) (D+310) [(Str.ofString "words",n+311)]
def flC(P:Params)(n it acc D:Nat):Code:=.compStart (flE P) 0 (.ref (it+310)) (.ref (acc+310)) (flV P n D)
def Jo(P:Params)(n it acc D:Nat):Code:=.compLoop (flE P) 0 (.ref (it+310)) (.ref (acc+310)) (flV P n D)
abbrev Q33(z:Int)(t:Nat)(W:Int)(n:Nat)(g:Nat) x0_:=(qC (.call (.builtin "int.__eq__") ⟨[.int z (t+600),.int (2*W) (t+602)],[]⟩) [] (n+310) (t+603) g (.ok (.ret x0_)) [] [] [] (n+310) (t+603) g:Ah)
abbrev Q37(x:Str)(tx:Nat)(n:Nat)(t:Nat)(g:Nat)(z:Int):=(qC (.call (.builtin "len") ⟨[.str x tx],[]⟩) [] (n+310) (t+599) g (.ok (.ret (.int z (t+600)))) [] [] [] (n+310) (t+601) g:Ah)
def Jp(w:World)(n t g c it acc D L i:Nat)(o:OV)(e:Nat)(W:Int)(tw:Nat)(ls:Array Value)(el:Nat)(x:Str)(tx:Nat)(z:Int)(X:Nat→Value)(jj:Nat):List Ah:=[Q1 it L i ls el n t g (.ok (.ret (.str x tx))) 1 (Ad (L+310) (i+1)) [] 310,
 Q37 x tx n t g z,
 Dn 2 (t+601) W tw (n+310) (t+602) g,
 Q33 z t W n g (.bool true)]
noncomputable def Aez(w:World)(os:OsState)(S:Nat→Slot)(n:Nat)(t:Nat)(g:Nat)(c:Nat)(it:Nat)(acc:Nat)(D:Nat)(L:Nat)(i:Nat)(e:Nat)(W:Int)(tw:Nat)(ls:Array Value)(el:Nat)(x:Str)(tx:Nat)(z:Int)(X:Nat→Value)(o:OV)(jj:Nat)(b1 b2:Bool):Ao:=B7 (Ak (Z w os b1 b2) (Ab (kF::F3) S 0) 35 (Jo w.params c it acc D) ([(it+310,Ad (L+310) i),(L+310,Aa ls el),(acc+310,Aa (Aq X jj) e),(D+310,Ai w.params "line" o),(c+311,Ag (.int W tw))]) (n+310) (t+598) g A12 (Jp w n t g c it acc D L i o e W tw ls el x tx z X jj) []) [0,1,2,3,4] (Jp w n t g c it acc D L i o e W tw ls el x tx z X jj)
noncomputable def Adc(w:World)(os:OsState)(S:Nat→Slot)(n:Nat)(t:Nat)(g:Nat)(c:Nat)(it:Nat)(acc:Nat)(D:Nat)(L:Nat)(i:Nat)(e:Nat)(W:Int)(tw:Nat)(ls:Array Value)(el:Nat)(x:Str)(tx:Nat)(z:Int)(X:Nat→Value)(o:OV)(jj:Nat)(b1 b2:Bool):Ao:=B6 (Ak (Z w os b1 b2) (Ab (kF::F3) S 0) 35 (Jo w.params c it acc D) ([(it+310,Ad (L+310) i),(L+310,Aa ls el),(acc+310,Aa (Aq X jj) e),(D+310,Ai w.params "line" o),(c+311,Ag (.int W tw))]) (n+310) (t+598) g A12 (Jp w n t g c it acc D L i o e W tw ls el x tx z X jj) []) (.again (Jo w.params c it acc D)) ([(it+310,Ad (L+310) (i+1)),(L+310,Aa ls el),(acc+310,Aa (Aq (Ck X jj (.str x tx)) (jj+1)) (e+1)),(D+310,Ai w.params "line" (.s (o.key (t+598)) (.str x tx))),(c+311,Ag (.int W tw))]) ([]) (n+310) (t+603) g (Jp w n t g c it acc D L i o e W tw ls el x tx z X jj)
theorem Aj1(w:World)(os:OsState)(S:Nat→Slot)(n:Nat)(t:Nat)(g:Nat)(c:Nat)(it:Nat)(acc:Nat)(D:Nat)(L:Nat)(i:Nat)(e:Nat)(W:Int)(tw:Nat)(ls:Array Value)(el:Nat)(x:Str)(tx:Nat)(z:Int)(X:Nat→Value)(o:OV)(jj:Nat)(hj:jj < 36):∀(b1 b2:Bool),Aez w os S n t g c it acc D L i e W tw ls el x tx z X o jj b1 b2=Adc w os S n t g c it acc D L i e W tw ls el x tx z X o jj b1 b2
 |false,_=>by obtain rfl |rfl |rfl |rfl |rfl |rfl |rfl |rfl |rfl |rfl |rfl |rfl |rfl |rfl |rfl |rfl |rfl |rfl |rfl |rfl |rfl |rfl |rfl |rfl |rfl |rfl |rfl |rfl |rfl |rfl |rfl |rfl |rfl |rfl |rfl |rfl:=Ad4 hj<;>cases o<;>kernel_rfl
 |true,_=>by obtain rfl |rfl |rfl |rfl |rfl |rfl |rfl |rfl |rfl |rfl |rfl |rfl |rfl |rfl |rfl |rfl |rfl |rfl |rfl |rfl |rfl |rfl |rfl |rfl |rfl |rfl |rfl |rfl |rfl |rfl |rfl |rfl |rfl |rfl |rfl |rfl:=Ad4 hj<;>cases o<;>kernel_rfl
theorem A0n(n t g c it acc D L i:Nat)(o:OV)(e:Nat)(W:Int)(tw:Nat)(ls:Array Value)(el:Nat)(x:Str)(tx:Nat)(z:Int)(X:Nat→Value)(jj:Nat)(hj:jj < 36)(b1 b2:Bool) (hL:ObRs (Z w os b1 b2) (Jp w n t g c it acc D L i o e W tw ls el x tx z X jj))
  (next:Does (Z w os b1 b2) (Jo w.params c it acc D) (Ab (kF::F3) S 0) ([(it+310,Ad (L+310) (i+1)),(L+310,Aa ls el),(acc+310,Aa (Aq (Ck X jj (.str x tx)) (jj+1)) (e+1)),(D+310,Ai w.params "line" (.s (o.key (t+598)) (.str x tx))),(c+311,Ag (.int W tw))]) (n+310) (t+603) g res l' n' t' g'):Does (Z w os b1 b2) (Jo w.params c it acc D) (Ab (kF::F3) S 0) ([(it+310,Ad (L+310) i),(L+310,Aa ls el),(acc+310,Aa (Aq X jj) e),(D+310,Ai w.params "line" o),(c+311,Ag (.int W tw))]) (n+310) (t+598) g res l' n' t' g':=
 B2 35 A12 [0,1,2,3,4] hL next (by kernel_rfl) (by decide) (fun p=>congrFun (Aj1 w os S n t g c it acc D L i e W tw ls el x tx z X o jj hj b1 b2) p)
def Kk(w:World)(n t g c it acc D L i:Nat)(o:OV)(e:Nat)(W:Int)(tw:Nat)(ls:Array Value)(el:Nat)(x:Str)(tx:Nat)(z:Int)(vs:Array Value):List Ah:=[Q1 it L i ls el n t g (.ok (.ret (.str x tx))) 1 (Ad (L+310) (i+1)) [] 310,
 Q37 x tx n t g z,
 Dn 2 (t+601) W tw (n+310) (t+602) g,
 Q33 z t W n g (.bool false)]
noncomputable def Aa8(w:World)(os:OsState)(S:Nat→Slot)(n:Nat)(t:Nat)(g:Nat)(c:Nat)(it:Nat)(acc:Nat)(D:Nat)(L:Nat)(i:Nat)(e:Nat)(W:Int)(tw:Nat)(ls:Array Value)(el:Nat)(x:Str)(tx:Nat)(z:Int)(vs:Array Value)(o:OV)(b1 b2:Bool):Ao:=B7 (Ak (Z w os b1 b2) (Ab (kF::F3) S 0) 26 (Jo w.params c it acc D) ([(it+310,Ad (L+310) i),(L+310,Aa ls el),(acc+310,Aa vs e),(D+310,Ai w.params "line" o),(c+311,Ag (.int W tw))]) (n+310) (t+598) g A3p (Kk w n t g c it acc D L i o e W tw ls el x tx z vs) []) [0,1,2,3,4] (Kk w n t g c it acc D L i o e W tw ls el x tx z vs)
noncomputable def Af0(w:World)(os:OsState)(S:Nat→Slot)(n:Nat)(t:Nat)(g:Nat)(c:Nat)(it:Nat)(acc:Nat)(D:Nat)(L:Nat)(i:Nat)(e:Nat)(W:Int)(tw:Nat)(ls:Array Value)(el:Nat)(x:Str)(tx:Nat)(z:Int)(vs:Array Value)(o:OV)(b1 b2:Bool):Ao:=B6 (Ak (Z w os b1 b2) (Ab (kF::F3) S 0) 26 (Jo w.params c it acc D) ([(it+310,Ad (L+310) i),(L+310,Aa ls el),(acc+310,Aa vs e),(D+310,Ai w.params "line" o),(c+311,Ag (.int W tw))]) (n+310) (t+598) g A3p (Kk w n t g c it acc D L i o e W tw ls el x tx z vs) []) (.again (Jo w.params c it acc D)) ([(it+310,Ad (L+310) (i+1)),(L+310,Aa ls el),(acc+310,Aa vs e),(D+310,Ai w.params "line" (.s (o.key (t+598)) (.str x tx))),(c+311,Ag (.int W tw))]) ([]) (n+310) (t+603) g (Kk w n t g c it acc D L i o e W tw ls el x tx z vs)
theorem Aiy(w:World)(os:OsState)(S:Nat→Slot)(n:Nat)(t:Nat)(g:Nat)(c:Nat)(it:Nat)(acc:Nat)(D:Nat)(L:Nat)(i:Nat)(e:Nat)(W:Int)(tw:Nat)(ls:Array Value)(el:Nat)(x:Str)(tx:Nat)(z:Int)(vs:Array Value)(o:OV):∀(b1 b2:Bool),Aa8 w os S n t g c it acc D L i e W tw ls el x tx z vs o b1 b2=Af0 w os S n t g c it acc D L i e W tw ls el x tx z vs o b1 b2
 |false,_=>by cases o<;>kernel_rfl
 |true,_=>by cases o<;>kernel_rfl
theorem Yt(n t g c it acc D L i:Nat)(o:OV)(e:Nat)(W:Int)(tw:Nat)(ls:Array Value)(el:Nat)(x:Str)(tx:Nat)(z:Int)(vs:Array Value)(b1 b2:Bool) (hL:ObRs (Z w os b1 b2) (Kk w n t g c it acc D L i o e W tw ls el x tx z vs))
  (next:Does (Z w os b1 b2) (Jo w.params c it acc D) (Ab (kF::F3) S 0) ([(it+310,Ad (L+310) (i+1)),(L+310,Aa ls el),(acc+310,Aa vs e),(D+310,Ai w.params "line" (.s (o.key (t+598)) (.str x tx))),(c+311,Ag (.int W tw))]) (n+310) (t+603) g res l' n' t' g'):Does (Z w os b1 b2) (Jo w.params c it acc D) (Ab (kF::F3) S 0) ([(it+310,Ad (L+310) i),(L+310,Aa ls el),(acc+310,Aa vs e),(D+310,Ai w.params "line" o),(c+311,Ag (.int W tw))]) (n+310) (t+598) g res l' n' t' g':=
 B2 26 A3p [0,1,2,3,4] hL next (by kernel_rfl) (by decide) (fun p=>congrFun (Aiy w os S n t g c it acc D L i e W tw ls el x tx z vs o  b1 b2) p)
theorem Yg(n t g c it acc D L i:Nat)(ls:Array Value)(el:Nat)(b1 b2:Bool) (hL:ObRs (Z w os b1 b2) [Q1 it L i ls el n t g (.error (.ref (n+311))) 1 (Ar i) [(n+310,Cg #[]),(n+311,(At ((n+310).add 0)))] 312]):Does (Z w os b1 b2) (Jo w.params c it acc D) (Ab (kF::F3) S 0) ([(it+310,Ad (L+310) i),(L+310,Aa ls el)]) (n+310) (t+598) g (.ok .next) ([(it+310,(Ar i)),(L+310,(Aa ls el))]) (n+312) (t+598) g:=
 Ce 4 0x14082 [0,1] hL
noncomputable def Aar(b1 b2:Bool):Nat:=match b2 with
 |false=>11
 |true=>1
def Adn(b1 b2:Bool):Nat:=match b2 with
 |false=>Kb
 |true=>0
theorem A0l(n t g c it acc D L:Nat)(W:Int)(tw:Nat)(ls:Array Value)(el:Nat)(b1 b2:Bool) (hL:ObRs (Z w os b1 b2) [])
  (next:Does (Z w os b1 b2) (Jo w.params c it acc D) (Ab (kF::F3) S 0) ([(it+310,Ad (L+310) 0),(L+310,Aa ls el),(acc+310,Aa #[] 0),(D+310,An #[] 0),(c+311,Ag (.int W tw))]) (n+310) (t+598) g res l' n' t' g'):Does (Z w os b1 b2) (flC w.params c it acc D) (Ab (kF::F3) S 0) ([(it+310,Ad (L+310) 0),(L+310,Aa ls el),(acc+310,Aa #[] 0),(D+310,An #[] 0),(c+311,Ag (.int W tw))]) (n+310) (t+598) g res l' n' t' g':=
 E5 Aar Adn [0,1,2,3,4] hL next
theorem Tt(n t g:Nat)(V:Nat)(vs:Array Value)(ev:Nat)(W:Int)(tw:Nat)(ls:Array Value)(el n2 t2 g2:Nat)(kk:Nat)(vv:Value)(i:Nat)(rs:Array Value)(er n3 t3 g3:Nat)(ps ps1:LO)(b1 b2:Bool) (hL:ObRs (Z w os b1 b2) [qP (some (kF::F3)) (.call (.ref 292) ⟨[.ref (V+310),.int W tw],[]⟩) [(V+310,Ax vs ev)] ps ps1 (n+312) (t+599) g (.ok (.ret (.ref (n+316)))) [0] [(Aa vs ev)] [(n+316,(Aa ls el))] (n2+310) (t2+598) g2,qK (kF::F3) (flC w.params n n2 (n2+1) (n2+2)) [(n2+310,Ad (n+316) 0),(n+316,Aa ls el),(n2+311,Aa #[] 0),(n2+312,An #[] 0),(n+311,Ag (.int W tw))] (n2+313) (t2+598) g2 (.ok .next) [4,3,5,6,2] [Ar i,Aa ls el,Aa rs er,Ai w.params "line" (.s kk vv),Ag (.int W tw)] [] (n3+310) (t3+598) g3,qC (.call (.builtin "len") ⟨[.ref (n2+311)],[]⟩) [(n2+311,(Aa rs er))] (n3+310) (t3+598) g3 (.ok (.ret (.int (↑rs.size) (t3+599)))) [5] [(Aa rs er)] [] (n3+310) (t3+600) g3]):Does (Z w os b1 b2) (.call (.ref 297) ⟨[.ref (V+310),.int W tw],[]⟩) (Ab F3 S 0) (([(V+310,Aa vs ev)])++ps) (n+310) (t+598) g (.ok (.ret (.int (↑rs.size) (t3+599)))) (([(V+310,Aa vs ev)])++ps1) (n3+310) (t3+600) g3:=
 L4 49 0x88102008600140050a0408406040810004204060c081 [0] hL
noncomputable def Cs(x:Str)(n:Nat):Str:=⟨(List.replicate n x.cps).foldl (·++·) #[]⟩
noncomputable def smC(x:Str)(ts:Nat)(n:Int)(tn:Nat):Code:=.call (.builtin "str.__mul__") ⟨[.str x ts,.int n tn],[]⟩
noncomputable def Fz(n:Int)(ts T:Nat):Nat:=if n=1 then ts else T
noncomputable def Cj(n:Int):Nat:=if n=1 then 0 else 1
theorem A1p(x:Str):Cs x 1=x:=by
 unfold Cs
 show (⟨#[]++x.cps⟩:Str)=x
 rw [Array.empty_append]
theorem Ll(x:Str)(n:Nat):(Cs x n).cps.size=n*x.cps.size:=by
 have h:∀(n:Nat) (a:Array Nat),((List.replicate n x.cps).foldl (·++·) a).size=a.size+n*x.cps.size:=by
  intro n
  induction n with
  |zero=>intro a;simp
  |succ n ih=>intro a;rw [List.replicate_succ,List.foldl_cons,ih,Array.size_append,Nat.succ_mul];exact Aj5
 have:=h n #[]
 simpa [Cs] using this
theorem Gu{z:Zed} {bl:List (Code×Pos)} {x:Str} {ts tn N T g:Nat} {n:Int} (hx:1≤x.length∧x.length≤2) (h0:0≤n) (h1:n < 50):
  Does z (smC x ts n tn) bl [] N T g (.ok (.ret (.str (Cs x n.toNat) (Fz n ts T)))) [] N (T+Cj n) g:=by
 have hr:(decide (n < -(2 ^ 63:Int)) || decide (n ≥ 2 ^ 63))=false:=by
  rw [Bool.or_eq_false_iff];exact ⟨decide_eq_false (by lia),decide_eq_false (by lia)⟩
 have hb:¬ n < 1→(n == 1 || x.length == 0)=false→¬ ((x.length:Int) > (2 ^ 63 - 1) / n):=by
  intro h1 _ h2
  have:(2:Int)≤(2 ^ 63 - 1) / n:=(Int.le_ediv_iff_mul_le (by lia)).mpr (by lia)
  lia
 have hl:¬ n < 1→(n == 1 || x.length == 0)=false→PySem.Builtin.Str.tooLong (x.length*n.toNat)=false:=by
  intro _ _
  have h:∀j < 101,PySem.Builtin.Str.tooLong j=false:=by decide +kernel
  refine h _ ?_
  have:x.length*n.toNat≤2*n.toNat:=Nat.mul_le_mul_right _ hx.2
  lia
 refine Cu (d:=Cj n) fun A s R k ht hR=>Al F.slot_str_mul (typeIs_str s _ ts) F.entry_str_mul (F.args_str_mul_2 _ _) (gives_str_mul x n ts tn hr hb hl).meets ?_
 by_cases e1:n < 1
 ·rw [if_pos e1]
  obtain rfl:n=0:=by lia
  rw [show Fz 0 ts T=T from rfl,← ht] at hR
  exact ⟨by decide,hR⟩
 ·rw [if_neg e1]
  by_cases e2:n=1
  ·subst e2
   rw [if_pos (by rfl)]
   rw [show Fz 1 ts T=ts from rfl,show ((1:Int).toNat)=1 from rfl,A1p] at hR
   exact hR
  ·have q:(n == 1 || x.length == 0)=false:=by
    rw [Bool.or_eq_false_iff];exact ⟨beq_eq_false_iff_ne.mpr e2,beq_eq_false_iff_ne.mpr (by lia)⟩
   rw [q,if_neg Bool.false_ne_true]
   have hR:R (.ok (.ret (.str (Cs x n.toNat) (Fz n ts T)))) {s with toks:=s.toks+Cj n}:=hR
   unfold Fz Cj at hR
   rw [if_neg e2,if_neg e2,← ht] at hR
   refine ⟨?_,hR⟩
   show (Cs x n.toNat).cps.size≤_
   rw [Ll]
   refine Nat.le_trans (show n.toNat*x.cps.size≤100 from ?_) (by decide)
   have:n.toNat*x.cps.size≤n.toNat*2:=Nat.mul_le_mul_left _ hx.2
   lia
theorem Qj{z:Zed} {bl:List (Code×Pos)} {x:Str} {tk n t g:Nat} (hx:x.length≤1000):
  Does z (.call (.builtin "len") ⟨[.str x tk],[]⟩) bl [] n t g (.ok (.ret (.int x.length (t+1)))) [] n (t+2) g:=
 Cu fun A s R k' ht hR=>by
  refine codeAny_call_builtin plain_len entry_len (wpAny_of_eq (args_len1 _) ?_)
  refine wpAny_mono (wpAny_len_body (n:=(x.length:Int)) (E:=fun e s'=>R (.error e) s') (Q:=fun r s'=>R (.ok (.ret r)) s') (typeIs_str s x tk) F.slot_str_len F.entry_str_len (F.args_str_len_1 _) (gives_str_len x tk) Aa9 (by lia) (by rw [ht];rw [ht] at hR;exact hR)) ?_ ?_
  ·rintro fin s' ⟨r,rfl,h⟩
   exact h
  ·intro _ _ h;exact h
theorem Lg(a n:Nat):Cs ⟨#[32,a]⟩ n=C8 a n:=by
 have h:∀(n:Nat) (b:Array Nat),((List.replicate n (#[32,a]:Array Nat)).foldl (·++·) b).toList=b.toList++(List.range n).flatMap fun _=>[32,a]:=by
  intro n
  induction n with
  |zero=>intro b;simp
  |succ n ih=>intro b;rw [List.replicate_succ,List.foldl_cons,ih,Array.toList_append,List.range_succ_eq_map,List.flatMap_cons,List.flatMap_map,List.append_assoc]
 unfold Cs C8 Bl
 congr 1
 apply Array.toList_inj.mp
 have:=h n #[]
 simpa using this
section
theorem StrsL.size{ls:Array Value}{L:List Str}(h:StrsL ls L):ls.size=L.length:=by
 have:=congrArg List.length h
 simpa using this
theorem StrsL.nth{ls:Array Value}{L:List Str}(h:StrsL ls L){i:Nat}(hi:i < L.length):∃tk,ls[i]?=some (.str L[i] tk):=by
 have hz:=h.size
 have h2:(ls.toList.map I4)[i]?=(L.map some)[i]?:=by rw [h]
 rw [List.getElem?_map,List.getElem?_map,List.getElem?_eq_getElem hi,Array.getElem?_toList,Array.getElem?_eq_getElem (by exact Dx hi hz)] at h2
 rw [Array.getElem?_eq_getElem (by exact Dx hi hz)]
 have h3:I4 ls[i]=some L[i]:=Option.some.inj h2
 generalize ls[i]=v at h3
 cases v with
 |str s t=>exact ⟨t,by rw [show s=L[i] from Option.some.inj h3]⟩
 |_=>cases h3
theorem Li(x p:Nat):(C8 x p).length=2*p:=by
 rw [← Lg]
 show (Cs ⟨#[32,x]⟩ p).cps.size=2*p
 rw [Ll,Nat.mul_comm];rfl
theorem Yd{W x:Nat}(hW:1≤W)(k:Nat):∀d:List Str×Nat,d.2≤W→(∀s∈d.1,s.length≤2*W)→(Gq W x k d).2≤W∧∀s∈(Gq W x k d).1,s.length≤2*W:=by
 induction k with
 |zero=>intro d h1 h2;exact ⟨h1,h2⟩
 |succ k ih=>
  intro d h1 h2
  unfold Gq Sc
  by_cases h:d.2 < W
  ·rw [if_pos h]
   exact ih _ h h2
  ·rw [if_neg h]
   refine ih _ hW fun s hs=>?_
   rcases List.mem_append.mp hs with hs | hs
   ·exact h2 s hs
   ·rw [List.mem_singleton.mp hs,Li];exact Nat.le_refl _
theorem A38{W:Nat}(hW:1≤W)(V:List Nat):∀(i:Nat) (d:List Str),(∀s∈d,s.length≤2*W)→∀s∈Dy W i V d,s.length≤2*W:=by
 induction V with
 |nil=>intro i d h;exact h
 |cons v V ih=>
  intro i d h
  unfold Dy Fo
  obtain ⟨h1,h2⟩:=Yd (x:=97+i) hW v (d,0) (Nat.zero_le _) h
  refine ih _ _ fun s hs=>?_
  rcases List.mem_append.mp hs with hs | hs
  ·exact h2 s hs
  ·rw [List.mem_singleton.mp hs,Li];lia
noncomputable def D0(W:Nat)(l:List Str):Nat:=(l.filter fun s=>decide ((s.length:Int)=2*(W:Int))).length
section
variable {w:World}{os:OsState}(b1 b2:Bool)(g c it acc D Lx W tw el:Nat)(ls:Array Value)(L:List Str)
def flO(P:Params)(c it acc D Lx W tw el i e:Nat)(ls rs:Array Value)(itO dO:Obj):LO:=[(it+310,itO),(Lx+310,Aa ls el),(acc+310,Aa rs e),(D+310,dO),(c+311,Ag (.int (W:Int) tw))]
theorem A8e(hS:StrsL ls L)(hl:∀s∈L,s.length≤1000)(h35:L.length≤35)(k:Nat):∀(i n t:Nat) (o:OV) (e:Nat) (rs:Array Value),i+k=L.length→rs.size≤i →
  ∃(n' t' e':Nat) (o':OV) (rs':Array Value),n≤n'∧rs'.size=rs.size+D0 W (L.drop i)∧(k=0→o'=o)∧(1≤k→∃a b,o'=.s a b) ∧
  ∀S,Does (Z w os b1 b2) (Jo w.params c it acc D) (Ab (kF::F3) S 0) (flO w.params c it acc D Lx W tw el i e ls rs (Ad (Lx+310) i) (Ai w.params "line" o)) (n+310) (t+598) g (.ok .next)
   (flO w.params c it acc D Lx W tw el i e' ls rs' (Ar L.length) (Ai w.params "line" o')) (n'+310) (t'+598) g:=by
 induction k with
 |zero=>
  intro i n t o e rs hi hr
  obtain rfl:i=L.length:=by exact hi
  refine Ca (n+2) t e o rs ⟨Er,?_,fun _=>rfl,fun h=>absurd h (by decide),fun S=>?_⟩
  ·rw [List.drop_length];rfl
  ·exact (Yg (w:=w) (os:=os) (S:=S) n t g c it acc D Lx L.length ls el b1 b2 ⟨Ae (fun bl=>C3 rfl (by rw [Array.getElem?_eq_none (by rw [hS.size];exact Nat.le_refl _)])) (hn:=by simp),trivial⟩).frame [(acc+310,Aa rs e),(D+310,Ai w.params "line" o),(c+311,Ag (.int (W:Int) tw))] newer.same
 |succ k ih=>
  intro i n t o e rs hi hr
  have hiL:i < L.length:=by exact E1 hi
  have hdrop:L.drop i=L[i]::L.drop (i+1):=List.drop_eq_getElem_cons hiL
  obtain ⟨tx,htx⟩:=hS.nth hiL
  have hln:=hl _ (List.getElem_mem hiL)
  by_cases hy:(L[i].length:Int)=2*(W:Int)
  ·refine Af fun Gz hGz=>?_
   obtain ⟨X,hX⟩:=D6 rs
   obtain ⟨n',t',e',o',rs',h1,h2,h3,h4,DD⟩:=ih (i+1) n (t+5) (.s (o.key (t+598)) (.str L[i] tx)) (e+1) (rs.push (.str L[i] tx)) (E4 hi) (by rw [Array.size_push];exact G2 hr)
   refine hGz ?_
   refine Ca n' t' e' o' rs' ⟨h1,?_,fun h=>absurd h Hj,fun _=>?_,fun S=>?_⟩
   ·rw [h2,hdrop]
    unfold D0
    rw [List.filter_cons,if_pos (by rw [decide_eq_true hy]),Array.size_push,List.length_cons];exact Dp
   ·rcases Nat.eq_zero_or_pos k with hk | hk
    ·exact ⟨_,_,h3 hk⟩
    ·exact h4 hk
   ·have DD:=DD S
    have R:=A0n (w:=w) (os:=os) (S:=S) n t g c it acc D Lx i o e (W:Int) tw ls el L[i] tx (L[i].length:Int) X rs.size (by lia) b1 b2
     ⟨Ae fun bl=>Bd rfl htx,Ae fun bl=>Qj hln,Cy (C1 (by decide) (by decide)),Rb (by rw [beq_iff_eq];exact hy),trivial⟩ (by
      rw [Cd,← hX]
      exact DD)
    rw [← hX] at R
    exact R
  ·refine Af fun Gz hGz=>?_
   obtain ⟨n',t',e',o',rs',h1,h2,h3,h4,DD⟩:=ih (i+1) n (t+5) (.s (o.key (t+598)) (.str L[i] tx)) e rs (E4 hi) (Ey hr)
   refine hGz ?_
   refine Ca n' t' e' o' rs' ⟨h1,?_,fun h=>absurd h Hj,fun _=>?_,fun S=>?_⟩
   ·rw [h2,hdrop]
    unfold D0
    rw [List.filter_cons,if_neg (by rw [decide_eq_false hy];decide)]
   ·rcases Nat.eq_zero_or_pos k with hk | hk
    ·exact ⟨_,_,h3 hk⟩
    ·exact h4 hk
   ·exact Yt (w:=w) (os:=os) (S:=S) n t g c it acc D Lx i o e (W:Int) tw ls el L[i] tx (L[i].length:Int) rs b1 b2
     ⟨Ae fun bl=>Bd rfl htx,Ae fun bl=>Qj hln,Cy (C1 (by decide) (by decide)),Rb (by rw [beq_eq_false_iff_ne];exact hy),trivial⟩ (DD S)
end
section
variable {w:World}{os:OsState}(b1 b2:Bool)(n t g Va ev tw:Nat)(vs:Array Value)(V:List Nat)(W:Nat)(T:TB)
theorem Ys(hW:1≤W∧W≤6) (hI:IntsL vs (V.map Int.ofNat)) (hl:V.length≤5) (hV:∀v∈V,1≤v∧v≤6) (hF:T.isF) (hne:1≤(Cf W V).length):
  ∃(n' t' g' tk:Nat) (T':TB),n≤n'∧T'.isF∧newer T.obs T'.obs (n+310) ∧
  ∀S,Does (Z w os b1 b2) (.call (.ref 297) ⟨[.ref (Va+310),.int (W:Int) tw],[]⟩) (Ab F3 S 0) ([(Va+310,Aa vs ev)]++T.obs) (n+310) (t+598) g (.ok (.ret (.int (D0 W (Cf W V):Nat) tk))) ([(Va+310,Aa vs ev)]++T'.obs) (n'+310) (t'+598) g':=by
 refine Af fun Gz hGz=>?_
 refine O6 (J1 (w:=w) (os:=os) b1 b2 .r (n+2) (t+1) g Va ev tw vs V W T hW hI hl hV (.inl hF)) fun n2 t2 g2 ls el T2 h1 h2 h3 h4 h5 D1=>?_
 refine Vh (A8e (w:=w) (os:=os) b1 b2 g2 n n2 (n2+1) (n2+2) (n+6) W tw el ls (Cf W V) h2 (fun s hs=>by
  have:=A38 hW.1 V 0 [] (fun _ h=>nomatch h) s hs
  lia) (by rw [← h2.size];exact h3) (Cf W V).length 0 (n2+3) t2 .n 0 #[] Ep (Nat.le_refl _)) fun n3 t3 e3 o3 rs h6 h7 _ h8 D2=>?_
 obtain ⟨kk,vv,rfl⟩:=h8 hne
 refine hGz ?_
 refine Ca n3 (t3+2) g2 (t3+599) T2 ⟨Aad h1 h6,h4,h5.mono Dr,fun S=>?_⟩
 have hs:rs.size=D0 W (Cf W V):=by rw [h7];simp
 have X:=Tt (w:=w) (os:=os) (S:=S) n t g Va vs ev (W:Int) tw ls el n2 t2 g2 kk vv (Cf W V).length rs e3 n3 t3 g2 T.obs T2.obs b1 b2
  ⟨B0 h5 (fun S=>?_) (hn:=?_),Bb (fun S=>?_),Ae fun bl=>Bw ?_,trivial⟩
 ·rw [hs] at X
  exact X
 ·exact (D1 S).perm (List.Perm.of_eq rfl) (List.Perm.of_eq rfl)
 ·intro u hu
  rw [List.mem_singleton.mp hu]
  show n+312≤n+316
  exact Dr
 ·exact A0l (w:=w) (os:=os) (S:=S) (n2+3) t2 g2 n n2 (n2+1) (n2+2) (n+6) (W:Int) tw ls el b1 b2 trivial (D2 S)
 ·rw [hs]
  have:D0 W (Cf W V)≤(Cf W V).length:=List.length_filter_le ..
  have:=h2.size
  lia
end
end
section
def NatL(vs:Array Value)(L:List Nat):Prop:=IntsL vs (L.map Int.ofNat)
theorem NatL.size{vs:Array Value}{L:List Nat}(h:NatL vs L):vs.size=L.length:=by
 have:=IntsL.size h
 rw [this,List.length_map]
theorem NatL.nth{vs:Array Value}{L:List Nat}(h:NatL vs L){i:Nat}(hi:i < L.length):∃tk,vs[i]?=some (.int ((L.getD i 0:Nat):Int) tk):=by
 obtain ⟨tk,e⟩:=IntsL.nth h (i:=i) (by rw [List.length_map];exact hi)
 refine ⟨tk,?_⟩
 rw [e,List.getElem_map,List.getD_eq_getElem?_getD,List.getElem?_eq_getElem hi];rfl
theorem NatL.push{vs:Array Value}{L:List Nat}(h:NatL vs L)(x tk:Nat):NatL (vs.push (.int (x:Int) tk)) (L++[x]):=by
 have:=IntsL.push h (x:Int) tk
 unfold NatL
 rw [List.map_append]
 exact this
theorem NatL.set{vs:Array Value}{L:List Nat}(h:NatL vs L)(i x tk:Nat):NatL (vs.setIfInBounds i (.int (x:Int) tk)) (L.set i x):=by
 unfold NatL IntsL at *
 rw [Array.toList_setIfInBounds,List.map_set,h]
 simp only [List.map_set];rfl
noncomputable def bestFrom(V G:List Nat)(a:Nat):Nat→Nat→Nat→Nat
 |0,_,b=>b
 |k+1,p,b=>bestFrom V G a k (p+1) (if V.getD b 0*(G.getD p 0+a) < V.getD p 0*(G.getD b 0+a) then p else b)
def bestOf(V G:List Nat)(a:Nat):Nat:=bestFrom V G a (V.length - 1) 1 0
def En(V:List Nat)(a:Nat):Nat→List Nat→List Nat→List Nat×List Nat
 |0,G,r=>(r,G)
 |k+1,G,r=>En V a k (G.set (bestOf V G a) (G.getD (bestOf V G a) 0+1)) (r++[bestOf V G a])
theorem Ts{V G:List Nat}{a:Nat}(k:Nat):∀p b,p+k≤V.length→b < V.length→bestFrom V G a k p b < V.length:=by
 induction k with
 |zero=>intro p b _ h;exact h
 |succ k ih=>
  intro p b hp hb
  unfold bestFrom
  refine ih (p+1) _ (E0 hp) ?_
  split<;>lia
section
variable {w:World}{os:OsState}(b1 b2:Bool)(g it:Nat)(f:DlK)(a:Nat)(vs gs:Array Value)(ev eg:Nat)(V G:List Nat)
def S4(P:Params)(f:DlK)(it:Nat)(fr:DO)(i left:Int)(vs gs:Array Value)(ev eg:Nat):LO:=[(f.L+310,Dg P f fr),(it+310,Ac i left 1),(f.V+310,Aa vs ev),(f.G+310,Aa gs eg)]
theorem Y3 (hf:f.a=(a:Int)) (ha:a≤1) (hV:NatL vs V) (hG:NatL gs G) (hl:G.length=V.length) (h6:∀v∈V,v≤6) (h5:V.length≤5) (kt:Nat) (vt:Value) (kb:Nat) (k:Nat):∀(p b n t bt:Nat) (o:OV),p+k=V.length→b < V.length →
  ∃(n' t' bt':Nat) (o':OV) (y:Int),n≤n'∧(k=0→o'=o)∧(1≤k→∃c d,o'=.s c d) ∧
  ∀S,Does (Z w os b1 b2) (Ga w.params f.L it) (Ab [kL,kF,kF,kB] S 0) (S4 w.params f it (Jc kt vt kb (.int (b:Int) bt) o) (p:Int) (k:Int) vs gs ev eg) (n+310) (t+598) g (.ok .next)
   (S4 w.params f it (Jc kt vt kb (.int ((bestFrom V G a k p b:Nat):Int) bt') o') y 0 vs gs ev eg) (n'+310) (t'+598) g:=by
 have h6':∀i,V.getD i 0≤6:=by
  intro i
  rw [List.getD_eq_getElem?_getD]
  cases h:V[i]? with
  |none=>exact Nat.zero_le _
  |some v=>exact h6 v (List.mem_of_getElem? h)
 induction k with
 |zero=>
  intro p b n t bt o hp hb
  refine Ca (n+2) t bt o (p:Int) ⟨Er,fun _=>rfl,fun h=>absurd h (by decide),fun S=>?_⟩
  have X:=(Tm (w:=w) (os:=os) (S:=S) n t g f.L it (p:Int) b1 b2 ⟨Ae (fun bl=>Bm (by decide)) (hn:=by simp),trivial⟩).frame [(f.L+310,Dg w.params f (Jc kt vt kb (.int (b:Int) bt) o)),(f.V+310,Aa vs ev),(f.G+310,Aa gs eg)] newer.same
  exact X.perm (List.Perm.swap ..) (List.Perm.swap ..)
 |succ k ih=>
  intro p b n t bt o hp hb
  refine Af fun Gz hGz=>?_
  obtain ⟨tvp,evp⟩:=hV.nth (i:=p) (E1 hp)
  obtain ⟨tvb,evb⟩:=hV.nth (i:=b) hb
  obtain ⟨tgp,egp⟩:=hG.nth (i:=p) (S2 hl hp)
  obtain ⟨tgb,egb⟩:=hG.nth (i:=b) (Dx hb hl)
  have hbV:b≤1000:=by lia
  have v1:=h6' p
  have v2:=h6' b
  refine hGz ?_
  unfold bestFrom
  by_cases hc:V.getD b 0*(G.getD p 0+a) < V.getD p 0*(G.getD b 0+a)
  ·rw [if_pos hc]
   refine Af fun Gz hGz=>?_
   obtain ⟨n',t',bt',o',y,h1,h2,h3,D⟩:=ih (p+1) p n (t+7) (t+598) (.s (o.key (t+599)) (.int (p:Int) (t+598))) (E4 hp) (E1 hp)
   refine hGz ?_
   refine Ca n' t' bt' o' y ⟨h1,fun h=>absurd h Hj,fun _=>?_,fun S=>?_⟩
   ·rcases Nat.eq_zero_or_pos k with hk | hk
    ·exact ⟨_,_,h2 hk⟩
    ·exact h3 hk
   ·have D:=D S
    unfold S4 at D
    rw [show ((p+1:Nat):Int)=(p:Int)+1 by exact Fq] at D
    refine Xo (w:=w) (os:=os) (S:=S) n t g it f kt vt kb (b:Int) bt o (p:Int) ((k+1:Nat):Int) vs gs ev eg _ _ _ _ tvp tvb tgb tgp b1 b2
     ⟨Ae fun bl=>B1 Fl,Ae fun bl=>Ba Bs (by lia) (by rw [Int.toNat_natCast];exact evp),Ae fun bl=>Ba Bs (by lia) (by rw [Int.toNat_natCast];exact egb),Aw,Cy (C1 Bs (Ly v1)),Ae fun bl=>Ba Bs (by lia) (by rw [Int.toNat_natCast];exact evb),Ae fun bl=>Ba Bs (by lia) (by rw [Int.toNat_natCast];exact egp),Aw,Cy (C1 Bs (Ly v2)),Eh ?_,trivial⟩ ?_
    ·rw [hf]
     exact decide_eq_true (by exact_mod_cast hc)
    ·rw [show (((k+1:Nat):Int) - 1)=(k:Int) by exact Fh]
     exact D
  ·rw [if_neg hc]
   refine Af fun Gz hGz=>?_
   obtain ⟨n',t',bt',o',y,h1,h2,h3,D⟩:=ih (p+1) b n (t+6) bt (.s (o.key (t+599)) (.int (p:Int) (t+598))) (E4 hp) hb
   refine hGz ?_
   refine Ca n' t' bt' o' y ⟨h1,fun h=>absurd h Hj,fun _=>?_,fun S=>?_⟩
   ·rcases Nat.eq_zero_or_pos k with hk | hk
    ·exact ⟨_,_,h2 hk⟩
    ·exact h3 hk
   ·have D:=D S
    unfold S4 at D
    rw [show ((p+1:Nat):Int)=(p:Int)+1 by exact Fq] at D
    refine Zk (w:=w) (os:=os) (S:=S) n t g it f kt vt kb (b:Int) bt o (p:Int) ((k+1:Nat):Int) vs gs ev eg _ _ _ _ tvp tvb tgb tgp b1 b2
     ⟨Ae fun bl=>B1 Fl,Ae fun bl=>Ba Bs (by lia) (by rw [Int.toNat_natCast];exact evp),Ae fun bl=>Ba Bs (by lia) (by rw [Int.toNat_natCast];exact egb),Aw,Cy (C1 Bs (Ly v1)),Ae fun bl=>Ba Bs (by lia) (by rw [Int.toNat_natCast];exact evb),Ae fun bl=>Ba Bs (by lia) (by rw [Int.toNat_natCast];exact egp),Aw,Cy (C1 Bs (Ly v2)),Eh ?_,trivial⟩ ?_
    ·rw [hf]
     exact decide_eq_false (by exact_mod_cast hc)
    ·rw [show (((k+1:Nat):Int) - 1)=(k:Int) by exact Fh]
     exact D
noncomputable def DO.ov(o:DO):OV:=match o with
 |.p _ _ _ _ kp vp=>.s kp vp
 |_=>.n
theorem DO.set_ov(o:DO)(kt:Nat)(vt:Value)(kb:Nat)(vb:Value):o.set kt vt kb vb=Jc kt vt kb vb o.ov:=by cases o<;>rfl
def A2d(P:Params)(f:DlK)(it:Nat)(fr:DO)(i left:Int)(vs gs rs:Array Value)(ev eg er:Nat):LO:=[(f.L+310,Dg P f fr),(it+310,Ac i left 1),(f.V+310,Aa vs ev),(f.G+310,Aa gs eg),(f.N+310,Aa rs er)]
theorem Sw{V:List Nat}{a:Nat}(k:Nat):∀G r,(En V a k G r).2.length=G.length∧(En V a k G r).1.length=r.length+k:=by
 induction k with
 |zero=>intro G r;exact ⟨rfl,rfl⟩
 |succ k ih=>
  intro G r
  unfold En
  obtain ⟨h1,h2⟩:=ih (G.set (bestOf V G a) (G.getD (bestOf V G a) 0+1)) (r++[bestOf V G a])
  rw [List.length_set] at h1
  rw [List.length_append,List.length_singleton] at h2
  exact ⟨h1,by lia⟩
theorem Wj (hf:f.a=(a:Int)) (ha:a≤1) (hV:NatL vs V) (h6:∀v∈V,v≤6) (h5:V.length≤5) (h2:2≤V.length) (k:Nat):∀(i n t:Nat) (o:DO) (gs rs:Array Value) (eg er:Nat) (G r:List Nat),NatL gs G→NatL rs r→G.length=V.length→r.length+k≤100 →
  ∃(n' t':Nat) (o':DO) (y:Int) (gs' rs':Array Value) (eg' er':Nat),n≤n'∧NatL gs' (En V a k G r).2∧NatL rs' (En V a k G r).1 ∧
  ∀S,Does (Z w os b1 b2) (J3 w.params f.L it) (Ab [kF,kF,kB] S 0) (A2d w.params f it o (i:Int) (k:Int) vs gs rs ev eg er) (n+310) (t+598) g (.ok .next)
   (A2d w.params f it o' y 0 vs gs' rs' ev eg' er') (n'+310) (t'+598) g:=by
 induction k with
 |zero=>
  intro i n t o gs rs eg er G r hG hR hl hz
  refine G7 (n+2) t o (i:Int) gs rs eg er ⟨Er,hG,hR,fun S=>?_⟩
  have X:=(Sg (w:=w) (os:=os) (S:=S) n t g f.L it (i:Int) b1 b2 ⟨Ae (fun bl=>Bm (by decide)) (hn:=by simp),trivial⟩).frame [(f.L+310,Dg w.params f o),(f.V+310,Aa vs ev),(f.G+310,Aa gs eg),(f.N+310,Aa rs er)] newer.same
  exact X.perm (List.Perm.swap ..) (List.Perm.swap ..)
 |succ k ih=>
  intro i n t o gs rs eg er G r hG hR hl hz
  have hsz:=hV.size
  refine Af fun Gz hGz=>?_
  refine Kn (Y3 (w:=w) (os:=os) b1 b2 g (n+1) f a vs gs ev eg V G hf ha hV hG hl h6 h5 (o.kt (t+599)) (.int (i:Int) (t+598)) (o.kb (t+601)) (V.length - 1) 1 0 (n+2) (t+8) (t+600) o.ov (by lia) (J8 h2)) fun n2 t2 bt o2 y2 hn2 _ ho2 D2=>?_
  obtain ⟨kp,vp,rfl⟩:=ho2 (Af7 h2)
  have hb:bestOf V G a < V.length:=Ts _ _ _ (by lia) (J8 h2)
  obtain ⟨tgb,egb⟩:=hG.nth (i:=bestOf V G a) (Dx hb hl)
  obtain ⟨n3,t3,o3,y3,gs3,rs3,eg3,er3,hn3,hG3,hR3,D3⟩:=ih (i+1) n2 (t2+2) (.p (o.kt (t+599)) (.int (i:Int) (t+598)) (o.kb (t+601)) (.int ((bestOf V G a:Nat):Int) bt) kp vp) (gs.setIfInBounds (bestOf V G a) (.int ((G.getD (bestOf V G a) 0+1:Nat):Int) (t2+599))) (rs.push (.int ((bestOf V G a:Nat):Int) bt)) eg (er+1) _ _ (hG.set (bestOf V G a) (G.getD (bestOf V G a) 0+1) (t2+599)) (hR.push (bestOf V G a) bt) (by rw [List.length_set];exact hl) (by rw [List.length_append,List.length_singleton];exact E0 hz)
  refine hGz ?_
  refine G7 n3 t3 o3 y3 gs3 rs3 eg3 er3 ⟨Ajs hn2 hn3,hG3,hR3,fun S=>?_⟩
  have D3:=D3 S
  unfold A2d at D3 ⊢
  unfold S4 at D2
  rw [show ((i+1:Nat):Int)=(i:Int)+1 by exact Fq] at D3
  have hr:Builtin.Range.rangeSize 1 (vs.size:Int) 1=((V.length - 1:Nat):Int):=by
   rw [rangeSize_one,if_pos (by lia)];lia
  have hrs:rs.size≤sizeLine:=by
   rw [hR.size]
   exact Nat.le_trans (show _≤100 by exact C6 hz) (by decide)
  refine U4 (w:=w) (os:=os) (S:=S) n t g it f o (i:Int) ((k+1:Nat):Int) vs gs rs ev eg er kp vp ((bestOf V G a:Nat):Int) bt ((G.getD (bestOf V G a) 0:Nat):Int) tgb y2 n2 t2 b1 b2
   ⟨Ae fun bl=>B1 Fl,Ae fun bl=>Bw (by lia),Ae (fun bl=>Be (small_one (by lia) (by lia) (by lia) (by lia))) (hn:=by simp),Bb (fun S=>?_),Ae fun bl=>Ba Bs (by lia) (by rw [Int.toNat_natCast];exact egb),Aw,Ae fun bl=>Fp Bs (by rw [hG.size];lia) (by lia),Ae fun bl=>Dz hrs,trivial⟩ ?_
  ·have D2:=D2 S
   rw [hr,DO.set_ov]
   exact D2
  ·rw [show (((k+1:Nat):Int) - 1)=(k:Int) by exact Fh,Int.toNat_natCast]
   exact D3
end
section
variable {w:World}{os:OsState}(b1 b2:Bool)(g c it acc D Lx el:Nat)(ls:Array Value)(L:List Nat)
def Wt(P:Params)(it acc D Lx el e:Nat)(ls rs:Array Value)(itO dO:Obj):LO:=[(it+310,itO),(Lx+310,Aa ls el),(acc+310,Aa rs e),(D+310,dO)]
theorem A1j(hS:NatL ls L)(h5:L.length≤5)(k:Nat):∀(i n t:Nat) (o:OV) (e:Nat) (rs:Array Value),i+k=L.length→NatL rs (List.replicate i 0) →
  ∃(n' t' e':Nat) (o':OV) (rs':Array Value),n≤n'∧NatL rs' (List.replicate L.length 0)∧(k=0→o'=o)∧(1≤k→∃a b,o'=.s a b) ∧
  ∀S,Does (Z w os b1 b2) (Qk w.params c it acc D) (Ab [kF,kF,kB] S 0) (Wt w.params it acc D Lx el e ls rs (Ad (Lx+310) i) (Ai w.params "vote" o)) (n+310) (t+598) g (.ok .next)
   (Wt w.params it acc D Lx el e' ls rs' (Ar L.length) (Ai w.params "vote" o')) (n'+310) (t'+598) g:=by
 induction k with
 |zero=>
  intro i n t o e rs hi hr
  obtain rfl:i=L.length:=by exact hi
  refine Ca (n+2) t e o rs ⟨Er,hr,fun _=>rfl,fun h=>absurd h (by decide),fun S=>?_⟩
  exact (Vd (w:=w) (os:=os) (S:=S) n t g c it acc D Lx L.length ls el b1 b2 ⟨Ae (fun bl=>C3 rfl (by rw [Array.getElem?_eq_none (by rw [hS.size];exact Nat.le_refl _)])) (hn:=by simp),trivial⟩).frame [(acc+310,Aa rs e),(D+310,Ai w.params "vote" o)] newer.same
 |succ k ih=>
  intro i n t o e rs hi hr
  have hiL:i < L.length:=by exact E1 hi
  refine Af fun Gz hGz=>?_
  obtain ⟨tx,htx⟩:=hS.nth hiL
  have hrs:rs.size=i:=by rw [hr.size,List.length_replicate]
  obtain ⟨X,hX⟩:=D6 rs
  obtain ⟨n',t',e',o',rs',h1,h2,h3,h4,DD⟩:=ih (i+1) n (t+2) (.s (o.key (t+598)) (.int ((L.getD i 0:Nat):Int) tx)) (e+1) (rs.push (.int ((0:Nat):Int) (t+599))) (E4 hi) (by rw [List.replicate_succ'];exact hr.push 0 (t+599))
  refine hGz ?_
  refine Ca n' t' e' o' rs' ⟨h1,h2,fun h=>absurd h Hj,fun _=>?_,fun S=>?_⟩
  ·rcases Nat.eq_zero_or_pos k with hk | hk
   ·exact ⟨_,_,h3 hk⟩
   ·exact h4 hk
  ·have DD:=DD S
   have R:=X1 (w:=w) (os:=os) (S:=S) n t g c it acc D Lx i o e ls el ((L.getD i 0:Nat):Int) tx X rs.size (Nh h5 hi hrs) b1 b2
    ⟨Ae fun bl=>Bd rfl htx,trivial⟩ (by
     rw [Cd,← hX]
     exact DD)
   rw [← hX] at R
   exact R
end
section
variable {w:World}{os:OsState}(b1 b2:Bool)(n t g Va ev ts ta:Nat)(vs:Array Value)(V:List Nat)(s a:Nat)
theorem Wx(hV:NatL vs V)(h6:∀v∈V,v≤6)(h5:V.length≤5)(h2:2≤V.length)(ha:a≤1)(hs:s≤100):
  ∃(n' t' N X:Nat) (gs rs:Array Value) (eg er:Nat),n≤n'∧n+3≤N∧N < X∧NatL gs (En V a s (List.replicate V.length 0) []).2∧NatL rs (En V a s (List.replicate V.length 0) []).1 ∧
  ∀S,Does (Z w os b1 b2) (.call (.ref 280) ⟨[.ref (Va+310),.int (s:Int) ts,.int (a:Int) ta],[]⟩) (Ab [kF,kB] S 0) [(Va+310,Aa vs ev)] (n+310) (t+598) g (.ok (.ret (.ref (X+310))))
   [(Va+310,Aa vs ev),(n+312,Aa gs eg),(N+310,Aa rs er),(X+310,L7 (.ref (N+310)) (.ref (n+312)))] (n'+310) (t'+598) g:=by
 refine Af fun Gz hGz=>?_
 refine Vh (A1j (w:=w) (os:=os) b1 b2 g n (n+1) (n+2) (n+3) Va ev vs V hV h5 V.length 0 (n+4) (t+3) .n 0 #[] Ep (by rfl)) fun n2 t2 e2 o2 gs h1 h3 _ h4 D1=>?_
 obtain ⟨kk,vv,rfl⟩:=h4 (J8 h2)
 refine Oe (Wj (w:=w) (os:=os) b1 b2 g (n2+2) (dlK n t n2 t2 Va (s:Int) ts (a:Int) ta) a vs ev V rfl ha hV h6 h5 h2 s 0 (n2+3) (t2+4) .n gs #[] e2 0 (List.replicate V.length 0) [] h3 (by rfl) (by rw [List.length_replicate]) (by simp;exact hs)) fun n3 t3 o3 y gs2 rs eg2 er h5' h6' h7 D2=>?_
 refine hGz ?_
 refine G7 (n3+1) t3 n2 n3 gs2 rs eg2 er ⟨by lia,by lia,by lia,h6',h7,fun S=>?_⟩
 have hr:Builtin.Range.rangeSize 0 (s:Int) 1=(s:Int):=Eq Bs
 refine Tk (w:=w) (os:=os) (S:=S) n t g Va vs gs gs2 rs ev e2 eg2 er (s:Int) ts (a:Int) ta V.length n2 t2 n3 t3 kk vv o3 y b1 b2
  ⟨Bb (fun S=>?_),Ae (fun bl=>Be (Dv Bs (Ly hs))) (hn:=by simp),Bb (fun S=>?_),trivial⟩
 ·exact Wd (w:=w) (os:=os) (S:=S) (n+4) (t+3) g n (n+1) (n+2) (n+3) Va vs ev b1 b2 trivial (D1 S)
 ·have D2:=D2 S
  rw [hr]
  exact D2
end
end
theorem Yy{z:Zed} {bl:List (Code×Pos)} {a:Addr} {vs:Array Value} {e n t g:Nat} {y:Value} (hz:vs.size+1≤sizeLine):
  Does z (.call (.builtin "list.pop") ⟨[.ref a],[]⟩) bl [(a,Aa (vs.push y) e)] n t g (.ok (.ret y)) [(a,Aa vs (e+1))] n (t+0) g:=by
 have h1:(vs.push y).size - 1=vs.size:=by rw [Array.size_push];lia
 have h2:(vs.push y).eraseIdxIfInBounds vs.size=vs:=by
  unfold Array.eraseIdxIfInBounds
  rw [dif_pos (by simp)]
  apply Array.toList_inj.mp
  rw [Array.toList_eraseIdx,Array.toList_push]
  rw [List.eraseIdx_append_of_length_le (by simp)]
  simp
 have hf:Obj.mapSeq (fun xs=>xs.eraseIdxIfInBounds ((vs.push y).size - 1)) (Aa (vs.push y) e)=Aa vs (e+1):=by
  rw [h1]
  have:(vs.size == (vs.push y).size)=false:=by simp
  show ({cls:=_,dict:=_,data:=.seq ((vs.push y).eraseIdxIfInBounds vs.size) (if (((vs.push y).eraseIdxIfInBounds vs.size).size == (vs.push y).size)=true then e else e+1),slots:=_}:Obj)=_
  rw [h2,this];rfl
 have:=No (z:=z) (c:=.call (.builtin "list.pop") ⟨[.ref a],[]⟩) (bl:=bl) (a:=a) (o:=Aa (vs.push y) e) (f:=Obj.mapSeq (fun xs=>xs.eraseIdxIfInBounds ((vs.push y).size - 1))) (n:=n) (t:=t) (g:=g) (r:=.ok (.ret y)) (d:=0) (by rw [hf];rfl)
  (fun A s R ha _ hR=>Al F.slot_list_pop ⟨_,ha,rfl⟩ F.entry_list_pop (F.args_list_pop_1 _) (MeetsSeq.list_pop_last a (vs.push y) e y (by rw [h1];simp) (by rw [Array.size_push];exact hz)) ⟨ha,hR⟩)
 rw [hf] at this
 exact this
noncomputable def Bc(c:Int)(tc:Nat)(q:Int)(tq:Nat):Obj:={cls:=.type "tuple",data:=.seq #[.int c tc,.int q tq]}
theorem Tj{l b:Addr}{c q c' q':Int}{tc tq tc' tq':Nat} (hne:(c == c')=false):Meets (Builtin.«tuple.__lt__» ⟨[.ref l,.ref b],[]⟩)
  (fun _ R s=>s.heap.get? l=some (Bc c tc q tq)∧s.heap.get? b=some (Bc c' tc' q' tq')∧R (.ok (.ret (.bool (decide (c < c'))))) s):=
 .of_wp fun prog w A R s hh=>by
  refine Af fun Gz hGz=>?_
  obtain ⟨hp,g,d,tk,os⟩:=s;obtain ⟨hl,hb,hR⟩:=hh
  refine hGz ?_
  unfold Bc at hl hb
  have f2:=AutoSeq1.sub_tuple_tuple
  wp_walk using wpAny_loadPart' hl,wpAny_loadPart' hb
  show wpAny _ _ (eqBool (.int c tc) (.int c' tc')) _ _ _
  refine wpAny_eqBool_int ?_
  rw [hne]
  show wpAny _ _ (rule _ >>= _) _ _ _
  refine wpAny_bind (wpAny_rule ?_)
  refine wpAny_bind (wpAny_richCompare_same (T:="int") (typeIs_int _ c tc) (typeIs_int _ c' tc') F.slot_int_lt (call_gives F.slot_int_lt (typeIs_int _ c tc) F.entry_int_lt (F.args_int_lt_2 _ _) (gives_int_lt c c' tc tc') ?_))
  refine ⟨(fun x=>nomatch x),?_⟩
  wp_walk
  exact ⟨_,rfl,hR⟩
theorem Ty{l b:Addr}{c q c' q':Int}{tc tq tc' tq':Nat} (he:(c == c')=true) (hne:(q == q')=false):Meets (Builtin.«tuple.__lt__» ⟨[.ref l,.ref b],[]⟩)
  (fun _ R s=>s.heap.get? l=some (Bc c tc q tq)∧s.heap.get? b=some (Bc c' tc' q' tq')∧R (.ok (.ret (.bool (decide (q < q'))))) s):=
 .of_wp fun prog w A R s hh=>by
  refine Af fun Gz hGz=>?_
  obtain ⟨hp,g,d,tk,os⟩:=s;obtain ⟨hl,hb,hR⟩:=hh
  refine hGz ?_
  unfold Bc at hl hb
  have f2:=AutoSeq1.sub_tuple_tuple
  wp_walk using wpAny_loadPart' hl,wpAny_loadPart' hb
  show wpAny _ _ (eqBool (.int c tc) (.int c' tc')) _ _ _
  refine wpAny_eqBool_int ?_
  rw [he]
  show wpAny _ _ (pure (ForInStep.yield (none,()))) _ _ _
  refine wpAny_pure ?_
  wp_walk
  show wpAny _ _ (eqBool (.int q tq) (.int q' tq')) _ _ _
  refine wpAny_eqBool_int ?_
  rw [hne]
  show wpAny _ _ (rule _ >>= _) _ _ _
  refine wpAny_bind (wpAny_rule ?_)
  refine wpAny_bind (wpAny_richCompare_same (T:="int") (typeIs_int _ q tq) (typeIs_int _ q' tq') F.slot_int_lt (call_gives F.slot_int_lt (typeIs_int _ q tq) F.entry_int_lt (F.args_int_lt_2 _ _) (gives_int_lt q q' tq tq') ?_))
  refine ⟨(fun x=>nomatch x),?_⟩
  wp_walk
  exact ⟨_,rfl,hR⟩
noncomputable def Km(c q c' q':Int):Bool:=if c=c' then decide (q < q') else decide (c < c')
theorem Pu{z:Zed} {bl:List (Code×Pos)} {l b:Addr} {c q c' q':Int} {tc tq tc' tq' n t g:Nat} {v:Bool} (hne:q≠q') (hv:Km c q c' q'=v):
  Does z (.call (.builtin "tuple.__lt__") ⟨[.ref l,.ref b],[]⟩) bl [(l,Bc c tc q tq),(b,Bc c' tc' q' tq')] n t g (.ok (.ret (.bool v))) [(l,Bc c tc q tq),(b,Bc c' tc' q' tq')] n (t+0) g:=
 Cu fun A s R k _ hR=>by
  have hl:=k _ (.head _)
  have hb:=k _ (.tail _ (.head _))
  subst hv
  unfold Km at hR
  by_cases h:c=c'
  ·rw [if_pos h] at hR
   exact Al F.slot_tuple_lt ⟨_,hl,rfl⟩ F.entry_tuple_lt (F.args_tuple_lt_2 _ _) (Ty (by rw [beq_iff_eq];exact h) (by rw [beq_eq_false_iff_ne];exact hne)) ⟨hl,hb,hR⟩
  ·rw [if_neg h] at hR
   exact Al F.slot_tuple_lt ⟨_,hl,rfl⟩ F.entry_tuple_lt (F.args_tuple_lt_2 _ _) (Tj (by rw [beq_eq_false_iff_ne];exact h)) ⟨hl,hb,hR⟩
noncomputable def Cz(f:Int→Bool):Nat→Int→Int→Int
 |0,lo,_=>lo
 |k+1,lo,hi=>if lo < hi then (if f ((lo+hi).fdiv 2) then Cz f k ((lo+hi).fdiv 2+1) hi else Cz f k lo ((lo+hi).fdiv 2)) else lo
theorem Lo{lo hi:Int}(h:lo < hi):lo≤(lo+hi).fdiv 2∧(lo+hi).fdiv 2 < hi:=by
 rw [Int.fdiv_eq_ediv_of_nonneg _ (by decide)];lia
theorem Fi(a:Int):Builtin.divisionGoesByPylong a 2=false:=by kernel_rfl
def Dh(f:Int→Bool)(n:Nat):Int:=Cz f n 0 n
theorem A45(f:Int→Bool)(k:Nat):∀(lo hi:Int),lo≤hi→lo≤Cz f k lo hi∧Cz f k lo hi≤hi:=by
 induction k with
 |zero=>intro lo hi h;exact ⟨Int.le_refl _,h⟩
 |succ k ih=>
  intro lo hi h
  unfold Cz
  by_cases hl:lo < hi
  ·rw [if_pos hl]
   obtain ⟨m1,m2⟩:=Lo hl
   split
   ·have:=ih ((lo+hi).fdiv 2+1) hi m2;lia
   ·have:=ih lo ((lo+hi).fdiv 2) m1;lia
  ·rw [if_neg hl];lia
theorem Nq(f:Int→Bool)(n:Nat):0≤Dh f n∧Dh f n≤n:=A45 f n 0 n Bs
theorem Of(f:Int→Bool)(k:Nat):∀(lo hi:Int),lo≤hi→hi - lo≤k→(∀i j,lo≤j→j≤i→i < hi→f i=true→f j=true) →
  (∀i,lo≤i→i < Cz f k lo hi→f i=true)∧(∀i,Cz f k lo hi≤i→i < hi→f i=false):=by
 induction k with
 |zero=>
  intro lo hi h hk _
  unfold Cz
  exact ⟨fun i h1 h2=>by lia,fun i h1 h2=>by lia⟩
 |succ k ih=>
  intro lo hi h hk hf
  unfold Cz
  by_cases hl:lo < hi
  ·rw [if_pos hl]
   obtain ⟨m1,m2⟩:=Lo hl
   cases hm:f ((lo+hi).fdiv 2) with
   |true=>
    rw [if_pos rfl]
    obtain ⟨a,b⟩:=ih ((lo+hi).fdiv 2+1) hi m2 (Wk hk m1) (fun i j h1 h2 h3 h4=>hf i j (by lia) h2 h3 h4)
    exact ⟨fun i h1 h2=>if hi':i≤(lo+hi).fdiv 2 then hf _ i h1 hi' m2 hm else a i (Aj0 hi') h2,b⟩
   |false=>
    rw [if_neg (by simp)]
    obtain ⟨a,b⟩:=ih lo ((lo+hi).fdiv 2) m1 (by rw [Int.fdiv_eq_ediv_of_nonneg _ (by decide)];lia) (fun i j h1 h2 h3 h4=>hf i j h1 h2 (Ajk m2 h3) h4)
    refine ⟨a,fun i h1 h2=>?_⟩
    by_cases hi':i < (lo+hi).fdiv 2
    ·exact b i h1 hi'
    ·cases hfi:f i with
     |false=>rfl
     |true=>rw [hf i _ m1 (by exact Abm hi') h2 hfi] at hm;cases hm
  ·rw [if_neg hl]
   exact ⟨fun i h1 h2=>by lia,fun i h1 h2=>by lia⟩
def brF(P:Params):FuncData:=Fe (Rh P)
def Hz(P:Params)(L:Nat):Code:=Oc (As (Aa4 (As (Bi (brF P)) 2)) 0) (C9 (brF P) 105 (L+310))
structure BK where
 L:Nat
 A:Nat
 X:Nat
 k1:Nat
 k2:Nat
 k3:Nat
 k4:Nat
 k5:Nat
 c:Int
 tc:Nat
 q:Int
 tq:Nat
 ep:Nat
def E8(P:Params)(f:BK)(lo:Int)(tl:Nat)(hi:Int)(th:Nat)(o:OV):Obj:=match o with
 |.n=>B4 #[kv P "a" f.k1 (.ref (f.A+310)),kv P "x" f.k2 (.ref (f.X+310)),kv P "lo" f.k3 (.int lo tl),kv P "hi" f.k4 (.int hi th),kv P "key" f.k5 .none] 5
 |.s k6 v=>B4 #[kv P "a" f.k1 (.ref (f.A+310)),kv P "x" f.k2 (.ref (f.X+310)),kv P "lo" f.k3 (.int lo tl),kv P "hi" f.k4 (.int hi th),kv P "key" f.k5 .none,kv P "mid" k6 v] 6
abbrev Ge:List Kd:=[kF,kF,kL,kF,kF,kB]
structure CE where
 y:Nat
 c:Int
 tc:Nat
 q:Int
 tq:Nat
def CE.ob(e:CE):Addr×Obj:=(e.y+310,Bc e.c e.tc e.q e.tq)
noncomputable def B8(L:List CE):Array Value:=(L.map fun e=>Value.ref (e.y+310)).toArray
abbrev Q8(lo:Int)(tl:Nat)(hi:Int)(th:Nat)(n:Nat)(t:Nat)(g:Nat) x0_:=(qC (.call (.builtin "int.__lt__") ⟨[.int lo tl,.int hi th],[]⟩) [] (n+310) (t+598) g (.ok (.ret x0_)) [] [] [] (n+310) (t+598) g:Ah)
abbrev Q21(f:BK)(e:CE)(n:Nat)(t:Nat)(g:Nat) x0_:=(qC (.call (.builtin "tuple.__lt__") ⟨[.ref (f.3+310),.ref (e.1+310)],[]⟩) [(f.3+310,Cg #[.int f.c f.10,.int f.q f.12]),(e.1+310,Cg #[.int e.c e.3,.int e.q e.5])] (n+310) (t+602) g (.ok (.ret x0_)) [2,3] [(Bc f.c f.tc f.q f.tq),(Bc e.c e.tc e.q e.tq)] [] (n+310) (t+602) g:Ah)
abbrev Q26(f:BK)(lo:Int)(hi:Int)(t:Nat)(vs:Array Value)(n:Nat)(g:Nat)(e:CE):=(qC (.call (.builtin "list.__getitem__") ⟨[.ref (f.2+310),.int ((lo+hi).fdiv 2) (t+600)],[]⟩) [(f.2+310,Ax vs f.13)] (n+310) (t+602) g (.ok (.ret (.ref (e.1+310)))) [1] [(Aa vs f.ep)] [] (n+310) (t+602) g:Ah)
def Hx(w:World)(n t g:Nat)(f:BK)(vs:Array Value)(lo hi:Int)(tl th:Nat)(o:OV)(ps:LO)(e:CE):List Ah:=[Q8 lo tl hi th n t g (.bool true),
 B5 lo tl hi th (n+310) (t+598) g,
 C5 (lo+hi) (t+598) 2 (t+599) (n+310) (t+600) g,
 Q26 f lo hi t vs n g e,
 Q21 f e n t g (.bool true)]
noncomputable def A9j(w:World)(os:OsState)(S:Nat→Slot)(n:Nat)(t:Nat)(g:Nat)(f:BK)(vs:Array Value)(lo:Int)(hi:Int)(tl:Nat)(th:Nat)(ps:LO)(e:CE)(o:OV)(b1 b2:Bool):Ao:=B7 (Ak (Z w os b1 b2) (Ab Ge S 0) 54 (Hz w.params f.L) ([(f.L+310,E8 w.params f lo tl hi th o),(f.A+310,Aa vs f.ep),(f.X+310,Bc f.c f.tc f.q f.tq),(e.y+310,Bc e.c e.tc e.q e.tq)]) (n+310) (t+598) g A4s (Hx w n t g f vs lo hi tl th o ps e) ps) [0,1,2,3] (Hx w n t g f vs lo hi tl th o ps e)
noncomputable def A9x(w:World)(os:OsState)(S:Nat→Slot)(n:Nat)(t:Nat)(g:Nat)(f:BK)(vs:Array Value)(lo:Int)(hi:Int)(tl:Nat)(th:Nat)(ps:LO)(e:CE)(o:OV)(b1 b2:Bool):Ao:=B6 (Ak (Z w os b1 b2) (Ab Ge S 0) 54 (Hz w.params f.L) ([(f.L+310,E8 w.params f lo tl hi th o),(f.A+310,Aa vs f.ep),(f.X+310,Bc f.c f.tc f.q f.tq),(e.y+310,Bc e.c e.tc e.q e.tq)]) (n+310) (t+598) g A4s (Hx w n t g f vs lo hi tl th o ps e) ps) (.again (Hz w.params f.L)) ([(f.L+310,E8 w.params f lo tl ((lo+hi).fdiv 2) (t+600) (.s (o.key (t+601)) (.int ((lo+hi).fdiv 2) (t+600)))),(f.A+310,Aa vs f.ep),(f.X+310,Bc f.c f.tc f.q f.tq),(e.y+310,Bc e.c e.tc e.q e.tq)]) ps (n+310) (t+603) g (Hx w n t g f vs lo hi tl th o ps e)
theorem Afp(w:World)(os:OsState)(S:Nat→Slot)(n:Nat)(t:Nat)(g:Nat)(f:BK)(vs:Array Value)(lo:Int)(hi:Int)(tl:Nat)(th:Nat)(ps:LO)(e:CE)(o:OV):∀(b1 b2:Bool),A9j w os S n t g f vs lo hi tl th ps e o b1 b2=A9x w os S n t g f vs lo hi tl th ps e o b1 b2
 |false,_=>by cases o<;>kernel_rfl
 |true,_=>by cases o<;>kernel_rfl
theorem Vr(n t g:Nat)(f:BK)(vs:Array Value)(lo hi:Int)(tl th:Nat)(o:OV)(ps:LO)(e:CE)(b1 b2:Bool) (hL:ObRs (Z w os b1 b2) (Hx w n t g f vs lo hi tl th o ps e))
  (next:Does (Z w os b1 b2) (Hz w.params f.L) (Ab Ge S 0) (([(f.L+310,E8 w.params f lo tl ((lo+hi).fdiv 2) (t+600) (.s (o.key (t+601)) (.int ((lo+hi).fdiv 2) (t+600)))),(f.A+310,Aa vs f.ep),(f.X+310,Bc f.c f.tc f.q f.tq),(e.y+310,Bc e.c e.tc e.q e.tq)])++ps) (n+310) (t+603) g res l' n' t' g'):Does (Z w os b1 b2) (Hz w.params f.L) (Ab Ge S 0) (([(f.L+310,E8 w.params f lo tl hi th o),(f.A+310,Aa vs f.ep),(f.X+310,Bc f.c f.tc f.q f.tq),(e.y+310,Bc e.c e.tc e.q e.tq)])++ps) (n+310) (t+598) g res l' n' t' g':=
 Bz 54 A4s [0,1,2,3] hL next (by kernel_rfl) (by decide) (fun p=>congrFun (Afp w os S n t g f vs lo hi tl th ps e o  b1 b2) p)
def Hv(w:World)(n t g:Nat)(f:BK)(vs:Array Value)(lo hi:Int)(tl th:Nat)(o:OV)(ps:LO)(e:CE):List Ah:=[Q8 lo tl hi th n t g (.bool true),
 B5 lo tl hi th (n+310) (t+598) g,
 C5 (lo+hi) (t+598) 2 (t+599) (n+310) (t+600) g,
 Q26 f lo hi t vs n g e,
 Q21 f e n t g (.bool false),
 B5 ((lo+hi).fdiv 2) (t+600) 1 (t+602) (n+310) (t+603) g]
noncomputable def A8u(w:World)(os:OsState)(S:Nat→Slot)(n:Nat)(t:Nat)(g:Nat)(f:BK)(vs:Array Value)(lo:Int)(hi:Int)(tl:Nat)(th:Nat)(ps:LO)(e:CE)(o:OV)(b1 b2:Bool):Ao:=B7 (Ak (Z w os b1 b2) (Ab Ge S 0) 57 (Hz w.params f.L) ([(f.L+310,E8 w.params f lo tl hi th o),(f.A+310,Aa vs f.ep),(f.X+310,Bc f.c f.tc f.q f.tq),(e.y+310,Bc e.c e.tc e.q e.tq)]) (n+310) (t+598) g A3b (Hv w n t g f vs lo hi tl th o ps e) ps) [0,1,2,3] (Hv w n t g f vs lo hi tl th o ps e)
noncomputable def A7r(w:World)(os:OsState)(S:Nat→Slot)(n:Nat)(t:Nat)(g:Nat)(f:BK)(vs:Array Value)(lo:Int)(hi:Int)(tl:Nat)(th:Nat)(ps:LO)(e:CE)(o:OV)(b1 b2:Bool):Ao:=B6 (Ak (Z w os b1 b2) (Ab Ge S 0) 57 (Hz w.params f.L) ([(f.L+310,E8 w.params f lo tl hi th o),(f.A+310,Aa vs f.ep),(f.X+310,Bc f.c f.tc f.q f.tq),(e.y+310,Bc e.c e.tc e.q e.tq)]) (n+310) (t+598) g A3b (Hv w n t g f vs lo hi tl th o ps e) ps) (.again (Hz w.params f.L)) ([(f.L+310,E8 w.params f (((lo+hi).fdiv 2)+1) (t+603) hi th (.s (o.key (t+601)) (.int ((lo+hi).fdiv 2) (t+600)))),(f.A+310,Aa vs f.ep),(f.X+310,Bc f.c f.tc f.q f.tq),(e.y+310,Bc e.c e.tc e.q e.tq)]) ps (n+310) (t+605) g (Hv w n t g f vs lo hi tl th o ps e)
theorem Afs(w:World)(os:OsState)(S:Nat→Slot)(n:Nat)(t:Nat)(g:Nat)(f:BK)(vs:Array Value)(lo:Int)(hi:Int)(tl:Nat)(th:Nat)(ps:LO)(e:CE)(o:OV):∀(b1 b2:Bool),A8u w os S n t g f vs lo hi tl th ps e o b1 b2=A7r w os S n t g f vs lo hi tl th ps e o b1 b2
 |false,_=>by cases o<;>kernel_rfl
 |true,_=>by cases o<;>kernel_rfl
theorem Vu(n t g:Nat)(f:BK)(vs:Array Value)(lo hi:Int)(tl th:Nat)(o:OV)(ps:LO)(e:CE)(b1 b2:Bool) (hL:ObRs (Z w os b1 b2) (Hv w n t g f vs lo hi tl th o ps e))
  (next:Does (Z w os b1 b2) (Hz w.params f.L) (Ab Ge S 0) (([(f.L+310,E8 w.params f (((lo+hi).fdiv 2)+1) (t+603) hi th (.s (o.key (t+601)) (.int ((lo+hi).fdiv 2) (t+600)))),(f.A+310,Aa vs f.ep),(f.X+310,Bc f.c f.tc f.q f.tq),(e.y+310,Bc e.c e.tc e.q e.tq)])++ps) (n+310) (t+605) g res l' n' t' g'):Does (Z w os b1 b2) (Hz w.params f.L) (Ab Ge S 0) (([(f.L+310,E8 w.params f lo tl hi th o),(f.A+310,Aa vs f.ep),(f.X+310,Bc f.c f.tc f.q f.tq),(e.y+310,Bc e.c e.tc e.q e.tq)])++ps) (n+310) (t+598) g res l' n' t' g':=
 Bz 57 A3b [0,1,2,3] hL next (by kernel_rfl) (by decide) (fun p=>congrFun (Afs w os S n t g f vs lo hi tl th ps e o  b1 b2) p)
def Gs(w:World)(n t g:Nat)(f:BK)(vs:Array Value)(lo hi:Int)(tl th:Nat)(o:OV)(ps:LO):List Ah:=[Q8 lo tl hi th n t g (.bool false)]
noncomputable def A0r(w:World)(os:OsState)(S:Nat→Slot)(n:Nat)(t:Nat)(g:Nat)(f:BK)(vs:Array Value)(lo:Int)(hi:Int)(tl:Nat)(th:Nat)(ps:LO)(o:OV)(b1 b2:Bool):Ao:=B7 (Ak (Z w os b1 b2) (Ab Ge S 0) 7 (Hz w.params f.L) ([(f.L+310,E8 w.params f lo tl hi th o),(f.A+310,Aa vs f.ep),(f.X+310,Bc f.c f.tc f.q f.tq)]) (n+310) (t+598) g 0x4102 (Gs w n t g f vs lo hi tl th o ps) ps) [0,1,2] (Gs w n t g f vs lo hi tl th o ps)
noncomputable def A1v(w:World)(os:OsState)(S:Nat→Slot)(n:Nat)(t:Nat)(g:Nat)(f:BK)(vs:Array Value)(lo:Int)(hi:Int)(tl:Nat)(th:Nat)(ps:LO)(o:OV)(b1 b2:Bool):Ao:=B6 (Ak (Z w os b1 b2) (Ab Ge S 0) 7 (Hz w.params f.L) ([(f.L+310,E8 w.params f lo tl hi th o),(f.A+310,Aa vs f.ep),(f.X+310,Bc f.c f.tc f.q f.tq)]) (n+310) (t+598) g 0x4102 (Gs w n t g f vs lo hi tl th o ps) ps) (.res (.ok .next)) ([(f.L+310,E8 w.params f lo tl hi th o),(f.A+310,Aa vs f.ep),(f.X+310,Bc f.c f.tc f.q f.tq)]) ps (n+310) (t+598) g (Gs w n t g f vs lo hi tl th o ps)
theorem Aa6(w:World)(os:OsState)(S:Nat→Slot)(n:Nat)(t:Nat)(g:Nat)(f:BK)(vs:Array Value)(lo:Int)(hi:Int)(tl:Nat)(th:Nat)(ps:LO)(o:OV):∀(b1 b2:Bool),A0r w os S n t g f vs lo hi tl th ps o b1 b2=A1v w os S n t g f vs lo hi tl th ps o b1 b2
 |false,_=>by cases o<;>kernel_rfl
 |true,_=>by cases o<;>kernel_rfl
theorem Mx(n t g:Nat)(f:BK)(vs:Array Value)(lo hi:Int)(tl th:Nat)(o:OV)(ps:LO)(b1 b2:Bool) (hL:ObRs (Z w os b1 b2) (Gs w n t g f vs lo hi tl th o ps)):Does (Z w os b1 b2) (Hz w.params f.L) (Ab Ge S 0) (([(f.L+310,E8 w.params f lo tl hi th o),(f.A+310,Aa vs f.ep),(f.X+310,Bc f.c f.tc f.q f.tq)])++ps) (n+310) (t+598) g (.ok .next) (([(f.L+310,E8 w.params f lo tl hi th o),(f.A+310,Aa vs f.ep),(f.X+310,Bc f.c f.tc f.q f.tq)])++ps) (n+310) (t+598) g:=
 Bo 7 0x4102 [0,1,2] hL (by decide) (fun p=>congrFun (Aa6 w os S n t g f vs lo hi tl th ps o  b1 b2) p)
noncomputable abbrev bkF(m u A X:Nat)(c:Int)(tc:Nat)(q:Int)(tq ep:Nat):BK:=⟨m,A,X,u+598,u+599,u+600,u+601,u+602,c,tc,q,tq,ep⟩
def Hc(w:World)(n t g A X:Nat)(c:Int)(tc:Nat)(q:Int)(tq tz:Nat)(vs:Array Value)(ep:Nat)(ps:LO)(r hi:Int)(tl th t2:Nat)(o:OV):List Ah:=[Pt A (Ax vs ep) n 311 t 604 g vs 605 0 ep 606,
 qP (some Ge) (Hz w.params n) [(n+310,E8 w.params (bkF n t A X c tc q tq ep) 0 tz vs.size (t+605) .n),(A+310,Aa vs ep),(X+310,Bc c tc q tq)] ps ps (n+311) (t+607) g (.ok .next) [2,0,1] [E8 w.params (bkF n t A X c tc q tq ep) r tl hi th o,Aa vs ep,Bc c tc q tq] [] (n+311) (t2+598) g]
noncomputable def A3j(w:World)(os:OsState)(S:Nat→Slot)(n:Nat)(t:Nat)(g:Nat)(A:Nat)(X:Nat)(c:Int)(tc:Nat)(q:Int)(tq:Nat)(tz:Nat)(vs:Array Value)(ep:Nat)(ps:LO)(r:Int)(hi:Int)(tl:Nat)(th:Nat)(t2:Nat)(o:OV)(b1 b2:Bool):Ao:=B7 (Ak (Z w os b1 b2) (Ab [kF,kL,kF,kF,kB] S 0) 67 (.call (.ref 105) ⟨[.ref (A+310),.ref (X+310),.int 0 tz,.none],[]⟩) ([(A+310,Aa vs ep),(X+310,Bc c tc q tq)]) (n+310) (t+598) g A40 (Hc w n t g A X c tc q tq tz vs ep ps r hi tl th t2 o) ps) [0,1] (Hc w n t g A X c tc q tq tz vs ep ps r hi tl th t2 o)
noncomputable def A1k(w:World)(os:OsState)(S:Nat→Slot)(n:Nat)(t:Nat)(g:Nat)(A:Nat)(X:Nat)(c:Int)(tc:Nat)(q:Int)(tq:Nat)(tz:Nat)(vs:Array Value)(ep:Nat)(ps:LO)(r:Int)(hi:Int)(tl:Nat)(th:Nat)(t2:Nat)(o:OV)(b1 b2:Bool):Ao:=B6 (Ak (Z w os b1 b2) (Ab [kF,kL,kF,kF,kB] S 0) 67 (.call (.ref 105) ⟨[.ref (A+310),.ref (X+310),.int 0 tz,.none],[]⟩) ([(A+310,Aa vs ep),(X+310,Bc c tc q tq)]) (n+310) (t+598) g A40 (Hc w n t g A X c tc q tq tz vs ep ps r hi tl th t2 o) ps) (.res (.ok (.ret (.int r tl)))) ([(A+310,Aa vs ep),(X+310,Bc c tc q tq)]) ps (n+311) (t2+598) g (Hc w n t g A X c tc q tq tz vs ep ps r hi tl th t2 o)
theorem Aam(w:World)(os:OsState)(S:Nat→Slot)(n:Nat)(t:Nat)(g:Nat)(A:Nat)(X:Nat)(c:Int)(tc:Nat)(q:Int)(tq:Nat)(tz:Nat)(vs:Array Value)(ep:Nat)(ps:LO)(r:Int)(hi:Int)(tl:Nat)(th:Nat)(t2:Nat)(o:OV):∀(b1 b2:Bool),A3j w os S n t g A X c tc q tq tz vs ep ps r hi tl th t2 o b1 b2=A1k w os S n t g A X c tc q tq tz vs ep ps r hi tl th t2 o b1 b2
 |false,_=>by cases o<;>kernel_rfl
 |true,_=>by cases o<;>kernel_rfl
theorem Tl(n t g A X:Nat)(c:Int)(tc:Nat)(q:Int)(tq tz:Nat)(vs:Array Value)(ep:Nat)(ps:LO)(r hi:Int)(tl th t2:Nat)(o:OV)(b1 b2:Bool) (hL:ObRs (Z w os b1 b2) (Hc w n t g A X c tc q tq tz vs ep ps r hi tl th t2 o)):Does (Z w os b1 b2) (.call (.ref 105) ⟨[.ref (A+310),.ref (X+310),.int 0 tz,.none],[]⟩) (Ab [kF,kL,kF,kF,kB] S 0) (([(A+310,Aa vs ep),(X+310,Bc c tc q tq)])++ps) (n+310) (t+598) g (.ok (.ret (.int r tl))) (([(A+310,Aa vs ep),(X+310,Bc c tc q tq)])++ps) (n+311) (t2+598) g:=
 Bo 67 A40 [0,1] hL (by decide) (fun p=>congrFun (Aam w os S n t g A X c tc q tq tz vs ep ps r hi tl th t2 o  b1 b2) p)
theorem U6(n t g A X:Nat)(c:Int)(tc:Nat)(q:Int)(tq:Nat)(vs:Array Value)(ep:Nat)(ps:LO)(r:Int)(tk t2:Nat)(b1 b2:Bool) (hL:ObRs (Z w os b1 b2) [qP (some [kF,kL,kF,kF,kB]) (.call (.ref 105) ⟨[.ref (A+310),.ref (X+310),.int 0 299,.none],[]⟩) [(A+310,Aa vs ep),(X+310,Bc c tc q tq)] ps ps (n+311) (t+603) g (.ok (.ret (.int r tk))) [0,1] [Aa vs ep,Bc c tc q tq] [] (n+312) (t2+598) g,qC (.call (.builtin "list.insert") ⟨[.ref (A+310),.int r tk,.ref (X+310)],[]⟩) [(A+310,(Aa vs ep))] (n+312) (t2+599) g (.ok (.ret (.none))) [0] [(Aa (Gl vs r.toNat (Value.ref (X+310))) (ep+1))] [] (n+312) (t2+599) g]):Does (Z w os b1 b2) (.call (.ref 96) ⟨[.ref (A+310),.ref (X+310)],[]⟩) (Ab [kL,kF,kF,kB] S 0) (([(A+310,Aa vs ep),(X+310,Bc c tc q tq)])++ps) (n+310) (t+598) g (.ok (.ret (.none))) (([(A+310,Aa (Gl vs r.toNat (.ref (X+310))) (ep+1)),(X+310,Bc c tc q tq)])++ps) (n+312) (t2+599) g:=
 L4 71 0x8408081020410204020420408100840004204081020408102040204081 [0,1] hL
section
def Bx(L:List CE):LO:=L.map CE.ob
def Cp (L:List (Int×Int)) (c q:Int) (m:Int):Bool:=match L[m.toNat]? with
 |some e=>!Km c q e.1 e.2
 |none=>false
noncomputable def Bp(L:List CE):List (Int×Int):=L.map fun e=>(e.c,e.q)
theorem Y8{L:List CE}{j:Nat}(h:j < L.length):(B8 L)[j]?=some (.ref (L[j].y+310)):=by simp [B8,h]
theorem Oa(L:List CE):(B8 L).size=L.length:=by simp [B8]
theorem Xs{L:List CE}{j:Nat}(h:j < L.length):(Bx L).Perm (L[j].ob::(Bx L).eraseIdx j):=by
 have hl:j < (Bx L).length:=by simpa [Bx] using h
 have:=L3 (Bx L) j hl
 have e:(Bx L)[j]=L[j].ob:=by simp [Bx]
 rw [e] at this
 exact this.symm
theorem X8{L:List CE}{c q m:Int}(h:m.toNat < L.length):Cp (Bp L) c q m=!Km c q L[m.toNat].c L[m.toNat].q:=by
 unfold Cp Bp
 rw [List.getElem?_map,List.getElem?_eq_getElem h];rfl
theorem O5{α:Type}{a b c t:α}{C C':List α} (h:C.Perm (t::C')):([a,b,c,t]++C').Perm ([a,b,c]++C):=by
 show ([a,b,c]++(t::C')).Perm _
 exact List.Perm.append_left _ h.symm
section
variable {w:World}{os:OsState}(b1 b2:Bool)
theorem A77(f:BK)(L:List CE)(hne:∀e∈L,f.q≠e.q)(hz:L.length≤1000)(k:Nat):∀(n t g:Nat) (lo hi:Int) (tl th:Nat) (o:OV),0≤lo→hi≤L.length→hi - lo≤k →
  ∃(t' tl':Nat) (hi':Int) (th':Nat) (o':OV),∀S,Does (Z w os b1 b2) (Hz w.params f.L) (Ab Ge S 0) ([(f.L+310,E8 w.params f lo tl hi th o),(f.A+310,Aa (B8 L) f.ep),(f.X+310,Bc f.c f.tc f.q f.tq)]++Bx L) (n+310) (t+598) g (.ok .next)
   ([(f.L+310,E8 w.params f (Cz (Cp (Bp L) f.c f.q) k lo hi) tl' hi' th' o'),(f.A+310,Aa (B8 L) f.ep),(f.X+310,Bc f.c f.tc f.q f.tq)]++Bx L) (n+310) (t'+598) g:=by
 induction k with
 |zero=>
  intro n t g lo hi tl th o h0 h1 h2
  refine Ca t tl hi th o (fun S=>?_)
  exact Mx n t g f (B8 L) lo hi tl th o (Bx L) b1 b2 ⟨Dm (decide_eq_false (A1t h2)),trivial⟩
 |succ k ih=>
  intro n t g lo hi tl th o h0 h1 h2
  unfold Cz
  by_cases hlt:lo < hi
  ·rw [if_pos hlt]
   obtain ⟨m1,m2⟩:=Lo hlt
   have hj:((lo+hi).fdiv 2).toNat < L.length:=by exact Aju h0 h1 hlt m2
   generalize hm:(lo+hi).fdiv 2=m at *
   have hx:=Y8 hj
   have hn:=hne L[m.toNat] (List.getElem_mem hj)
   rw [X8 hj]
   have pm:=Xs hj
   generalize L[m.toNat]=e at *
   have ob:Ed (Z w os b1 b2) (qC (Ww (f.A+310) m (t+600)) [(f.A+310,Aa (B8 L) f.ep)] (n+310) (t+602) g (.ok (.ret (.ref (e.y+310)))) [1] [Aa (B8 L) f.ep] [] (n+310) (t+602) g):=
    Ae fun bl=>Ba (J9 h0 m1) (by lia) hx
   cases hc:Km f.c f.q e.c e.q with
   |true=>
    rw [if_neg (by decide)]
    refine Af fun Gz hGz=>?_
    obtain ⟨t',tl',hi',th',o',D⟩:=ih n (t+5) g lo m tl (t+600) (.s (o.key (t+601)) (.int m (t+600))) h0 (A1u h1 m2) (A4r h2 m2)
    refine hGz ?_
    refine Ca t' tl' hi' th' o' (fun S=>?_)
    have D1:=(D S).perm (O5 pm).symm (List.Perm.refl _)
    subst hm
    exact (Vr n t g f (B8 L) lo hi tl th o ((Bx L).eraseIdx _) e b1 b2 ⟨Dm (decide_eq_true hlt),Aw,C4 rfl (Fi _),ob,Ae (fun bl=>Pu hn hc),trivial⟩ D1).perm (O5 pm) (List.Perm.refl _)
   |false=>
    rw [if_pos (by decide)]
    refine Af fun Gz hGz=>?_
    obtain ⟨t',tl',hi',th',o',D⟩:=ih n (t+7) g (m+1) hi (t+603) th (.s (o.key (t+601)) (.int m (t+600))) (A2l h0 m1) h1 (Wk h2 m1)
    refine hGz ?_
    refine Ca t' tl' hi' th' o' (fun S=>?_)
    have D1:=(D S).perm (O5 pm).symm (List.Perm.refl _)
    subst hm
    exact (Vu n t g f (B8 L) lo hi tl th o ((Bx L).eraseIdx _) e b1 b2 ⟨Dm (decide_eq_true hlt),Aw,C4 rfl (Fi _),ob,Ae (fun bl=>Pu hn hc),Aw,trivial⟩ D1).perm (O5 pm) (List.Perm.refl _)
  ·rw [if_neg hlt]
   exact Ca t tl hi th o (fun S=>Mx n t g f (B8 L) lo hi tl th o (Bx L) b1 b2 ⟨Dm (decide_eq_false hlt),trivial⟩)
def spotC (L:List (Int×Int)) (c q:Int):Nat:=(Dh (Cp L c q) L.length).toNat
noncomputable def CE.ins(L:List CE)(k:Nat)(e:CE):List CE:=L.take k++e::L.drop k
theorem Yu(L:List CE)(k:Nat)(e:CE):Gl (B8 L) k (.ref (e.y+310))=B8 (CE.ins L k e):=by
 apply Array.toList_inj.mp
 unfold Gl B8 CE.ins
 simp only [List.map_append,List.map_cons,List.map_take,List.map_drop,Array.toList_append,Array.toList_push,Array.toList_extract,List.extract_eq_take_drop,List.drop_zero,Nat.sub_zero,List.append_assoc,List.singleton_append,List.size_toArray,List.length_map]
 rw [List.take_of_length_le (l:=List.drop k _) (by simp)]
theorem Pe(n t g A X:Nat)(c:Int)(tc:Nat)(q:Int)(tq ep:Nat)(L:List CE)(hne:∀e∈L,q≠e.q)(hz:L.length≤1000):
  ∃t',∀S,Does (Z w os b1 b2) (.call (.ref 96) ⟨[.ref (A+310),.ref (X+310)],[]⟩) (Ab [kL,kF,kF,kB] S 0) ([(A+310,Aa (B8 L) ep),(X+310,Bc c tc q tq)]++Bx L) (n+310) (t+598) g (.ok (.ret .none))
   ([(A+310,Aa (B8 (CE.ins L (spotC (Bp L) c q) ⟨X,c,tc,q,tq⟩)) (ep+1)),(X+310,Bc c tc q tq)]++Bx L) (n+312) (t'+598) g:=by
 have hs:=Oa L
 have hp:=Nq (Cp (Bp L) c q) L.length
 refine Af fun Gz hGz=>?_
 refine Agt (A77 (w:=w) (os:=os) b1 b2 (bkF (n+1) (t+5) A X c tc q tq ep) L hne hz L.length (n+2) (t+5+9) g 0 L.length 299 (t+5+605) .n Bs A0v A0v) fun t1 tl hi th o D=>?_
 refine hGz ?_
 refine ⟨t1+1,fun S=>?_⟩
 have D2:∀S,Does (Z w os b1 b2) (.call (.ref 105) ⟨[.ref (A+310),.ref (X+310),.int 0 299,.none],[]⟩) (Ab [kF,kL,kF,kF,kB] S 0) ([(A+310,Aa (B8 L) ep),(X+310,Bc c tc q tq)]++Bx L) (n+311) (t+603) g (.ok (.ret (.int (Dh (Cp (Bp L) c q) L.length) tl))) ([(A+310,Aa (B8 L) ep),(X+310,Bc c tc q tq)]++Bx L) (n+312) (t1+598) g:=fun S=>
  Tl (n+1) (t+5) g A X c tc q tq 299 (B8 L) ep (Bx L) (Dh (Cp (Bp L) c q) L.length) hi tl th t1 o b1 b2
   ⟨Ae fun bl=>Bw (by lia),B0 newer.same (by rw [hs];exact D),trivial⟩
 have R:=U6 (w:=w) (os:=os) (S:=S) n t g A X c tc q tq (B8 L) ep (Bx L) (Dh (Cp (Bp L) c q) L.length) tl t1 b1 b2
  ⟨B0 newer.same D2,Ae (fun bl=>U5 hp.1 (Aij hp hs) (by lia) (by rw [hs];exact Nat.le_trans hz (by decide))),trivial⟩
 have hl:(Bp L).length=L.length:=by simp [Bp]
 unfold spotC
 rw [hl,← Yu]
 exact R
end
end
def Ex(a:Int)(ta n t g:Nat):Ah:=qD (.call (.builtin "int.__neg__") ⟨[.int a ta],[]⟩) (.int (-a) t) 1 n t g
theorem Ef{z:Zed}{a:Int}{ta n t g:Nat}:Ed z (Ex a ta n t g):=Fa fun A s R e h=>Al F.slot_int_neg (typeIs_int s a ta) F.entry_int_neg (F.args_int_neg_1 _) (AutoIntG9.int___neg___int_0 a ta).meets (by subst e;exact h)
def Pf(P:Params):FuncData:=Fe (Wu P)
def Ln(P:Params)(L it:Nat):Code:=Es (As (Bi (Pf P)) 1) (.ref (it+310)) (C9 (Pf P) 285 (L+310))
def Gf(P:Params)(L it:Nat):Code:=Es (As (Bi (Pf P)) 3) (.ref (it+310)) (C9 (Pf P) 285 (L+310))
def Lz(P:Params)(L it:Nat):Code:=Es (As (Bi (Pf P)) 6) (.ref (it+310)) (C9 (Pf P) 285 (L+310))
def clE(P:Params):Expr:=Rg (As (Bi (Pf P)) 4)
def clV(P:Params)(L D:Nat):Env:=E6 (clE P) (C9 (Pf P) 285 (L+310)) (D+310) []
def clC(P:Params)(L it acc D:Nat):Code:=.compStart (clE P) 0 (.ref (it+310)) (.ref (acc+310)) (clV P L D)
def Lk(P:Params)(L it acc D:Nat):Code:=.compLoop (clE P) 0 (.ref (it+310)) (.ref (acc+310)) (clV P L D)
structure ClK where
 L:Nat
 V:Nat
 k1:Nat
 k2:Nat
 k3:Nat
 k4:Nat
 s:Int
 ts:Nat
 a:Int
 ta:Nat
def Mq(P:Params)(f:ClK)(F:Int)(tF:Nat)(o:OV):Obj:=match o with
 |.n=>B4 #[kv P "votes" f.k1 (.ref (f.V+310)),kv P "seats" f.k2 (.int f.s f.ts),kv P "ahead" f.k3 (.int f.a f.ta),kv P "parts" f.k4 (.int F tF)] 4
 |.s k v=>B4 #[kv P "votes" f.k1 (.ref (f.V+310)),kv P "seats" f.k2 (.int f.s f.ts),kv P "ahead" f.k3 (.int f.a f.ta),kv P "parts" f.k4 (.int F tF),kv P "number" k v] 5
structure ClJ where
 F:Int
 tF:Nat
 k5:Nat
 v5:Value
 A:Nat
 k6:Nat
def Hp(P:Params)(f:ClK)(j:ClJ)(o:OV):Obj:=match o with
 |.n=>B4 #[kv P "votes" f.k1 (.ref (f.V+310)),kv P "seats" f.k2 (.int f.s f.ts),kv P "ahead" f.k3 (.int f.a f.ta),kv P "parts" f.k4 (.int j.F j.tF),kv P "number" j.k5 j.v5,kv P "claims" j.k6 (.ref (j.A+310))] 6
 |.s k v=>B4 #[kv P "votes" f.k1 (.ref (f.V+310)),kv P "seats" f.k2 (.int f.s f.ts),kv P "ahead" f.k3 (.int f.a f.ta),kv P "parts" f.k4 (.int j.F j.tF),kv P "number" j.k5 j.v5,kv P "claims" j.k6 (.ref (j.A+310)),kv P "party" k v] 7
structure ClH where
 k7:Nat
 G:Nat
 k8:Nat
 R:Nat
 k9:Nat
def Lr(P:Params)(f:ClK)(j:ClJ)(h:ClH)(v:Value)(o:OV):Obj:=match o with
 |.n=>B4 #[kv P "votes" f.k1 (.ref (f.V+310)),kv P "seats" f.k2 (.int f.s f.ts),kv P "ahead" f.k3 (.int f.a f.ta),kv P "parts" f.k4 (.int j.F j.tF),kv P "number" j.k5 j.v5,kv P "claims" j.k6 (.ref (j.A+310)),kv P "party" h.k7 v,kv P "got" h.k8 (.ref (h.G+310)),kv P "row" h.k9 (.ref (h.R+310))] 9
 |.s k x=>B4 #[kv P "votes" f.k1 (.ref (f.V+310)),kv P "seats" f.k2 (.int f.s f.ts),kv P "ahead" f.k3 (.int f.a f.ta),kv P "parts" f.k4 (.int j.F j.tF),kv P "number" j.k5 j.v5,kv P "claims" j.k6 (.ref (j.A+310)),kv P "party" h.k7 v,kv P "got" h.k8 (.ref (h.G+310)),kv P "row" h.k9 (.ref (h.R+310)),kv P "turn" k x] 10
def Jz(w:World)(n t g it:Nat)(f:ClK)(F:Int)(tF:Nat)(o:OV)(i left:Int):List Ah:=[Q0 it i left n t g (.ok (.ret (.int i (t+598)))) 1 (i+1) (left - 1) [] 310 599,
 Dn F tF i (t+598) (n+310) (t+600) g]
noncomputable def Aaf(w:World)(os:OsState)(S:Nat→Slot)(n:Nat)(t:Nat)(g:Nat)(it:Nat)(f:ClK)(F:Int)(tF:Nat)(i:Int)(left:Int)(o:OV)(b1 b2:Bool):Ao:=B7 (Ak (Z w os b1 b2) (Ab [kF,kF,kB] S 0) 23 (Ln w.params f.L it) ([(f.L+310,Mq w.params f F tF o),(it+310,Ac i left 1)]) (n+310) (t+598) g A3m (Jz w n t g it f F tF o i left) []) [0,1] (Jz w n t g it f F tF o i left)
noncomputable def Adt(w:World)(os:OsState)(S:Nat→Slot)(n:Nat)(t:Nat)(g:Nat)(it:Nat)(f:ClK)(F:Int)(tF:Nat)(i:Int)(left:Int)(o:OV)(b1 b2:Bool):Ao:=B6 (Ak (Z w os b1 b2) (Ab [kF,kF,kB] S 0) 23 (Ln w.params f.L it) ([(f.L+310,Mq w.params f F tF o),(it+310,Ac i left 1)]) (n+310) (t+598) g A3m (Jz w n t g it f F tF o i left) []) (.again (Ln w.params f.L it)) ([(f.L+310,Mq w.params f (F*i) (t+600) (.s (o.key (t+599)) (.int i (t+598)))),(it+310,Ac (i+1) (left-1) 1)]) ([]) (n+310) (t+602) g (Jz w n t g it f F tF o i left)
theorem Aj6(w:World)(os:OsState)(S:Nat→Slot)(n:Nat)(t:Nat)(g:Nat)(it:Nat)(f:ClK)(F:Int)(tF:Nat)(i:Int)(left:Int)(o:OV):∀(b1 b2:Bool),Aaf w os S n t g it f F tF i left o b1 b2=Adt w os S n t g it f F tF i left o b1 b2
 |false,_=>by cases o<;>kernel_rfl
 |true,_=>by cases o<;>kernel_rfl
theorem A05(n t g it:Nat)(f:ClK)(F:Int)(tF:Nat)(o:OV)(i left:Int)(b1 b2:Bool) (hL:ObRs (Z w os b1 b2) (Jz w n t g it f F tF o i left))
  (next:Does (Z w os b1 b2) (Ln w.params f.L it) (Ab [kF,kF,kB] S 0) ([(f.L+310,Mq w.params f (F*i) (t+600) (.s (o.key (t+599)) (.int i (t+598)))),(it+310,Ac (i+1) (left-1) 1)]) (n+310) (t+602) g res l' n' t' g'):Does (Z w os b1 b2) (Ln w.params f.L it) (Ab [kF,kF,kB] S 0) ([(f.L+310,Mq w.params f F tF o),(it+310,Ac i left 1)]) (n+310) (t+598) g res l' n' t' g':=
 B2 23 A3m [0,1] hL next (by kernel_rfl) (by decide) (fun p=>congrFun (Aj6 w os S n t g it f F tF i left o  b1 b2) p)
theorem Wi(n t g L it:Nat)(i:Int)(b1 b2:Bool) (hL:ObRs (Z w os b1 b2) [Q0 it i 0 n t g (.error (.ref (n+311))) 0 i 0 [(n+310,Cg #[]),(n+311,(At ((n+310).add 0)))] 312 598]):Does (Z w os b1 b2) (Ln w.params L it) (Ab [kF,kF,kB] S 0) ([(it+310,Ac i 0 1)]) (n+310) (t+598) g (.ok .next) ([(it+310,(Ac i 0 1))]) (n+312) (t+598) g:=
 Ce 5 0x10082 [0] hL
theorem Wp(n t g L it:Nat)(i:Int)(b1 b2:Bool) (hL:ObRs (Z w os b1 b2) [Q0 it i 0 n t g (.error (.ref (n+311))) 0 i 0 [(n+310,Cg #[]),(n+311,(At ((n+310).add 0)))] 312 598]):Does (Z w os b1 b2) (Gf w.params L it) (Ab [kF,kF,kB] S 0) ([(it+310,Ac i 0 1)]) (n+310) (t+598) g (.ok .next) ([(it+310,(Ac i 0 1))]) (n+312) (t+598) g:=
 Ce 5 0x10082 [0] hL
theorem Wo(n t g L it:Nat)(i:Int)(b1 b2:Bool) (hL:ObRs (Z w os b1 b2) [Q0 it i 0 n t g (.error (.ref (n+311))) 0 i 0 [(n+310,Cg #[]),(n+311,(At ((n+310).add 0)))] 312 598]):Does (Z w os b1 b2) (Lz w.params L it) (Ab [kF,kF,kB] S 0) ([(it+310,Ac i 0 1)]) (n+310) (t+598) g (.ok .next) ([(it+310,(Ac i 0 1))]) (n+312) (t+598) g:=
 Ce 5 0x10082 [0] hL
abbrev Q31(f:ClK)(t:Nat)(n:Nat)(g:Nat) x0_:=(qC (.call (.builtin "int.__eq__") ⟨[.int f.a f.10,.int 0 (t+600)],[]⟩) [] (n+310) (t+601) g (.ok (.ret x0_)) [] [] [] (n+310) (t+601) g:Ah)
def Ij(w:World)(n t g it:Nat)(f:ClK)(j:ClJ)(o:OV)(i left:Int)(vs cs:Array Value)(ev ec:Nat)(ts:Nat)(sv:Int)(n2 t2 t3:Nat)(cs2:Array Value)(ps:LO):List Ah:=[Q0 it i left n t g (.ok (.ret (.int i (t+598)))) 1 (i+1) (left - 1) [] 310 599,
 Q31 f t n g (.bool true),
 qC (.call (.builtin "sum") ⟨[.ref (f.2+310)],[]⟩) [(f.2+310,Ax vs ev)] (n+310) (t+601) g (.ok (.ret (.int sv ts))) [2] [(Aa vs ev)] [] (n2+310) (t2+598) g,
 Dn sv ts j.F j.2 (n2+310) (t2+598) g,
 B5 (sv*j.F) (t2+598) 1 (t2+599) (n2+310) (t2+600) g,
 Ex i (t+598) (n2+310) (t2+601) g,
 qP (some [kL,kF,kF,kB]) (.call (.ref 96) ⟨[.ref (j.A+310),.ref (n2+310)],[]⟩) [(j.A+310,Aa cs ec),(n2+310,Bc (sv*j.F+1) (t2+600) (-i) (t2+601))] ps ps (n2+311) (t2+602) g (.ok (.ret .none)) [3,4] [Aa cs2 (ec+1),Bc (sv*j.F+1) (t2+600) (-i) (t2+601)] [] (n2+313) (t3+598) g]
noncomputable def A98(w:World)(os:OsState)(S:Nat→Slot)(n:Nat)(t:Nat)(g:Nat)(it:Nat)(f:ClK)(j:ClJ)(i:Int)(left:Int)(vs:Array Value)(cs:Array Value)(ev:Nat)(ec:Nat)(ts:Nat)(sv:Int)(n2:Nat)(t2:Nat)(t3:Nat)(cs2:Array Value)(ps:LO)(o:OV)(b1 b2:Bool):Ao:=B7 (Ak (Z w os b1 b2) (Ab [kF,kF,kB] S 0) 47 (Gf w.params f.L it) ([(f.L+310,Hp w.params f j o),(it+310,Ac i left 1),(f.V+310,Aa vs ev),(j.A+310,Aa cs ec)]) (n+310) (t+598) g A4t (Ij w n t g it f j o i left vs cs ev ec ts sv n2 t2 t3 cs2 ps) ps) [0,1,2,3,4] (Ij w n t g it f j o i left vs cs ev ec ts sv n2 t2 t3 cs2 ps)
noncomputable def A84(w:World)(os:OsState)(S:Nat→Slot)(n:Nat)(t:Nat)(g:Nat)(it:Nat)(f:ClK)(j:ClJ)(i:Int)(left:Int)(vs:Array Value)(cs:Array Value)(ev:Nat)(ec:Nat)(ts:Nat)(sv:Int)(n2:Nat)(t2:Nat)(t3:Nat)(cs2:Array Value)(ps:LO)(o:OV)(b1 b2:Bool):Ao:=B6 (Ak (Z w os b1 b2) (Ab [kF,kF,kB] S 0) 47 (Gf w.params f.L it) ([(f.L+310,Hp w.params f j o),(it+310,Ac i left 1),(f.V+310,Aa vs ev),(j.A+310,Aa cs ec)]) (n+310) (t+598) g A4t (Ij w n t g it f j o i left vs cs ev ec ts sv n2 t2 t3 cs2 ps) ps) (.again (Gf w.params f.L it)) ([(f.L+310,Hp w.params f j (.s (o.key (t+599)) (.int i (t+598)))),(it+310,Ac (i+1) (left-1) 1),(f.V+310,Aa vs ev),(j.A+310,Aa cs2 (ec+1)),(n2+310,Bc (sv*j.F+1) (t2+600) (-i) (t2+601))]) ps (n2+313) (t3+598) g (Ij w n t g it f j o i left vs cs ev ec ts sv n2 t2 t3 cs2 ps)
theorem Afq(w:World)(os:OsState)(S:Nat→Slot)(n:Nat)(t:Nat)(g:Nat)(it:Nat)(f:ClK)(j:ClJ)(i:Int)(left:Int)(vs:Array Value)(cs:Array Value)(ev:Nat)(ec:Nat)(ts:Nat)(sv:Int)(n2:Nat)(t2:Nat)(t3:Nat)(cs2:Array Value)(ps:LO)(o:OV):∀(b1 b2:Bool),A98 w os S n t g it f j i left vs cs ev ec ts sv n2 t2 t3 cs2 ps o b1 b2=A84 w os S n t g it f j i left vs cs ev ec ts sv n2 t2 t3 cs2 ps o b1 b2
 |false,_=>by cases o<;>kernel_rfl
 |true,_=>by cases o<;>kernel_rfl
theorem Vv(n t g it:Nat)(f:ClK)(j:ClJ)(o:OV)(i left:Int)(vs cs:Array Value)(ev ec:Nat)(ts:Nat)(sv:Int)(n2 t2 t3:Nat)(cs2:Array Value)(ps:LO)(b1 b2:Bool) (hL:ObRs (Z w os b1 b2) (Ij w n t g it f j o i left vs cs ev ec ts sv n2 t2 t3 cs2 ps))
  (next:Does (Z w os b1 b2) (Gf w.params f.L it) (Ab [kF,kF,kB] S 0) (([(f.L+310,Hp w.params f j (.s (o.key (t+599)) (.int i (t+598)))),(it+310,Ac (i+1) (left-1) 1),(f.V+310,Aa vs ev),(j.A+310,Aa cs2 (ec+1)),(n2+310,Bc (sv*j.F+1) (t2+600) (-i) (t2+601))])++ps) (n2+313) (t3+598) g res l' n' t' g'):Does (Z w os b1 b2) (Gf w.params f.L it) (Ab [kF,kF,kB] S 0) (([(f.L+310,Hp w.params f j o),(it+310,Ac i left 1),(f.V+310,Aa vs ev),(j.A+310,Aa cs ec)])++ps) (n+310) (t+598) g res l' n' t' g':=
 Bz 47 A4t [0,1,2,3,4] hL next (by kernel_rfl) (by decide) (fun p=>congrFun (Afq w os S n t g it f j i left vs cs ev ec ts sv n2 t2 t3 cs2 ps o  b1 b2) p)
def I9(w:World)(n t g it:Nat)(f:ClK)(j:ClJ)(o:OV)(i left:Int)(vs cs:Array Value)(ev ec:Nat)(ts:Nat)(sv:Int)(n2 t2 t3:Nat)(cs2:Array Value)(ps:LO):List Ah:=[Q0 it i left n t g (.ok (.ret (.int i (t+598)))) 1 (i+1) (left - 1) [] 310 599,
 Q31 f t n g (.bool false),
 qC (.call (.builtin "list.__getitem__") ⟨[.ref (f.2+310),.int i (t+598)],[]⟩) [(f.2+310,Ax vs ev)] (n+310) (t+601) g (.ok (.ret (.int sv ts))) [2] [(Aa vs ev)] [] (n+310) (t+601) g,
 Dn sv ts j.F j.2 (n+310) (t+601) g,
 Ex i (t+598) (n+310) (t+602) g,
 qP (some [kL,kF,kF,kB]) (.call (.ref 96) ⟨[.ref (j.A+310),.ref (n+310)],[]⟩) [(j.A+310,Aa cs ec),(n+310,Bc (sv*j.F) (t+601) (-i) (t+602))] ps ps (n+311) (t+603) g (.ok (.ret .none)) [3,4] [Aa cs2 (ec+1),Bc (sv*j.F) (t+601) (-i) (t+602)] [] (n+313) (t3+598) g]
noncomputable def A7s(w:World)(os:OsState)(S:Nat→Slot)(n:Nat)(t:Nat)(g:Nat)(it:Nat)(f:ClK)(j:ClJ)(i:Int)(left:Int)(vs:Array Value)(cs:Array Value)(ev:Nat)(ec:Nat)(ts:Nat)(sv:Int)(n2:Nat)(t2:Nat)(t3:Nat)(cs2:Array Value)(ps:LO)(o:OV)(b1 b2:Bool):Ao:=B7 (Ak (Z w os b1 b2) (Ab [kF,kF,kB] S 0) 45 (Gf w.params f.L it) ([(f.L+310,Hp w.params f j o),(it+310,Ac i left 1),(f.V+310,Aa vs ev),(j.A+310,Aa cs ec)]) (n+310) (t+598) g A0t (I9 w n t g it f j o i left vs cs ev ec ts sv n2 t2 t3 cs2 ps) ps) [0,1,2,3,4] (I9 w n t g it f j o i left vs cs ev ec ts sv n2 t2 t3 cs2 ps)
noncomputable def A7t(w:World)(os:OsState)(S:Nat→Slot)(n:Nat)(t:Nat)(g:Nat)(it:Nat)(f:ClK)(j:ClJ)(i:Int)(left:Int)(vs:Array Value)(cs:Array Value)(ev:Nat)(ec:Nat)(ts:Nat)(sv:Int)(n2:Nat)(t2:Nat)(t3:Nat)(cs2:Array Value)(ps:LO)(o:OV)(b1 b2:Bool):Ao:=B6 (Ak (Z w os b1 b2) (Ab [kF,kF,kB] S 0) 45 (Gf w.params f.L it) ([(f.L+310,Hp w.params f j o),(it+310,Ac i left 1),(f.V+310,Aa vs ev),(j.A+310,Aa cs ec)]) (n+310) (t+598) g A0t (I9 w n t g it f j o i left vs cs ev ec ts sv n2 t2 t3 cs2 ps) ps) (.again (Gf w.params f.L it)) ([(f.L+310,Hp w.params f j (.s (o.key (t+599)) (.int i (t+598)))),(it+310,Ac (i+1) (left-1) 1),(f.V+310,Aa vs ev),(j.A+310,Aa cs2 (ec+1)),(n+310,Bc (sv*j.F) (t+601) (-i) (t+602))]) ps (n+313) (t3+598) g (I9 w n t g it f j o i left vs cs ev ec ts sv n2 t2 t3 cs2 ps)
theorem Afw(w:World)(os:OsState)(S:Nat→Slot)(n:Nat)(t:Nat)(g:Nat)(it:Nat)(f:ClK)(j:ClJ)(i:Int)(left:Int)(vs:Array Value)(cs:Array Value)(ev:Nat)(ec:Nat)(ts:Nat)(sv:Int)(n2:Nat)(t2:Nat)(t3:Nat)(cs2:Array Value)(ps:LO)(o:OV):∀(b1 b2:Bool),A7s w os S n t g it f j i left vs cs ev ec ts sv n2 t2 t3 cs2 ps o b1 b2=A7t w os S n t g it f j i left vs cs ev ec ts sv n2 t2 t3 cs2 ps o b1 b2
 |false,_=>by cases o<;>kernel_rfl
 |true,_=>by cases o<;>kernel_rfl
theorem Vc(n t g it:Nat)(f:ClK)(j:ClJ)(o:OV)(i left:Int)(vs cs:Array Value)(ev ec:Nat)(ts:Nat)(sv:Int)(n2 t2 t3:Nat)(cs2:Array Value)(ps:LO)(b1 b2:Bool) (hL:ObRs (Z w os b1 b2) (I9 w n t g it f j o i left vs cs ev ec ts sv n2 t2 t3 cs2 ps))
  (next:Does (Z w os b1 b2) (Gf w.params f.L it) (Ab [kF,kF,kB] S 0) (([(f.L+310,Hp w.params f j (.s (o.key (t+599)) (.int i (t+598)))),(it+310,Ac (i+1) (left-1) 1),(f.V+310,Aa vs ev),(j.A+310,Aa cs2 (ec+1)),(n+310,Bc (sv*j.F) (t+601) (-i) (t+602))])++ps) (n+313) (t3+598) g res l' n' t' g'):Does (Z w os b1 b2) (Gf w.params f.L it) (Ab [kF,kF,kB] S 0) (([(f.L+310,Hp w.params f j o),(it+310,Ac i left 1),(f.V+310,Aa vs ev),(j.A+310,Aa cs ec)])++ps) (n+310) (t+598) g res l' n' t' g':=
 Bz 45 A0t [0,1,2,3,4] hL next (by kernel_rfl) (by decide) (fun p=>congrFun (Afw w os S n t g it f j i left vs cs ev ec ts sv n2 t2 t3 cs2 ps o  b1 b2) p)
def Jh(w:World)(n t g it:Nat)(f:ClK)(j:ClJ)(h:ClH)(v:Value)(o:OV)(i left:Int)(vs cs cs2 gs rs:Array Value)(ev ec eg er:Nat)(e:CE)(gv sv gw:Int)(tgv tsv tgw t3:Nat)(ps:LO):List Ah:=[Q0 it i left n t g (.ok (.ret (.int i (t+598)))) 1 (i+1) (left - 1) [] 310 599,
 qC (.call (.builtin "list.pop") ⟨[.ref (j.5+310)],[]⟩) [(j.5+310,Ax (cs.push (Value.ref (e.y+310))) ec)] (n+310) (t+600) g (.ok (.ret (.ref (e.1+310)))) [3] [(Aa cs (ec+1))] [] (n+310) (t+600) g,
 Ex e.q e.5 (n+310) (t+601) g,
 qC (.call (.builtin "list.__getitem__") ⟨[.ref (h.2+310),.int (-e.q) (t+601)],[]⟩) [(h.2+310,Ax gs eg)] (n+310) (t+603) g (.ok (.ret (.int gv tgv))) [4] [(Aa gs eg)] [] (n+310) (t+603) g,
 B5 gv tgv 1 (t+603) (n+310) (t+604) g,
 qC (.call (.builtin "list.__setitem__") ⟨[.ref (h.2+310),.int (-e.q) (t+601),.int (gv+1) (t+604)],[]⟩) [(h.2+310,(Aa gs eg))] (n+310) (t+605) g (.ok (.ret (.none))) [4] [(Aa (gs.setIfInBounds (-e.q).toNat (Value.int (gv+1) (t+604))) eg)] [] (n+310) (t+605) g,
 qC (.call (.builtin "list.append") ⟨[.ref (h.4+310),.int (-e.q) (t+601)],[]⟩) [(h.4+310,Ax rs er)] (n+310) (t+605) g (.ok (.ret (.none))) [5] [(Aa (rs.push (Value.int (-e.q) (t+601))) (er+1))] [] (n+310) (t+605) g,
 qC (.call (.builtin "list.__getitem__") ⟨[.ref (f.2+310),.int (-e.q) (t+601)],[]⟩) [(f.2+310,Ax vs ev)] (n+310) (t+605) g (.ok (.ret (.int sv tsv))) [2] [(Aa vs ev)] [] (n+310) (t+605) g,
 qC (.call (.builtin "list.__getitem__") ⟨[.ref (h.2+310),.int (-e.q) (t+601)],[]⟩) [(h.2+310,(Aa (gs.setIfInBounds (-e.q).toNat (Value.int (gv+1) (t+604))) eg))] (n+310) (t+605) g (.ok (.ret (.int gw tgw))) [4] [(Aa (gs.setIfInBounds (-e.q).toNat (Value.int (gv+1) (t+604))) eg)] [] (n+310) (t+605) g,
 B5 gw tgw f.a f.10 (n+310) (t+605) g,
 C5 j.F j.2 (gw+f.a) (t+605) (n+310) (t+606) g,
 Dn sv tsv (j.F.fdiv (gw+f.a)) (t+606) (n+310) (t+607) g,
 Ex (-e.q) (t+601) (n+310) (t+608) g,
 qP (some [kL,kF,kF,kB]) (.call (.ref 96) ⟨[.ref (j.A+310),.ref (n+310)],[]⟩) [(j.A+310,Aa cs (ec+1)),(n+310,Bc (sv*j.F.fdiv (gw+f.a)) (t+607) (- -e.q) (t+608))] ps ps (n+311) (t+609) g (.ok (.ret .none)) [3,7] [Aa cs2 (ec+2),Bc (sv*j.F.fdiv (gw+f.a)) (t+607) (- -e.q) (t+608)] [] (n+313) (t3+598) g]
noncomputable def Abp(w:World)(os:OsState)(S:Nat→Slot)(n:Nat)(t:Nat)(g:Nat)(it:Nat)(f:ClK)(j:ClJ)(h:ClH)(v:Value)(i:Int)(left:Int)(vs:Array Value)(cs:Array Value)(cs2:Array Value)(gs:Array Value)(rs:Array Value)(ev:Nat)(ec:Nat)(eg:Nat)(er:Nat)(e:CE)(gv:Int)(sv:Int)(gw:Int)(tgv:Nat)(tsv:Nat)(tgw:Nat)(t3:Nat)(ps:LO)(o:OV)(b1 b2:Bool):Ao:=B7 (Ak (Z w os b1 b2) (Ab [kF,kF,kB] S 0) 116 (Lz w.params f.L it) ([(f.L+310,Lr w.params f j h v o),(it+310,Ac i left 1),(f.V+310,Aa vs ev),(j.A+310,Aa (cs.push (.ref (e.y+310))) ec),(h.G+310,Aa gs eg),(h.R+310,Aa rs er),(e.y+310,Bc e.c e.tc e.q e.tq)]) (n+310) (t+598) g A0p (Jh w n t g it f j h v o i left vs cs cs2 gs rs ev ec eg er e gv sv gw tgv tsv tgw t3 ps) ps) [0,1,2,3,4,5,7] (Jh w n t g it f j h v o i left vs cs cs2 gs rs ev ec eg er e gv sv gw tgv tsv tgw t3 ps)
noncomputable def Ae6(w:World)(os:OsState)(S:Nat→Slot)(n:Nat)(t:Nat)(g:Nat)(it:Nat)(f:ClK)(j:ClJ)(h:ClH)(v:Value)(i:Int)(left:Int)(vs:Array Value)(cs:Array Value)(cs2:Array Value)(gs:Array Value)(rs:Array Value)(ev:Nat)(ec:Nat)(eg:Nat)(er:Nat)(e:CE)(gv:Int)(sv:Int)(gw:Int)(tgv:Nat)(tsv:Nat)(tgw:Nat)(t3:Nat)(ps:LO)(o:OV)(b1 b2:Bool):Ao:=B6 (Ak (Z w os b1 b2) (Ab [kF,kF,kB] S 0) 116 (Lz w.params f.L it) ([(f.L+310,Lr w.params f j h v o),(it+310,Ac i left 1),(f.V+310,Aa vs ev),(j.A+310,Aa (cs.push (.ref (e.y+310))) ec),(h.G+310,Aa gs eg),(h.R+310,Aa rs er),(e.y+310,Bc e.c e.tc e.q e.tq)]) (n+310) (t+598) g A0p (Jh w n t g it f j h v o i left vs cs cs2 gs rs ev ec eg er e gv sv gw tgv tsv tgw t3 ps) ps) (.again (Lz w.params f.L it)) ([(f.L+310,Lr w.params f j h (.int (-e.q) (t+601)) (.s (o.key (t+599)) (.int i (t+598)))),(it+310,Ac (i+1) (left-1) 1),(f.V+310,Aa vs ev),(j.A+310,Aa cs2 (ec+2)),(h.G+310,Aa (gs.setIfInBounds (-e.q).toNat (.int (gv+1) (t+604))) eg),(h.R+310,Aa (rs.push (.int (-e.q) (t+601))) (er+1)),(n+310,Bc (sv*j.F.fdiv (gw+f.a)) (t+607) (- -e.q) (t+608))]) ps (n+313) (t3+598) g (Jh w n t g it f j h v o i left vs cs cs2 gs rs ev ec eg er e gv sv gw tgv tsv tgw t3 ps)
theorem Aj2(w:World)(os:OsState)(S:Nat→Slot)(n:Nat)(t:Nat)(g:Nat)(it:Nat)(f:ClK)(j:ClJ)(h:ClH)(v:Value)(i:Int)(left:Int)(vs:Array Value)(cs:Array Value)(cs2:Array Value)(gs:Array Value)(rs:Array Value)(ev:Nat)(ec:Nat)(eg:Nat)(er:Nat)(e:CE)(gv:Int)(sv:Int)(gw:Int)(tgv:Nat)(tsv:Nat)(tgw:Nat)(t3:Nat)(ps:LO)(o:OV):∀(b1 b2:Bool),Abp w os S n t g it f j h v i left vs cs cs2 gs rs ev ec eg er e gv sv gw tgv tsv tgw t3 ps o b1 b2=Ae6 w os S n t g it f j h v i left vs cs cs2 gs rs ev ec eg er e gv sv gw tgv tsv tgw t3 ps o b1 b2
 |false,_=>by cases o<;>kernel_rfl
 |true,_=>by cases o<;>kernel_rfl
theorem A0i(n t g it:Nat)(f:ClK)(j:ClJ)(h:ClH)(v:Value)(o:OV)(i left:Int)(vs cs cs2 gs rs:Array Value)(ev ec eg er:Nat)(e:CE)(gv sv gw:Int)(tgv tsv tgw t3:Nat)(ps:LO)(b1 b2:Bool) (hL:ObRs (Z w os b1 b2) (Jh w n t g it f j h v o i left vs cs cs2 gs rs ev ec eg er e gv sv gw tgv tsv tgw t3 ps))
  (next:Does (Z w os b1 b2) (Lz w.params f.L it) (Ab [kF,kF,kB] S 0) (([(f.L+310,Lr w.params f j h (.int (-e.q) (t+601)) (.s (o.key (t+599)) (.int i (t+598)))),(it+310,Ac (i+1) (left-1) 1),(f.V+310,Aa vs ev),(j.A+310,Aa cs2 (ec+2)),(h.G+310,Aa (gs.setIfInBounds (-e.q).toNat (.int (gv+1) (t+604))) eg),(h.R+310,Aa (rs.push (.int (-e.q) (t+601))) (er+1)),(n+310,Bc (sv*j.F.fdiv (gw+f.a)) (t+607) (- -e.q) (t+608))])++ps) (n+313) (t3+598) g res l' n' t' g'):Does (Z w os b1 b2) (Lz w.params f.L it) (Ab [kF,kF,kB] S 0) (([(f.L+310,Lr w.params f j h v o),(it+310,Ac i left 1),(f.V+310,Aa vs ev),(j.A+310,Aa (cs.push (.ref (e.y+310))) ec),(h.G+310,Aa gs eg),(h.R+310,Aa rs er),(e.y+310,Bc e.c e.tc e.q e.tq)])++ps) (n+310) (t+598) g res l' n' t' g':=
 Bz 116 A0p [0,1,2,3,4,5,7] hL next (by kernel_rfl) (by decide) (fun p=>congrFun (Aj2 w os S n t g it f j h v i left vs cs cs2 gs rs ev ec eg er e gv sv gw tgv tsv tgw t3 ps o  b1 b2) p)
def I1(w:World)(n t g c it acc D Lx i:Nat)(o:OV)(e:Nat)(ls:Array Value)(el:Nat)(xi:Int)(tx:Nat)(X:Nat→Value)(jj:Nat):List Ah:=[Q1 it Lx i ls el n t g (.ok (.ret (.int xi tx))) 1 (Ad (Lx+310) (i+1)) [] 310]
noncomputable def A8z(w:World)(os:OsState)(S:Nat→Slot)(n:Nat)(t:Nat)(g:Nat)(c:Nat)(it:Nat)(acc:Nat)(D:Nat)(Lx:Nat)(i:Nat)(e:Nat)(ls:Array Value)(el:Nat)(xi:Int)(tx:Nat)(X:Nat→Value)(o:OV)(jj:Nat)(b1 b2:Bool):Ao:=B7 (Ak (Z w os b1 b2) (Ab [kF,kF,kB] S 0) 18 (Lk w.params c it acc D) ([(it+310,Ad (Lx+310) i),(Lx+310,Aa ls el),(acc+310,Aa (Aq X jj) e),(D+310,Ai w.params "vote" o)]) (n+310) (t+598) g Ud (I1 w n t g c it acc D Lx i o e ls el xi tx X jj) []) [0,1,2,3] (I1 w n t g c it acc D Lx i o e ls el xi tx X jj)
noncomputable def A82(w:World)(os:OsState)(S:Nat→Slot)(n:Nat)(t:Nat)(g:Nat)(c:Nat)(it:Nat)(acc:Nat)(D:Nat)(Lx:Nat)(i:Nat)(e:Nat)(ls:Array Value)(el:Nat)(xi:Int)(tx:Nat)(X:Nat→Value)(o:OV)(jj:Nat)(b1 b2:Bool):Ao:=B6 (Ak (Z w os b1 b2) (Ab [kF,kF,kB] S 0) 18 (Lk w.params c it acc D) ([(it+310,Ad (Lx+310) i),(Lx+310,Aa ls el),(acc+310,Aa (Aq X jj) e),(D+310,Ai w.params "vote" o)]) (n+310) (t+598) g Ud (I1 w n t g c it acc D Lx i o e ls el xi tx X jj) []) (.again (Lk w.params c it acc D)) ([(it+310,Ad (Lx+310) (i+1)),(Lx+310,Aa ls el),(acc+310,Aa (Aq (Ck X jj (.int 0 (t+599))) (jj+1)) (e+1)),(D+310,Ai w.params "vote" (.s (o.key (t+598)) (.int xi tx)))]) ([]) (n+310) (t+600) g (I1 w n t g c it acc D Lx i o e ls el xi tx X jj)
theorem Agn(w:World)(os:OsState)(S:Nat→Slot)(n:Nat)(t:Nat)(g:Nat)(c:Nat)(it:Nat)(acc:Nat)(D:Nat)(Lx:Nat)(i:Nat)(e:Nat)(ls:Array Value)(el:Nat)(xi:Int)(tx:Nat)(X:Nat→Value)(o:OV)(jj:Nat)(hj:jj < 5):∀(b1 b2:Bool),A8z w os S n t g c it acc D Lx i e ls el xi tx X o jj b1 b2=A82 w os S n t g c it acc D Lx i e ls el xi tx X o jj b1 b2
 |false,_=>by obtain rfl |rfl |rfl |rfl |rfl:=Ez hj<;>cases o<;>kernel_rfl
 |true,_=>by obtain rfl |rfl |rfl |rfl |rfl:=Ez hj<;>cases o<;>kernel_rfl
theorem X6(n t g c it acc D Lx i:Nat)(o:OV)(e:Nat)(ls:Array Value)(el:Nat)(xi:Int)(tx:Nat)(X:Nat→Value)(jj:Nat)(hj:jj < 5)(b1 b2:Bool) (hL:ObRs (Z w os b1 b2) (I1 w n t g c it acc D Lx i o e ls el xi tx X jj))
  (next:Does (Z w os b1 b2) (Lk w.params c it acc D) (Ab [kF,kF,kB] S 0) ([(it+310,Ad (Lx+310) (i+1)),(Lx+310,Aa ls el),(acc+310,Aa (Aq (Ck X jj (.int 0 (t+599))) (jj+1)) (e+1)),(D+310,Ai w.params "vote" (.s (o.key (t+598)) (.int xi tx)))]) (n+310) (t+600) g res l' n' t' g'):Does (Z w os b1 b2) (Lk w.params c it acc D) (Ab [kF,kF,kB] S 0) ([(it+310,Ad (Lx+310) i),(Lx+310,Aa ls el),(acc+310,Aa (Aq X jj) e),(D+310,Ai w.params "vote" o)]) (n+310) (t+598) g res l' n' t' g':=
 B2 18 Ud [0,1,2,3] hL next (by kernel_rfl) (by decide) (fun p=>congrFun (Agn w os S n t g c it acc D Lx i e ls el xi tx X o jj hj b1 b2) p)
theorem W3(n t g c it acc D Lx i:Nat)(ls:Array Value)(el:Nat)(b1 b2:Bool) (hL:ObRs (Z w os b1 b2) [Q1 it Lx i ls el n t g (.error (.ref (n+311))) 1 (Ar i) [(n+310,Cg #[]),(n+311,(At ((n+310).add 0)))] 312]):Does (Z w os b1 b2) (Lk w.params c it acc D) (Ab [kF,kF,kB] S 0) ([(it+310,Ad (Lx+310) i),(Lx+310,Aa ls el)]) (n+310) (t+598) g (.ok .next) ([(it+310,(Ar i)),(Lx+310,(Aa ls el))]) (n+312) (t+598) g:=
 Ce 4 0x14082 [0,1] hL
noncomputable def A9d(b1 b2:Bool):Nat:=match b2 with
 |false=>11
 |true=>1
def A9w(b1 b2:Bool):Nat:=match b2 with
 |false=>Kb
 |true=>0
theorem Wz(n t g c it acc D Lx:Nat)(ls:Array Value)(el:Nat)(b1 b2:Bool) (hL:ObRs (Z w os b1 b2) [])
  (next:Does (Z w os b1 b2) (Lk w.params c it acc D) (Ab [kF,kF,kB] S 0) ([(it+310,Ad (Lx+310) 0),(Lx+310,Aa ls el),(acc+310,Aa #[] 0),(D+310,An #[] 0)]) (n+310) (t+598) g res l' n' t' g'):Does (Z w os b1 b2) (clC w.params c it acc D) (Ab [kF,kF,kB] S 0) ([(it+310,Ad (Lx+310) 0),(Lx+310,Aa ls el),(acc+310,Aa #[] 0),(D+310,An #[] 0)]) (n+310) (t+598) g res l' n' t' g':=
 E5 A9d A9w [0,1,2,3] hL next
noncomputable abbrev Mt(n t V:Nat)(s:Int)(ts:Nat)(a:Int)(ta:Nat):ClK:=⟨n,V,t+598,t+599,t+600,t+602,s,ts,a,ta⟩
noncomputable abbrev Uv(n:Nat)(F:Int)(tF k5:Nat)(v5:Value)(t2:Nat):ClJ:=⟨F,tF,k5,v5,n+5,t2+598⟩
noncomputable abbrev clH(kp n3 t4 n4:Nat):ClH:=⟨kp,n3+1,t4+598,n4,t4+599⟩
def Gx(w:World)(n t g V:Nat)(vs:Array Value)(ev:Nat)(s:Int)(ts:Nat)(a:Int)(ta:Nat)(F:Int)(tF:Nat)(k5:Nat)(v5:Value)(x:Int)(t2:Nat)(kp:Nat)(vp vq:Value)(x2 x3:Int)(cs cs2 gs gs2 rs:Array Value)(ec ec2 eg eg2 er:Nat)(n3 t3 i n4 t4 kk:Nat)(vv:Value)(o:OV)(n5 t5:Nat)(ps1 ps2:LO):List Ah:=[B5 s ts 2 (t+604) (n+311) (t+605) g,
 Q2 n 311 2 (t+603) (s+2) (t+605) t 606 312 607 g 2 2 (t+603) (s+2) (t+605) 313,
 qK [kF,kF,kB] (Ln w.params n (n+2)) [(n+310,Mq w.params (Mt n t V s ts a ta) 1 (t+601) .n),(n+312,Ac 2 (Builtin.Range.rangeSize 2 (s+2) 1) 1)] (n+313) (t+607) g (.ok .next) [1,3] [Mq w.params (Mt n t V s ts a ta) F tF (.s k5 v5),Ac x 0 1] [] (n+315) (t2+598) g,
 Pt V (Ax vs ev) n 316 t2 599 g vs 600 0 ev 601,
 Q9 n 316 (E3 "range" #[.int 0 (t2+601),.int (↑vs.size) (t2+600),.int 1 (t2+602)]) n 317 t2 603 g 5 0 t2 601 vs 600 602 318,
 qP (some [kF,kF,kB]) (Gf w.params n (n+7)) [(n+310,Hp w.params (Mt n t V s ts a ta) (Uv n F tF k5 v5 t2) .n),(n+317,Ac 0 (Builtin.Range.rangeSize 0 (vs.size:Int) 1) 1),(V+310,Aa vs ev),(n+315,Aa #[] 0)] [] ps1 (n+318) (t2+603) g (.ok .next) [1,6,0,4] [Hp w.params (Mt n t V s ts a ta) (Uv n F tF k5 v5 t2) (.s kp vp),Ac x2 0 1,Aa vs ev,Aa cs ec] [] (n3+310) (t3+598) g,
 qK [kF,kF,kB] (clC w.params n n3 (n3+1) (n3+2)) [(n3+310,Ad (V+310) 0),(V+310,Aa vs ev),(n3+311,Aa #[] 0),(n3+312,An #[] 0)] (n3+313) (t3+598) g (.ok .next) [7,0,8,9] [Ar i,Aa vs ev,Aa gs eg,Ai w.params "vote" (.s kk vv)] [] (n4+310) (t4+598) g,
 Q2 n4 311 0 (t4+600) ((Mt n t V s ts a ta).s) ts t4 601 312 602 g 11 0 (t4+600) s ts 313,
 qP (some [kF,kF,kB]) (Lz w.params n (n4+2)) [(n+310,Lr w.params (Mt n t V s ts a ta) (Uv n F tF k5 v5 t2) (clH kp n3 t4 n4) vp .n),(n4+312,Ac 0 (Builtin.Range.rangeSize 0 s 1) 1),(V+310,Aa vs ev),(n+315,Aa cs ec),(n3+311,Aa gs eg),(n4+310,Aa #[] 0)] ps1 ps2 (n4+313) (t4+602) g (.ok .next) [1,12,0,4,8,10] [Lr w.params (Mt n t V s ts a ta) (Uv n F tF k5 v5 t2) (clH kp n3 t4 n4) vq o,Ac x3 0 1,Aa vs ev,Aa cs2 ec2,Aa gs2 eg2,Aa rs er] [] (n5+310) (t5+598) g]
noncomputable def A2v(w:World)(os:OsState)(S:Nat→Slot)(n:Nat)(t:Nat)(g:Nat)(V:Nat)(vs:Array Value)(ev:Nat)(s:Int)(ts:Nat)(a:Int)(ta:Nat)(F:Int)(tF:Nat)(k5:Nat)(v5:Value)(x:Int)(t2:Nat)(kp:Nat)(vp:Value)(vq:Value)(x2:Int)(x3:Int)(cs:Array Value)(cs2:Array Value)(gs:Array Value)(gs2:Array Value)(rs:Array Value)(ec:Nat)(ec2:Nat)(eg:Nat)(eg2:Nat)(er:Nat)(n3:Nat)(t3:Nat)(i:Nat)(n4:Nat)(t4:Nat)(kk:Nat)(vv:Value)(n5:Nat)(t5:Nat)(ps1:LO)(ps2:LO)(o:OV)(b1 b2:Bool):Ao:=B7 (Ak (Z w os b1 b2) (Ab [kF,kB] S 0) 185 (.call (.ref 285) ⟨[.ref (V+310),.int s ts,.int a ta],[]⟩) ([(V+310,Aa vs ev)]) (n+310) (t+598) g A1b (Gx w n t g V vs ev s ts a ta F tF k5 v5 x t2 kp vp vq x2 x3 cs cs2 gs gs2 rs ec ec2 eg eg2 er n3 t3 i n4 t4 kk vv o n5 t5 ps1 ps2) []) [0,10] (Gx w n t g V vs ev s ts a ta F tF k5 v5 x t2 kp vp vq x2 x3 cs cs2 gs gs2 rs ec ec2 eg eg2 er n3 t3 i n4 t4 kk vv o n5 t5 ps1 ps2)
noncomputable def A20(w:World)(os:OsState)(S:Nat→Slot)(n:Nat)(t:Nat)(g:Nat)(V:Nat)(vs:Array Value)(ev:Nat)(s:Int)(ts:Nat)(a:Int)(ta:Nat)(F:Int)(tF:Nat)(k5:Nat)(v5:Value)(x:Int)(t2:Nat)(kp:Nat)(vp:Value)(vq:Value)(x2:Int)(x3:Int)(cs:Array Value)(cs2:Array Value)(gs:Array Value)(gs2:Array Value)(rs:Array Value)(ec:Nat)(ec2:Nat)(eg:Nat)(eg2:Nat)(er:Nat)(n3:Nat)(t3:Nat)(i:Nat)(n4:Nat)(t4:Nat)(kk:Nat)(vv:Value)(n5:Nat)(t5:Nat)(ps1:LO)(ps2:LO)(o:OV)(b1 b2:Bool):Ao:=B6 (Ak (Z w os b1 b2) (Ab [kF,kB] S 0) 185 (.call (.ref 285) ⟨[.ref (V+310),.int s ts,.int a ta],[]⟩) ([(V+310,Aa vs ev)]) (n+310) (t+598) g A1b (Gx w n t g V vs ev s ts a ta F tF k5 v5 x t2 kp vp vq x2 x3 cs cs2 gs gs2 rs ec ec2 eg eg2 er n3 t3 i n4 t4 kk vv o n5 t5 ps1 ps2) []) (.res (.ok (.ret (.ref (n4+310))))) ([(V+310,Aa vs ev),(n4+310,Aa rs er)]) ps2 (n5+310) (t5+598) g (Gx w n t g V vs ev s ts a ta F tF k5 v5 x t2 kp vp vq x2 x3 cs cs2 gs gs2 rs ec ec2 eg eg2 er n3 t3 i n4 t4 kk vv o n5 t5 ps1 ps2)
theorem Aej(w:World)(os:OsState)(S:Nat→Slot)(n:Nat)(t:Nat)(g:Nat)(V:Nat)(vs:Array Value)(ev:Nat)(s:Int)(ts:Nat)(a:Int)(ta:Nat)(F:Int)(tF:Nat)(k5:Nat)(v5:Value)(x:Int)(t2:Nat)(kp:Nat)(vp:Value)(vq:Value)(x2:Int)(x3:Int)(cs:Array Value)(cs2:Array Value)(gs:Array Value)(gs2:Array Value)(rs:Array Value)(ec:Nat)(ec2:Nat)(eg:Nat)(eg2:Nat)(er:Nat)(n3:Nat)(t3:Nat)(i:Nat)(n4:Nat)(t4:Nat)(kk:Nat)(vv:Value)(n5:Nat)(t5:Nat)(ps1:LO)(ps2:LO)(o:OV):∀(b1 b2:Bool),A2v w os S n t g V vs ev s ts a ta F tF k5 v5 x t2 kp vp vq x2 x3 cs cs2 gs gs2 rs ec ec2 eg eg2 er n3 t3 i n4 t4 kk vv n5 t5 ps1 ps2 o b1 b2=A20 w os S n t g V vs ev s ts a ta F tF k5 v5 x t2 kp vp vq x2 x3 cs cs2 gs gs2 rs ec ec2 eg eg2 er n3 t3 i n4 t4 kk vv n5 t5 ps1 ps2 o b1 b2
 |false,_=>by cases o<;>kernel_rfl
 |true,_=>by cases o<;>kernel_rfl
theorem Tq(n t g V:Nat)(vs:Array Value)(ev:Nat)(s:Int)(ts:Nat)(a:Int)(ta:Nat)(F:Int)(tF:Nat)(k5:Nat)(v5:Value)(x:Int)(t2:Nat)(kp:Nat)(vp vq:Value)(x2 x3:Int)(cs cs2 gs gs2 rs:Array Value)(ec ec2 eg eg2 er:Nat)(n3 t3 i n4 t4 kk:Nat)(vv:Value)(o:OV)(n5 t5:Nat)(ps1 ps2:LO)(b1 b2:Bool) (hL:ObRs (Z w os b1 b2) (Gx w n t g V vs ev s ts a ta F tF k5 v5 x t2 kp vp vq x2 x3 cs cs2 gs gs2 rs ec ec2 eg eg2 er n3 t3 i n4 t4 kk vv o n5 t5 ps1 ps2)):Does (Z w os b1 b2) (.call (.ref 285) ⟨[.ref (V+310),.int s ts,.int a ta],[]⟩) (Ab [kF,kB] S 0) (([(V+310,Aa vs ev)])++[]) (n+310) (t+598) g (.ok (.ret (.ref (n4+310)))) (([(V+310,Aa vs ev),(n4+310,Aa rs er)])++ps2) (n5+310) (t5+598) g:=
 Bo 185 A1b [0,10] hL (by decide) (fun p=>congrFun (Aej w os S n t g V vs ev s ts a ta F tF k5 v5 x t2 kp vp vq x2 x3 cs cs2 gs gs2 rs ec ec2 eg eg2 er n3 t3 i n4 t4 kk vv n5 t5 ps1 ps2 o  b1 b2) p)
section
theorem Vj{a b:Int}(h0:0≤b)(h1:b≤1000):IntMulOk a b:=by
 obtain ⟨j,rfl⟩:=Int.eq_ofNat_of_zero_le h0
 refine IntMulOk.of_right ?_
 have h:∀j:Nat,j < 1001→Builtin.Int.intBits (j:Int)≤64:=by decide +kernel
 exact h j (by lia)
noncomputable def facF:Nat→Nat→Nat→Nat
 |0,_,F=>F
 |k+1,i,F=>facF k (i+1) (F*i)
def Hm (L:List (Int×Int)) (c q:Int):List (Int×Int):=L.take (spotC L c q)++(c,q)::L.drop (spotC L c q)
noncomputable def Eu(V:List Nat)(F a p:Nat):Int:=if a=0 then (V.map Int.ofNat).sum*(F:Int)+1 else ((V.getD p 0:Nat):Int)*(F:Int)
def M5(V:List Nat)(F a:Nat):Nat→Nat→List (Int×Int)→List (Int×Int)
 |0,_,L=>L
 |k+1,p,L=>M5 V F a k (p+1) (Hm L (Eu V F a p) (-(p:Int)))
noncomputable def H5(V:List Nat)(F a p G:Nat):Int:=((V.getD p 0:Nat):Int)*(F:Int).fdiv ((G:Int)+(a:Int))
def Id(V:List Nat)(F a:Nat):Nat→List (Int×Int)→List Nat→List Nat→List Nat
 |0,_,_,r=>r
 |k+1,L,G,r=>match L.getLast? with
  |none=>r
  |some e=>Id V F a k (Hm L.dropLast (H5 V F a (-e.2).toNat (G.getD (-e.2).toNat 0+1)) e.2) (G.set (-e.2).toNat (G.getD (-e.2).toNat 0+1)) (r++[(-e.2).toNat])
theorem Nf(L:List CE)(X:Nat)(c:Int)(tc:Nat)(q:Int)(tq:Nat):Bp (CE.ins L (spotC (Bp L) c q) ⟨X,c,tc,q,tq⟩)=Hm (Bp L) c q:=by
 unfold CE.ins Hm
 simp only [Bp,List.map_append,List.map_cons,List.map_take,List.map_drop]
theorem Ie(L:List CE)(k:Nat)(e:CE):(CE.ins L k e).Perm (e::L):=by
 unfold CE.ins
 refine List.perm_middle.trans (.cons e ?_)
 rw [List.take_append_drop]
theorem Kz(L:List CE)(k:Nat)(e:CE):(Bx (CE.ins L k e)).Perm (e.ob::Bx L):=(Ie L k e).map _
theorem Kh(L:List CE)(k:Nat)(e:CE):(CE.ins L k e).length=L.length+1:=(Ie L k e).length_eq
section
variable {w:World}{os:OsState}(b1 b2:Bool)(g it:Nat)(f:ClK)
theorem Vn(k:Nat):∀(i n t tF F:Nat) (o:OV),i+k≤1000 →
  ∃(t' tF':Nat) (o':OV) (y:Int),(k=0→o'=o)∧(1≤k→∃c d,o'=.s c d) ∧
  ∀S,Does (Z w os b1 b2) (Ln w.params f.L it) (Ab [kF,kF,kB] S 0) [(f.L+310,Mq w.params f (F:Int) tF o),(it+310,Ac (i:Int) (k:Int) 1)] (n+310) (t+598) g (.ok .next)
   [(f.L+310,Mq w.params f ((facF k i F:Nat):Int) tF' o'),(it+310,Ac y 0 1)] (n+312) (t'+598) g:=by
 induction k with
 |zero=>
  intro i n t tF F o _
  refine Ci t tF o (i:Int) ⟨fun _=>rfl,fun h=>absurd h (by decide),fun S=>?_⟩
  have X:=(Wi (w:=w) (os:=os) (S:=S) n t g f.L it (i:Int) b1 b2 ⟨Ae (fun bl=>Bm (by decide)) (hn:=by simp),trivial⟩).frame [(f.L+310,Mq w.params f (F:Int) tF o)] newer.same
  exact X.perm (List.Perm.swap ..) (List.Perm.swap ..)
 |succ k ih=>
  intro i n t tF F o hi
  refine Af fun Gz hGz=>?_
  obtain ⟨t',tF',o',y,h1,h2,D⟩:=ih (i+1) n (t+4) (t+600) (F*i) (.s (o.key (t+599)) (.int (i:Int) (t+598))) (E0 hi)
  refine hGz ?_
  refine Ci t' tF' o' y ⟨fun h=>absurd h Hj,fun _=>?_,fun S=>?_⟩
  ·rcases Nat.eq_zero_or_pos k with hk | hk
   ·exact ⟨_,_,h1 hk⟩
   ·exact h2 hk
  ·have D:=D S
   rw [show ((i+1:Nat):Int)=(i:Int)+1 by exact Fq,show ((F*i:Nat):Int)=(F:Int)*(i:Int) from Int.natCast_mul F i] at D
   refine A05 (w:=w) (os:=os) (S:=S) n t g it f (F:Int) tF o (i:Int) ((k+1:Nat):Int) b1 b2
    ⟨Ae fun bl=>B1 Fl,Cy (Vj Bs (T6 hi)),trivial⟩ ?_
   rw [show (((k+1:Nat):Int) - 1)=(k:Int) by exact Fh]
   exact D
def Rf(P:Params)(f:ClK)(j:ClJ)(it:Nat)(o:OV)(i left:Int)(vs cs:Array Value)(ev ec:Nat):LO:=[(f.L+310,Hp P f j o),(it+310,Ac i left 1),(f.V+310,Aa vs ev),(j.A+310,Aa cs ec)]
structure COk (L:List CE) (V:List Nat) (n0:Nat):Prop where
 q:∀e∈L,∃p:Nat,p < V.length∧e.q=-(p:Int)
 nd:(L.map (·.q)).Nodup
 ad:∀e∈L,n0≤e.y
theorem COk.ins{L:List CE}{V:List Nat}{n0:Nat}(h:COk L V n0){e:CE}{k p:Nat}(hp:p < V.length) (hq:e.q=-(p:Int)) (hn:∀x∈L,e.q≠x.q) (hy:n0≤e.y):COk (CE.ins L k e) V n0:=by
 have P:=Ie L k e
 refine ⟨fun x hx=>?_,?_,fun x hx=>?_⟩
 ·rcases List.mem_cons.mp (P.mem_iff.mp hx) with rfl | hx
  ·exact ⟨p,hp,hq⟩
  ·exact h.q x hx
 ·rw [(P.map (·.q)).nodup_iff]
  rw [List.map_cons,List.nodup_cons]
  refine ⟨fun w=>?_,h.nd⟩
  refine Af fun Gz hGz=>?_
  obtain ⟨x,hx,e'⟩:=List.mem_map.mp w
  refine hGz ?_
  exact hn x hx e'.symm
 ·rcases List.mem_cons.mp (P.mem_iff.mp hx) with rfl | hx
  ·exact hy
  ·exact h.ad x hx
theorem Kw{α:Type}(A:List α){x:α}{C D:List α} (h:D.Perm (x::C)):((A++[x])++C).Perm (A++D):=by
 rw [List.append_assoc]
 exact List.Perm.append_left A h.symm
theorem U2(j:ClJ)(a F:Nat)(vs:Array Value)(ev:Nat)(V:List Nat) (hf:f.a=(a:Int)) (hj:j.F=(F:Int)) (hV:NatL vs V) (h6:∀v∈V,v≤6) (h5:V.length≤5) (n0:Nat) (k:Nat):∀(p n t:Nat) (o:OV) (L:List CE) (ec:Nat),p+k=V.length→L.length≤p→COk L V n0→(∀e∈L,-(p:Int) < e.q)→n0≤n →
  ∃(n' t':Nat) (o':OV) (y:Int) (L':List CE) (ec':Nat),n≤n'∧(k=0→o'=o)∧(1≤k→∃c d,o'=.s c d)∧Bp L'=M5 V F a k p (Bp L)∧COk L' V n0∧L'.length=L.length+k ∧
  ∀S,Does (Z w os b1 b2) (Gf w.params f.L it) (Ab [kF,kF,kB] S 0) (Rf w.params f j it o (p:Int) (k:Int) vs (B8 L) ev ec++Bx L) (n+310) (t+598) g (.ok .next)
   (Rf w.params f j it o' y 0 vs (B8 L') ev ec'++Bx L') (n'+310) (t'+598) g:=by
 induction k with
 |zero=>
  intro p n t o L ec hp hl hO hq hn
  refine D8 (n+2) t o (p:Int) L ec ⟨Er,fun _=>rfl,fun h=>absurd h (by decide),rfl,hO,rfl,fun S=>?_⟩
  have X:=(Wp (w:=w) (os:=os) (S:=S) n t g f.L it (p:Int) b1 b2 ⟨Ae (fun bl=>Bm (by decide)) (hn:=by simp),trivial⟩).frame ((f.L+310,Hp w.params f j o)::(f.V+310,Aa vs ev)::(j.A+310,Aa (B8 L) ec)::Bx L) newer.same
  exact X.perm (List.Perm.swap ..) (List.Perm.swap ..)
 |succ k ih=>
  intro p n t o L ec hp hl hO hq hn
  have hsum:∀M:List Nat,(M.map Int.ofNat).sum=((M.sum:Nat):Int):=by
   intro M
   induction M with
   |nil=>rfl
   |cons v M ih=>rw [List.map_cons,List.sum_cons,ih,List.sum_cons,Int.natCast_add];rfl
  have hs30:∀M:List Nat,(∀v∈M,v≤6)→M.sum≤6*M.length:=by
   intro M
   induction M with
   |nil=>intro _;exact Nat.le_refl _
   |cons v M ih=>
    intro h
    have:=ih fun x hx=>h x (.tail _ hx)
    have:=h v (.head _)
    rw [List.sum_cons,List.length_cons];lia
  have hne:∀e∈L,-(p:Int)≠e.q:=fun e he w=>by have:=hq e he;lia
  by_cases ha:a=0
  ·subst ha
   obtain ⟨t3,D3⟩:=Pe (w:=w) (os:=os) b1 b2 (n+5) (t+8+V.length) g j.A (n+4) (Eu V F 0 p) (t+604+V.length) (-(p:Int)) (t+605+V.length) ec L hne (by lia)
   let e:CE:=⟨n+4,Eu V F 0 p,t+604+V.length,-(p:Int),t+605+V.length⟩
   refine Af fun Gz hGz=>?_
   obtain ⟨n',t',o',y,L',ec',h1,h2,h3,h4,h5',h6',D⟩:=ih (p+1) (n+7) t3 (.s (o.key (t+599)) (.int (p:Int) (t+598))) (CE.ins L (spotC (Bp L) (Eu V F 0 p) (-(p:Int))) e) (ec+1) (E4 hp) (by rw [Kh];exact G2 hl) (hO.ins (p:=p) (E1 hp) rfl hne (by show n0≤n+4;exact Ey hn)) (fun x hx=>by
    rcases List.mem_cons.mp ((Ie ..).mem_iff.mp hx) with rfl | hx
    ·show -((p+1:Nat):Int) < -(p:Int);lia
    ·have:=hq x hx;lia) (Ey hn)
   rw [show Bp (CE.ins L (spotC (Bp L) (Eu V F 0 p) (-(p:Int))) e)=Hm (Bp L) (Eu V F 0 p) (-(p:Int)) from Nf ..] at h4
   refine hGz ?_
   refine D8 n' t' o' y L' ec' ⟨C6 h1,fun h=>absurd h Hj,fun _=>?_,h4,h5',by rw [h6',Kh];exact Dp,fun S=>?_⟩
   ·rcases Nat.eq_zero_or_pos k with hk | hk
    ·exact ⟨_,_,h2 hk⟩
    ·exact h3 hk
   ·have D:=D S
    unfold Rf at D ⊢
    rw [show ((p+1:Nat):Int)=(p:Int)+1 by exact Fq] at D
    have hI:IntsL vs (V.map Int.ofNat):=hV
    have hl2:(V.map Int.ofNat).length=V.length:=List.length_map ..
    have SM:=fun bl=>Nr (z:=Z w os b1 b2) (bl:=bl) (b:=f.V+310) (ep:=ev) (n:=n+310) (t:=t+601) (g:=g) hI
    rw [hl2] at SM
    have hc:(V.map Int.ofNat).sum*j.F+1=Eu V F 0 p:=by unfold Eu;rw [if_pos rfl,hj]
    have hs0:0≤(V.map Int.ofNat).sum∧(V.map Int.ofNat).sum≤1000:=by
     rw [hsum]
     have:=hs30 V h6
     lia
    refine Vv (w:=w) (os:=os) (S:=S) n t g it f j o (p:Int) ((k+1:Nat):Int) vs (B8 L) ev ec (t+601+V.length) (V.map Int.ofNat).sum (n+4) (t+4+V.length) t3 (B8 (CE.ins L (spotC (Bp L) (Eu V F 0 p) (-(p:Int))) e)) (Bx L) b1 b2
     ⟨Ae fun bl=>B1 Fl,Rb (by rw [hf];rfl),Ae fun bl=>?_,Cy (C1 hs0.1 hs0.2),Aw,Ef,B0 newer.same (fun S=>?_),trivial⟩ ?_
    ·rw [show t+4+V.length+598=t+601+(1+V.length) by lia]
     exact SM bl
    ·rw [hc,show t+4+V.length+600=t+604+V.length by exact Dp,show t+4+V.length+601=t+605+V.length by exact Dp,show t+4+V.length+602=t+8+V.length+598 by lia]
     exact D3 S
    ·rw [show (((k+1:Nat):Int) - 1)=(k:Int) by exact Fh,hc,show t+4+V.length+600=t+604+V.length by exact Dp,show t+4+V.length+601=t+605+V.length by exact Dp]
     exact D.perm (Kw [(f.L+310,Hp w.params f j (.s (o.key (t+599)) (.int (p:Int) (t+598)))),(it+310,Ac ((p:Int)+1) (k:Int) 1),(f.V+310,Aa vs ev),(j.A+310,Aa (B8 (CE.ins L (spotC (Bp L) (Eu V F 0 p) (-(p:Int))) e)) (ec+1))] (Kz L (spotC (Bp L) (Eu V F 0 p) (-(p:Int))) e)).symm (List.Perm.refl _)
  ·refine Af fun Gz hGz=>?_
   obtain ⟨tv,htv⟩:=hV.nth (i:=p) (E1 hp)
   obtain ⟨t3,D3⟩:=Pe (w:=w) (os:=os) b1 b2 (n+1) (t+5) g j.A n (Eu V F a p) (t+601) (-(p:Int)) (t+602) ec L hne (by lia)
   refine hGz ?_
   let e:CE:=⟨n,Eu V F a p,t+601,-(p:Int),t+602⟩
   refine Af fun Gz hGz=>?_
   obtain ⟨n',t',o',y,L',ec',h1,h2,h3,h4,h5',h6',D⟩:=ih (p+1) (n+3) t3 (.s (o.key (t+599)) (.int (p:Int) (t+598))) (CE.ins L (spotC (Bp L) (Eu V F a p) (-(p:Int))) e) (ec+1) (E4 hp) (by rw [Kh];exact G2 hl) (hO.ins (p:=p) (E1 hp) rfl hne (by show n0≤n;exact hn)) (fun x hx=>by
    rcases List.mem_cons.mp ((Ie ..).mem_iff.mp hx) with rfl | hx
    ·show -((p+1:Nat):Int) < -(p:Int);lia
    ·have:=hq x hx;lia) (Ey hn)
   rw [show Bp (CE.ins L (spotC (Bp L) (Eu V F a p) (-(p:Int))) e)=Hm (Bp L) (Eu V F a p) (-(p:Int)) from Nf ..] at h4
   refine hGz ?_
   refine D8 n' t' o' y L' ec' ⟨C6 h1,fun h=>absurd h Hj,fun _=>?_,h4,h5',by rw [h6',Kh];exact Dp,fun S=>?_⟩
   ·rcases Nat.eq_zero_or_pos k with hk | hk
    ·exact ⟨_,_,h2 hk⟩
    ·exact h3 hk
   ·have D:=D S
    unfold Rf at D ⊢
    rw [show ((p+1:Nat):Int)=(p:Int)+1 by exact Fq] at D
    have hc:((V.getD p 0:Nat):Int)*j.F=Eu V F a p:=by unfold Eu;rw [if_neg ha,hj]
    have hv6:V.getD p 0≤6:=by
     rw [List.getD_eq_getElem?_getD,List.getElem?_eq_getElem (by exact E1 hp)]
     exact h6 _ (List.getElem_mem _)
    refine Vc (w:=w) (os:=os) (S:=S) n t g it f j o (p:Int) ((k+1:Nat):Int) vs (B8 L) ev ec tv ((V.getD p 0:Nat):Int) 0 0 t3 (B8 (CE.ins L (spotC (Bp L) (Eu V F a p) (-(p:Int))) e)) (Bx L) b1 b2
     ⟨Ae fun bl=>B1 Fl,Rb (by rw [hf];rw [beq_eq_false_iff_ne];lia),Ae fun bl=>Ba Bs (by lia) (by rw [Int.toNat_natCast];exact htv),Cy (C1 Bs (Ly hv6)),Ef,B0 newer.same (fun S=>?_),trivial⟩ ?_
    ·rw [hc]
     exact D3 S
    ·rw [show (((k+1:Nat):Int) - 1)=(k:Int) by exact Fh,hc]
     exact D.perm (Kw [(f.L+310,Hp w.params f j (.s (o.key (t+599)) (.int (p:Int) (t+598)))),(it+310,Ac ((p:Int)+1) (k:Int) 1),(f.V+310,Aa vs ev),(j.A+310,Aa (B8 (CE.ins L (spotC (Bp L) (Eu V F a p) (-(p:Int))) e)) (ec+1))] (Kz L (spotC (Bp L) (Eu V F a p) (-(p:Int))) e)).symm (List.Perm.refl _)
def R8(P:Params)(f:ClK)(j:ClJ)(h:ClH)(it:Nat)(v:Value)(o:OV)(i left:Int)(vs cs gs rs:Array Value)(ev ec eg er:Nat):LO:=[(f.L+310,Lr P f j h v o),(it+310,Ac i left 1),(f.V+310,Aa vs ev),(j.A+310,Aa cs ec),(h.G+310,Aa gs eg),(h.R+310,Aa rs er)]
theorem W0(L:List CE)(e:CE):B8 (L++[e])=(B8 L).push (.ref (e.y+310)):=by
 unfold B8
 apply Array.toList_inj.mp
 simp
theorem COk.pop{L:List CE}{e:CE}{V:List Nat}{n0:Nat} (h:COk (L++[e]) V n0):COk L V n0∧(∀x∈L,e.q≠x.q)∧∃p:Nat,p < V.length∧e.q=-(p:Int):=by
 refine ⟨⟨fun x hx=>h.q x (List.mem_append_left _ hx),?_,fun x hx=>h.ad x (List.mem_append_left _ hx)⟩,fun x hx w=>?_,h.q e (List.mem_append_right _ (.head _))⟩
 ·have:=h.nd
  rw [List.map_append] at this
  exact (List.nodup_append.mp this).1
 ·have:=h.nd
  rw [List.map_append] at this
  exact (List.nodup_append.mp this).2.2 x.q (List.mem_map.mpr ⟨x,hx,rfl⟩) e.q (.head _) w.symm
theorem Zi{L0:List CE}{e e':CE}{k N:Nat}(h:N≤e'.y+310):newer (Bx (L0++[e])) (Bx (CE.ins L0 k e')) N:=fun u hu=>by
 rcases List.mem_cons.mp ((Kz L0 k e').mem_iff.mp hu) with rfl | hu
 ·exact .inr h
 ·refine .inl (List.mem_map.mpr ⟨u,?_,rfl⟩)
  unfold Bx
  rw [List.map_append]
  exact List.mem_append_left _ hu
theorem Qu{G:List Nat}{p x:Nat}(h:p < G.length):(G.set p x).getD p 0=x:=by
 rw [List.getD_eq_getElem?_getD,List.getElem?_set_self h];rfl
theorem Wl(j:ClJ)(h:ClH)(a F:Nat)(vs:Array Value)(ev:Nat)(V:List Nat) (hf:f.a=(a:Int)) (ha:a≤1) (hj:j.F=(F:Int)) (hV:NatL vs V) (h6:∀v∈V,v≤6) (h5:V.length≤5) (h1:1≤V.length) (n0:Nat) (k:Nat):∀(i n t:Nat) (v:Value) (o:OV) (L:List CE) (gs rs:Array Value) (ec eg er:Nat) (G r:List Nat),L.length=V.length→COk L V n0→n0≤n→NatL gs G→NatL rs r→G.length=V.length→r.length+k≤100→(∀x∈G,x+k≤38) →
  ∃(n' t':Nat) (v':Value) (o':OV) (y:Int) (L':List CE) (gs' rs':Array Value) (ec' eg' er':Nat),n≤n'∧NatL rs' (Id V F a k (Bp L) G r)∧COk L' V n0∧newer (Bx L) (Bx L') (n+310) ∧
  ∀S,Does (Z w os b1 b2) (Lz w.params f.L it) (Ab [kF,kF,kB] S 0) (R8 w.params f j h it v o (i:Int) (k:Int) vs (B8 L) gs rs ev ec eg er++Bx L) (n+310) (t+598) g (.ok .next)
   (R8 w.params f j h it v' o' y 0 vs (B8 L') gs' rs' ev ec' eg' er'++Bx L') (n'+310) (t'+598) g:=by
 induction k with
 |zero=>
  intro i n t v o L gs rs ec eg er G r hL hO hn hG hR hGl hr hx
  refine A6z (n+2) t v o (i:Int) L gs rs ec eg er ⟨Er,hR,hO,newer.same,fun S=>?_⟩
  have X:=(Wo (w:=w) (os:=os) (S:=S) n t g f.L it (i:Int) b1 b2 ⟨Ae (fun bl=>Bm (by decide)) (hn:=by simp),trivial⟩).frame ((f.L+310,Lr w.params f j h v o)::(f.V+310,Aa vs ev)::(j.A+310,Aa (B8 L) ec)::(h.G+310,Aa gs eg)::(h.R+310,Aa rs er)::Bx L) newer.same
  exact X.perm (List.Perm.swap ..) (List.Perm.swap ..)
 |succ k ih=>
  intro i n t v o L gs rs ec eg er G r hL hO hn hG hR hGl hr hx
  refine Af fun Gz hGz=>?_
  obtain ⟨L0,e,rfl⟩:∃L0 e,L=L0++[e]:=by
   have hne:L≠[]:=fun w=>by rw [w] at hL;simp at hL;lia
   exact ⟨L.dropLast,L.getLast hne,(List.dropLast_concat_getLast hne).symm⟩
  obtain ⟨hO0,hne,p,hpV,hqp⟩:=hO.pop
  have hp:(-e.q).toNat=p:=by lia
  have hpe:-e.q=(p:Int):=by lia
  have hv6:V.getD p 0≤6:=by
   rw [List.getD_eq_getElem?_getD,List.getElem?_eq_getElem (by exact hpV)]
   exact h6 _ (List.getElem_mem _)
  have hg38:G.getD p 0+(k+1)≤38:=by
   rw [List.getD_eq_getElem?_getD,List.getElem?_eq_getElem (by exact Dx hpV hGl)]
   exact hx _ (List.getElem_mem _)
  obtain ⟨tv,htv⟩:=hV.nth (i:=p) hpV
  obtain ⟨tg,htg⟩:=hG.nth (i:=p) (Dx hpV hGl)
  have hG2:=hG.set p (G.getD p 0+1) (t+604)
  obtain ⟨tw,htw⟩:=hG2.nth (i:=p) (by rw [List.length_set];exact Dx hpV hGl)
  rw [Qu (by exact Dx hpV hGl)] at htw
  have hl0:L0.length+1=V.length:=by rw [← hL];simp
  obtain ⟨t3,D3⟩:=Pe (w:=w) (os:=os) b1 b2 (n+1) (t+11) g j.A n (H5 V F a p (G.getD p 0+1)) (t+607) e.q (t+608) (ec+1) L0 hne (by lia)
  refine hGz ?_
  let e':CE:=⟨n,H5 V F a p (G.getD p 0+1),t+607,e.q,t+608⟩
  refine Af fun Gz hGz=>?_
  obtain ⟨n',t',v',o',y,L',gs',rs',ec',eg',er',z1,z2,z3,z4,D⟩:=ih (i+1) (n+3) t3 (.int (p:Int) (t+601)) (.s (o.key (t+599)) (.int (i:Int) (t+598))) (CE.ins L0 (spotC (Bp L0) (H5 V F a p (G.getD p 0+1)) e.q) e') (gs.setIfInBounds p (.int ((G.getD p 0+1:Nat):Int) (t+604))) (rs.push (.int (p:Int) (t+601))) (ec+2) eg (er+1) (G.set p (G.getD p 0+1)) (r++[p])
   (by rw [Kh];exact hl0) (hO0.ins (p:=p) hpV hqp hne (by show n0≤n;exact hn)) (Ey hn) hG2 (hR.push p (t+601)) (by rw [List.length_set];exact hGl) (by rw [List.length_append,List.length_singleton];exact E0 hr) (fun x hx'=>by
    rcases List.mem_or_eq_of_mem_set hx' with hx' | rfl
    ·have:=hx x hx';lia
    ·exact E0 hg38)
  rw [show Bp (CE.ins L0 (spotC (Bp L0) (H5 V F a p (G.getD p 0+1)) e.q) e')=Hm (Bp L0) (H5 V F a p (G.getD p 0+1)) e.q from Nf ..] at z2
  refine hGz ?_
  refine A6z n' t' v' o' y L' gs' rs' ec' eg' er' ⟨C6 z1,?_,z3,(Zi (by show n+310≤n+310;exact S5)).trans (z4.mono Dr),fun S=>?_⟩
  ·have e1:(Bp (L0++[e])).getLast?=some (e.c,e.q):=by simp [Bp]
   have e2:(Bp (L0++[e])).dropLast=Bp L0:=by simp [Bp]
   unfold Id
   rw [e1,e2]
   show NatL rs' (Id V F a k (Hm (Bp L0) (H5 V F a (-e.q).toNat (G.getD (-e.q).toNat 0+1)) e.q) (G.set (-e.q).toNat (G.getD (-e.q).toNat 0+1)) (r++[(-e.q).toNat]))
   rw [hp]
   exact z2
  ·have D:=D S
   unfold R8 at D ⊢
   rw [show ((i+1:Nat):Int)=(i:Int)+1 by exact Fq] at D
   have hrs:rs.size≤sizeLine:=by
    rw [hR.size]
    exact Nat.le_trans (show _≤100 by exact C6 hr) (by decide)
   have hcl:((V.getD p 0:Nat):Int)*j.F.fdiv (((G.getD p 0+1:Nat):Int)+f.a)=H5 V F a p (G.getD p 0+1):=by unfold H5;rw [hj,hf]
   have X:=A0i (w:=w) (os:=os) (S:=S) n t g it f j h v o (i:Int) ((k+1:Nat):Int) vs (B8 L0) (B8 (CE.ins L0 (spotC (Bp L0) (H5 V F a p (G.getD p 0+1)) e.q) e')) gs rs ev ec eg er e ((G.getD p 0:Nat):Int) ((V.getD p 0:Nat):Int) ((G.getD p 0+1:Nat):Int) tg tv tw t3 (Bx L0)
    (res:=.ok .next) (l':=R8 w.params f j h it v' o' y 0 vs (B8 L') gs' rs' ev ec' eg' er'++Bx L') (n':=n'+310) (t':=t'+598) (g':=g) b1 b2
    ⟨Ae fun bl=>B1 Fl,Ae fun bl=>Yy (by rw [Oa];exact Nat.le_trans (show _≤100 by lia) (by decide)),Ef,Ae fun bl=>Ba (by lia) (by lia) (by rw [hp];exact htg),Aw,Ae fun bl=>Fp (by lia) (by rw [hG.size];lia) (by lia),Ae fun bl=>Dz hrs,
     Ae fun bl=>Ba (by lia) (by lia) (by rw [hp];exact htv),Ae fun bl=>Ba (by lia) (by lia) (by rw [hp];exact htw),Aw,C4 ?_ (Ew (by rw [hf];exact Bs) (by rw [hf];lia)),Cy (C1 Bs (Ly hv6)),Ef,B0 newer.same (fun S=>?_),trivial⟩ ?_
   ·rw [W0]
    refine X.perm ?_ (List.Perm.refl _)
    unfold Bx
    rw [List.map_append]
    exact Kw [(f.L+310,Lr w.params f j h v o),(it+310,Ac (i:Int) ((k+1:Nat):Int) 1),(f.V+310,Aa vs ev),(j.A+310,Aa ((B8 L0).push (.ref (e.y+310))) ec),(h.G+310,Aa gs eg),(h.R+310,Aa rs er)] List.perm_append_comm
   ·rw [hf,beq_eq_false_iff_ne];lia
   ·rw [hcl,Int.neg_neg]
    exact D3 S
   ·rw [show (((k+1:Nat):Int) - 1)=(k:Int) by exact Fh,hcl,Int.neg_neg,hp,hpe]
    exact D.perm (Kw [(f.L+310,Lr w.params f j h (.int (p:Int) (t+601)) (.s (o.key (t+599)) (.int (i:Int) (t+598)))),(it+310,Ac ((i:Int)+1) (k:Int) 1),(f.V+310,Aa vs ev),(j.A+310,Aa (B8 (CE.ins L0 (spotC (Bp L0) (H5 V F a p (G.getD p 0+1)) e.q) e')) (ec+2)),(h.G+310,Aa (gs.setIfInBounds p (.int ((G.getD p 0+1:Nat):Int) (t+604))) eg),(h.R+310,Aa (rs.push (.int (p:Int) (t+601))) (er+1))] (Kz L0 (spotC (Bp L0) (H5 V F a p (G.getD p 0+1)) e.q) e')).symm (List.Perm.refl _)
end
section
variable {w:World}{os:OsState}(b1 b2:Bool)(g c it acc D Lx el:Nat)(ls:Array Value)(L:List Nat)
theorem A29(hS:NatL ls L)(h5:L.length≤5)(k:Nat):∀(i n t:Nat) (o:OV) (e:Nat) (rs:Array Value),i+k=L.length→NatL rs (List.replicate i 0) →
  ∃(n' t' e':Nat) (o':OV) (rs':Array Value),n≤n'∧NatL rs' (List.replicate L.length 0)∧(k=0→o'=o)∧(1≤k→∃a b,o'=.s a b) ∧
  ∀S,Does (Z w os b1 b2) (Lk w.params c it acc D) (Ab [kF,kF,kB] S 0) (Wt w.params it acc D Lx el e ls rs (Ad (Lx+310) i) (Ai w.params "vote" o)) (n+310) (t+598) g (.ok .next)
   (Wt w.params it acc D Lx el e' ls rs' (Ar L.length) (Ai w.params "vote" o')) (n'+310) (t'+598) g:=by
 induction k with
 |zero=>
  intro i n t o e rs hi hr
  obtain rfl:i=L.length:=by exact hi
  refine Ca (n+2) t e o rs ⟨Er,hr,fun _=>rfl,fun h=>absurd h (by decide),fun S=>?_⟩
  exact (W3 (w:=w) (os:=os) (S:=S) n t g c it acc D Lx L.length ls el b1 b2 ⟨Ae (fun bl=>C3 rfl (by rw [Array.getElem?_eq_none (by rw [hS.size];exact Nat.le_refl _)])) (hn:=by simp),trivial⟩).frame [(acc+310,Aa rs e),(D+310,Ai w.params "vote" o)] newer.same
 |succ k ih=>
  intro i n t o e rs hi hr
  have hiL:i < L.length:=by exact E1 hi
  refine Af fun Gz hGz=>?_
  obtain ⟨tx,htx⟩:=hS.nth hiL
  have hrs:rs.size=i:=by rw [hr.size,List.length_replicate]
  obtain ⟨X,hX⟩:=D6 rs
  obtain ⟨n',t',e',o',rs',h1,h2,h3,h4,DD⟩:=ih (i+1) n (t+2) (.s (o.key (t+598)) (.int ((L.getD i 0:Nat):Int) tx)) (e+1) (rs.push (.int ((0:Nat):Int) (t+599))) (E4 hi) (by rw [List.replicate_succ'];exact hr.push 0 (t+599))
  refine hGz ?_
  refine Ca n' t' e' o' rs' ⟨h1,h2,fun h=>absurd h Hj,fun _=>?_,fun S=>?_⟩
  ·rcases Nat.eq_zero_or_pos k with hk | hk
   ·exact ⟨_,_,h3 hk⟩
   ·exact h4 hk
  ·have DD:=DD S
   have R:=X6 (w:=w) (os:=os) (S:=S) n t g c it acc D Lx i o e ls el ((L.getD i 0:Nat):Int) tx X rs.size (Nh h5 hi hrs) b1 b2
    ⟨Ae fun bl=>Bd rfl htx,trivial⟩ (by
     rw [Cd,← hX]
     exact DD)
   rw [← hX] at R
   exact R
end
def Ju(V:List Nat)(s a:Nat):List Nat:=Id V (facF s 2 1) a s (M5 V (facF s 2 1) a V.length 0 []) (List.replicate V.length 0) []
section
variable {w:World}{os:OsState}(b1 b2:Bool)(n t g Va ev ts ta:Nat)(vs:Array Value)(V:List Nat)(s a:Nat)
theorem Sz(hV:NatL vs V)(h6:∀v∈V,v≤6)(h5:V.length≤5)(h2:2≤V.length)(ha:a≤1)(hs:1≤s∧s≤38):
  ∃(n' t' N:Nat) (rs:Array Value) (er:Nat),n≤n'∧n≤N∧NatL rs (Ju V s a) ∧
  ∀S,Does (Z w os b1 b2) (.call (.ref 285) ⟨[.ref (Va+310),.int (s:Int) ts,.int (a:Int) ta],[]⟩) (Ab [kF,kB] S 0) [(Va+310,Aa vs ev)] (n+310) (t+598) g (.ok (.ret (.ref (N+310))))
   [(Va+310,Aa vs ev),(N+310,Aa rs er)] (n'+310) (t'+598) g:=by
 refine Af fun Gz hGz=>?_
 refine Mh (Vn (w:=w) (os:=os) b1 b2 g (n+2) (Mt n t Va (s:Int) ts (a:Int) ta) s 2 (n+3) (t+9) (t+601) 1 .n (by lia)) fun t2 tF o1 y1 _ a1 D1=>?_
 obtain ⟨k5,v5,rfl⟩:=a1 hs.1
 obtain ⟨n3,t3,o2,y2,L1,ec,c1,_,c2,c3,c4,c5,D2⟩:=U2 (w:=w) (os:=os) b1 b2 g (n+7) (Mt n t Va (s:Int) ts (a:Int) ta) (Uv n ((facF s 2 1:Nat):Int) tF k5 v5 t2) a (facF s 2 1) vs ev V rfl rfl hV h6 h5 (n+8) V.length 0 (n+8) (t2+5) .n [] 0 Ep (Nat.le_refl _) ⟨(fun _ h=>nomatch h),List.nodup_nil,(fun _ h=>nomatch h)⟩ (fun _ h=>nomatch h) (Nat.le_refl _)
 obtain ⟨kp,vp,rfl⟩:=c2 (J8 h2)
 refine Vh (A29 (w:=w) (os:=os) b1 b2 g n n3 (n3+1) (n3+2) Va ev vs V hV h5 V.length 0 (n3+3) t3 .n 0 #[] Ep (by rfl)) fun n4 t4 e4 o3 gs d1 d3 _ d4 D3=>?_
 obtain ⟨kk,vv,rfl⟩:=d4 (J8 h2)
 refine Acn (Wl (w:=w) (os:=os) b1 b2 g (n4+2) (Mt n t Va (s:Int) ts (a:Int) ta) (Uv n ((facF s 2 1:Nat):Int) tF k5 v5 t2) (clH kp n3 t4 n4) a (facF s 2 1) vs ev V rfl ha rfl hV h6 h5 (J8 h2) (n+8) s 0 (n4+3) (t4+4) vp .n L1 gs #[] ec e4 0 (List.replicate V.length 0) [] (by simpa using c5) c4 (by lia) d3 (by rfl) (by rw [List.length_replicate]) (by simp;exact T8 hs) (fun x hx=>by
  rw [List.eq_of_mem_replicate hx];lia)) fun n5 t5 v6 o6 y6 L2 gs2 rs ec2 eg2 er f1 f2 f3 f4 D4=>?_
 refine hGz ?_
 refine Ca n5 t5 n4 rs er ⟨by lia,Aad c1 d1,by rw [c3] at f2;exact f2,fun S=>?_⟩
 have hr2:Builtin.Range.rangeSize 2 ((s:Int)+2) 1=(s:Int):=by rw [rangeSize_one,if_pos (by lia)];lia
 have hsz:=hV.size
 have hr:Builtin.Range.rangeSize 0 (vs.size:Int) 1=(V.length:Int):=by rw [Eq (by exact Bs),hsz]
 have hr3:Builtin.Range.rangeSize 0 (s:Int) 1=(s:Int):=Eq Bs
 have X:=Tq (w:=w) (os:=os) (S:=S) n t g Va vs ev (s:Int) ts (a:Int) ta ((facF s 2 1:Nat):Int) tF k5 v5 y1 t2 kp vp v6 y2 y6 (B8 L1) (B8 L2) gs gs2 rs ec ec2 e4 eg2 er n3 t3 V.length n4 t4 kk vv o6 n5 t5 (Bx L1) (Bx L2) b1 b2
  ⟨Aw,Ae (fun bl=>Be (small_one (by lia) (by lia) (by lia) (by lia))) (hn:=by simp),Bb (fun S=>?_),Ae fun bl=>Bw (by lia),Ae (fun bl=>Be (Dv Bs (by lia))) (hn:=by simp),B0 (fun q hq=>?_) (fun S=>?_),Bb (fun S=>?_),Ae (fun bl=>Be (Dv (show 0≤(s:Int) by exact Bs) (show (s:Int)≤1000 by exact La hs))) (hn:=by simp),B0 f4 (fun S=>?_),trivial⟩
 ·exact X.forget (List.sublist_append_left _ _)
 ·rw [hr2]
  exact D1 S
 ·refine Af fun Gz hGz=>?_
  obtain ⟨e,he,rfl⟩:=List.mem_map.mp hq
  have:=c4.ad e he
  refine hGz ?_
  exact .inr (show n+318≤e.y+310 by exact Sy this)
 ·rw [hr]
  exact D2 S
 ·exact Wz (w:=w) (os:=os) (S:=S) (n3+3) t3 g n n3 (n3+1) (n3+2) Va vs ev b1 b2 trivial (D3 S)
 ·rw [hr3]
  exact D4 S
end
end
def wsF(P:Params):FuncData:=Fe (A13 P)
structure WsK where
 L:Nat
 C:Nat
 x:Str
 tx:Nat
 k1:Nat
 k2:Nat
 k3:Nat
 k4:Nat
 k5:Nat
 k6:Nat
 k7:Nat
 k8:Nat
structure WsV where
 q:Nat
 b:Int
 tb:Nat
 n:Int
 tn:Nat
 m:Int
 tm:Nat
def F8(P:Params)(L it:Nat):Code:=Es (As (Bi (wsF P)) 4) (.ref (it+310)) (C9 (wsF P) 38 (L+310))
abbrev Dq(x:Str)(tx:Nat):List Kd:=[kF,(9,some ("type.__call__",⟨[.ref 83,.str x tx],[]⟩)),kF,kB]
def D9(P:Params)(f:WsK)(v:WsV)(o:OV):Obj:=match o with
 |.n=>B4 #[kv P "self" f.k1 (.ref (f.C+310)),kv P "ws" f.k2 (.str f.x f.tx),kv P "T" f.k3 (.str (⟨#[9]⟩:Str) 210),kv P "S" f.k4 (.str (Str.ofString " ") 209),kv P "count" f.k5 (.ref (v.q+310)),kv P "b" f.k6 (.int v.b v.tb),kv P "n" f.k7 (.int v.n v.tn),kv P "nt" f.k8 (.int v.m v.tm)] 8
 |.s k9 c=>B4 #[kv P "self" f.k1 (.ref (f.C+310)),kv P "ws" f.k2 (.str f.x f.tx),kv P "T" f.k3 (.str (⟨#[9]⟩:Str) 210),kv P "S" f.k4 (.str (Str.ofString " ") 209),kv P "count" f.k5 (.ref (v.q+310)),kv P "b" f.k6 (.int v.b v.tb),kv P "n" f.k7 (.int v.n v.tn),kv P "nt" f.k8 (.int v.m v.tm),kv P "ch" k9 c] 9
abbrev Q19(it:Nat)(f:WsK)(i:Nat)(n:Nat)(t:Nat)(g:Nat) x0_:=(qC (.call (.builtin "str_ascii_iterator.__next__") ⟨[.ref (it+310)],[]⟩) [(it+310,E3 "str_ascii_iterator" #[.str f.x f.4,.int (↑ i) 0])] (n+310) (t+598) g (.ok (.ret (.str x0_ (t+598)))) [1] [(Bk f.x f.tx (i+1))] [] (n+310) (t+599) g:Ah)
def I6(w:World)(n t g it i:Nat)(f:WsK)(v:WsV)(o:OV)(ps:LO):List Ah:=[Q19 it f i n t g (Str.ofString " "),
 B5 v.n v.5 1 (t+600) (n+310) (t+601) g,
 B5 v.b v.3 1 (t+603) (n+310) (t+604) g]
noncomputable def A8m(w:World)(os:OsState)(S:Nat→Slot)(n:Nat)(t:Nat)(g:Nat)(it:Nat)(i:Nat)(f:WsK)(v:WsV)(ps:LO)(o:OV)(b1 b2:Bool):Ao:=B7 (Ak (Z w os b1 b2) (Ab (Dq f.x f.tx) S 0) 46 (F8 w.params f.L it) ([(f.L+310,D9 w.params f v o),(it+310,Bk f.x f.tx i)]) (n+310) (t+598) g A0y (I6 w n t g it i f v o ps) ps) [0,1] (I6 w n t g it i f v o ps)
noncomputable def A7l(w:World)(os:OsState)(S:Nat→Slot)(n:Nat)(t:Nat)(g:Nat)(it:Nat)(i:Nat)(f:WsK)(v:WsV)(ps:LO)(o:OV)(b1 b2:Bool):Ao:=B6 (Ak (Z w os b1 b2) (Ab (Dq f.x f.tx) S 0) 46 (F8 w.params f.L it) ([(f.L+310,D9 w.params f v o),(it+310,Bk f.x f.tx i)]) (n+310) (t+598) g A0y (I6 w n t g it i f v o ps) ps) (.again (F8 w.params f.L it)) ([(f.L+310,D9 w.params f ⟨v.q,v.b+1,t+604,v.n+1,t+601,v.m,v.tm⟩ (.s (o.key (t+599)) (.str ⟨#[32]⟩ (t+598)))),(it+310,Bk f.x f.tx (i+1))]) ps (n+310) (t+606) g (I6 w n t g it i f v o ps)
theorem Aft(w:World)(os:OsState)(S:Nat→Slot)(n:Nat)(t:Nat)(g:Nat)(it:Nat)(i:Nat)(f:WsK)(v:WsV)(ps:LO)(o:OV):∀(b1 b2:Bool),A8m w os S n t g it i f v ps o b1 b2=A7l w os S n t g it i f v ps o b1 b2
 |false,_=>by cases o<;>kernel_rfl
 |true,_=>by cases o<;>kernel_rfl
theorem O1(n t g it i:Nat)(f:WsK)(v:WsV)(o:OV)(ps:LO)(b1 b2:Bool) (hL:ObRs (Z w os b1 b2) (I6 w n t g it i f v o ps))
  (next:Does (Z w os b1 b2) (F8 w.params f.L it) (Ab (Dq f.x f.tx) S 0) (([(f.L+310,D9 w.params f ⟨v.q,v.b+1,t+604,v.n+1,t+601,v.m,v.tm⟩ (.s (o.key (t+599)) (.str ⟨#[32]⟩ (t+598)))),(it+310,Bk f.x f.tx (i+1))])++ps) (n+310) (t+606) g res l' n' t' g'):Does (Z w os b1 b2) (F8 w.params f.L it) (Ab (Dq f.x f.tx) S 0) (([(f.L+310,D9 w.params f v o),(it+310,Bk f.x f.tx i)])++ps) (n+310) (t+598) g res l' n' t' g':=
 Bz 46 A0y [0,1] hL next (by kernel_rfl) (by decide) (fun p=>congrFun (Aft w os S n t g it i f v ps o  b1 b2) p)
abbrev Q22(v:WsV) x0_ (x1_:Nat) (x2_:Nat) (x3_:Nat) (x4_:Nat) (g:Nat) (cs:Array Value) (x5_:Nat) x6_ (ec:Nat) (x7_:Nat):=(qC (.call (.builtin "len") ⟨[.ref (v.1+310)],[]⟩) [(v.1+310,x0_)] (x1_+x2_) (x3_+x4_) g (.ok (.ret (.int (↑ cs.size) (x3_+x5_)))) [x6_] [(Aa cs ec)] [] (x1_+x2_) (x3_+x7_) g:Ah)
abbrev Q36(v:WsV)(cs:Array Value)(t:Nat)(n:Nat)(g:Nat) x0_:=(qC (.call (.builtin "int.__ge__") ⟨[.int v.b v.3,.int (↑ cs.size) (t+607)],[]⟩) [] (n+310) (t+608) g (.ok (.ret x0_)) [] [] [] (n+310) (t+608) g:Ah)
def Ic(w:World)(n t g it i:Nat)(f:WsK)(v:WsV)(o:OV)(cs vs vs2:Array Value)(ec:Nat)(y:Int)(ty:Nat)(ps:LO):List Ah:=[Q19 it f i n t g (⟨#[9]⟩:Str),
 B5 v.n v.5 1 (t+600) (n+310) (t+601) g,
 B5 v.m v.7 1 (t+603) (n+310) (t+604) g,
 Q22 v (Ax cs ec) n 310 t 606 g cs 607 2 ec 608,
 Q36 v cs t n g (.bool true),
 Q22 v (Aa cs ec) n 311 t 609 g cs 610 2 ec 611,
 J5 v.b v.3 (↑cs.size) (t+610) (n+311) (t+611) g,
 B5 (v.b - ↑cs.size) (t+611) 1 (t+612) (n+311) (t+613) g,
 qC (.call (.builtin "list.__mul__") ⟨[.ref (n+310),.int (v.b - ↑cs.size+1) (t+613)],[]⟩) [(n+310,Ax #[.int 0 (t+608)] 0)] (n+311) (t+614) g (.ok (.ret (.ref (n+311)))) [3] [(Aa #[Value.int 0 (t+608)] 0)] [(n+311,(Aa vs 0))] (n+312) (t+614) g,
 qC (.call (.builtin "list.__add__") ⟨[.ref (v.1+310),.ref (n+311)],[]⟩) [(v.1+310,(Aa cs ec)),(n+311,Ax vs 0)] (n+312) (t+614) g (.ok (.ret (.ref (n+312)))) [2,4] [(Aa cs ec),(Aa vs 0)] [(n+312,(Aa vs2 0))] (n+313) (t+614) g,
 qC (.call (.builtin "list.__getitem__") ⟨[.ref (n+312),.int v.b v.3],[]⟩) [(n+312,Ax vs2 0)] (n+313) (t+615) g (.ok (.ret (.int y ty))) [5] [(Aa vs2 0)] [] (n+313) (t+615) g,
 B5 y ty 1 (t+615) (n+313) (t+616) g,
 qC (.call (.builtin "list.__setitem__") ⟨[.ref (n+312),.int v.b v.3,.int (y+1) (t+616)],[]⟩) [(n+312,(Aa vs2 0))] (n+313) (t+617) g (.ok (.ret (.none))) [5] [(Aa (vs2.setIfInBounds v.b.toNat (Value.int (y+1) (t+616))) 0)] [] (n+313) (t+617) g]
noncomputable def A7q(w:World)(os:OsState)(S:Nat→Slot)(n:Nat)(t:Nat)(g:Nat)(it:Nat)(i:Nat)(f:WsK)(v:WsV)(cs:Array Value)(vs:Array Value)(vs2:Array Value)(ec:Nat)(y:Int)(ty:Nat)(ps:LO)(o:OV)(b1 b2:Bool):Ao:=B7 (Ak (Z w os b1 b2) (Ab (Dq f.x f.tx) S 0) 145 (F8 w.params f.L it) ([(f.L+310,D9 w.params f v o),(it+310,Bk f.x f.tx i),(v.q+310,Aa cs ec)]) (n+310) (t+598) g A3d (Ic w n t g it i f v o cs vs vs2 ec y ty ps) ps) [0,1,5,2] (Ic w n t g it i f v o cs vs vs2 ec y ty ps)
noncomputable def A87(w:World)(os:OsState)(S:Nat→Slot)(n:Nat)(t:Nat)(g:Nat)(it:Nat)(i:Nat)(f:WsK)(v:WsV)(cs:Array Value)(vs:Array Value)(vs2:Array Value)(ec:Nat)(y:Int)(ty:Nat)(ps:LO)(o:OV)(b1 b2:Bool):Ao:=B6 (Ak (Z w os b1 b2) (Ab (Dq f.x f.tx) S 0) 145 (F8 w.params f.L it) ([(f.L+310,D9 w.params f v o),(it+310,Bk f.x f.tx i),(v.q+310,Aa cs ec)]) (n+310) (t+598) g A3d (Ic w n t g it i f v o cs vs vs2 ec y ty ps) ps) (.again (F8 w.params f.L it)) ([(f.L+310,D9 w.params f ⟨n+2,0,t+617,v.n+1,t+601,v.m+1,t+604⟩ (.s (o.key (t+599)) (.str ⟨#[9]⟩ (t+598)))),(it+310,Bk f.x f.tx (i+1)),(n+312,Aa (vs2.setIfInBounds v.b.toNat (.int (y+1) (t+616))) 0),(v.q+310,Aa cs ec)]) ps (n+313) (t+619) g (Ic w n t g it i f v o cs vs vs2 ec y ty ps)
theorem Afi(w:World)(os:OsState)(S:Nat→Slot)(n:Nat)(t:Nat)(g:Nat)(it:Nat)(i:Nat)(f:WsK)(v:WsV)(cs:Array Value)(vs:Array Value)(vs2:Array Value)(ec:Nat)(y:Int)(ty:Nat)(ps:LO)(o:OV):∀(b1 b2:Bool),A7q w os S n t g it i f v cs vs vs2 ec y ty ps o b1 b2=A87 w os S n t g it i f v cs vs vs2 ec y ty ps o b1 b2
 |false,_=>by cases o<;>kernel_rfl
 |true,_=>by cases o<;>kernel_rfl
theorem Vp(n t g it i:Nat)(f:WsK)(v:WsV)(o:OV)(cs vs vs2:Array Value)(ec:Nat)(y:Int)(ty:Nat)(ps:LO)(b1 b2:Bool) (hL:ObRs (Z w os b1 b2) (Ic w n t g it i f v o cs vs vs2 ec y ty ps))
  (next:Does (Z w os b1 b2) (F8 w.params f.L it) (Ab (Dq f.x f.tx) S 0) (([(f.L+310,D9 w.params f ⟨n+2,0,t+617,v.n+1,t+601,v.m+1,t+604⟩ (.s (o.key (t+599)) (.str ⟨#[9]⟩ (t+598)))),(it+310,Bk f.x f.tx (i+1)),(n+312,Aa (vs2.setIfInBounds v.b.toNat (.int (y+1) (t+616))) 0),(v.q+310,Aa cs ec)])++ps) (n+313) (t+619) g res l' n' t' g'):Does (Z w os b1 b2) (F8 w.params f.L it) (Ab (Dq f.x f.tx) S 0) (([(f.L+310,D9 w.params f v o),(it+310,Bk f.x f.tx i),(v.q+310,Aa cs ec)])++ps) (n+310) (t+598) g res l' n' t' g':=
 Bz 145 A3d [0,1,5,2] hL next (by kernel_rfl) (by decide) (fun p=>congrFun (Afi w os S n t g it i f v cs vs vs2 ec y ty ps o  b1 b2) p)
def Ii(w:World)(n t g it i:Nat)(f:WsK)(v:WsV)(o:OV)(cs:Array Value)(ec:Nat)(y:Int)(ty:Nat)(ps:LO):List Ah:=[Q19 it f i n t g (⟨#[9]⟩:Str),
 B5 v.n v.5 1 (t+600) (n+310) (t+601) g,
 B5 v.m v.7 1 (t+603) (n+310) (t+604) g,
 Q22 v (Ax cs ec) n 310 t 606 g cs 607 2 ec 608,
 Q36 v cs t n g (.bool false),
 qC (.call (.builtin "list.__getitem__") ⟨[.ref (v.1+310),.int v.b v.3],[]⟩) [(v.1+310,(Aa cs ec))] (n+310) (t+608) g (.ok (.ret (.int y ty))) [2] [(Aa cs ec)] [] (n+310) (t+608) g,
 B5 y ty 1 (t+608) (n+310) (t+609) g,
 qC (.call (.builtin "list.__setitem__") ⟨[.ref (v.1+310),.int v.b v.3,.int (y+1) (t+609)],[]⟩) [(v.1+310,(Aa cs ec))] (n+310) (t+610) g (.ok (.ret (.none))) [2] [(Aa (cs.setIfInBounds v.b.toNat (Value.int (y+1) (t+609))) ec)] [] (n+310) (t+610) g]
noncomputable def A9e(w:World)(os:OsState)(S:Nat→Slot)(n:Nat)(t:Nat)(g:Nat)(it:Nat)(i:Nat)(f:WsK)(v:WsV)(cs:Array Value)(ec:Nat)(y:Int)(ty:Nat)(ps:LO)(o:OV)(b1 b2:Bool):Ao:=B7 (Ak (Z w os b1 b2) (Ab (Dq f.x f.tx) S 0) 100 (F8 w.params f.L it) ([(f.L+310,D9 w.params f v o),(it+310,Bk f.x f.tx i),(v.q+310,Aa cs ec)]) (n+310) (t+598) g A50 (Ii w n t g it i f v o cs ec y ty ps) ps) [0,1,2] (Ii w n t g it i f v o cs ec y ty ps)
noncomputable def A7y(w:World)(os:OsState)(S:Nat→Slot)(n:Nat)(t:Nat)(g:Nat)(it:Nat)(i:Nat)(f:WsK)(v:WsV)(cs:Array Value)(ec:Nat)(y:Int)(ty:Nat)(ps:LO)(o:OV)(b1 b2:Bool):Ao:=B6 (Ak (Z w os b1 b2) (Ab (Dq f.x f.tx) S 0) 100 (F8 w.params f.L it) ([(f.L+310,D9 w.params f v o),(it+310,Bk f.x f.tx i),(v.q+310,Aa cs ec)]) (n+310) (t+598) g A50 (Ii w n t g it i f v o cs ec y ty ps) ps) (.again (F8 w.params f.L it)) ([(f.L+310,D9 w.params f ⟨v.q,0,t+610,v.n+1,t+601,v.m+1,t+604⟩ (.s (o.key (t+599)) (.str ⟨#[9]⟩ (t+598)))),(it+310,Bk f.x f.tx (i+1)),(v.q+310,Aa (cs.setIfInBounds v.b.toNat (.int (y+1) (t+609))) ec)]) ps (n+310) (t+612) g (Ii w n t g it i f v o cs ec y ty ps)
theorem Afk(w:World)(os:OsState)(S:Nat→Slot)(n:Nat)(t:Nat)(g:Nat)(it:Nat)(i:Nat)(f:WsK)(v:WsV)(cs:Array Value)(ec:Nat)(y:Int)(ty:Nat)(ps:LO)(o:OV):∀(b1 b2:Bool),A9e w os S n t g it i f v cs ec y ty ps o b1 b2=A7y w os S n t g it i f v cs ec y ty ps o b1 b2
 |false,_=>by cases o<;>kernel_rfl
 |true,_=>by cases o<;>kernel_rfl
theorem W6(n t g it i:Nat)(f:WsK)(v:WsV)(o:OV)(cs:Array Value)(ec:Nat)(y:Int)(ty:Nat)(ps:LO)(b1 b2:Bool) (hL:ObRs (Z w os b1 b2) (Ii w n t g it i f v o cs ec y ty ps))
  (next:Does (Z w os b1 b2) (F8 w.params f.L it) (Ab (Dq f.x f.tx) S 0) (([(f.L+310,D9 w.params f ⟨v.q,0,t+610,v.n+1,t+601,v.m+1,t+604⟩ (.s (o.key (t+599)) (.str ⟨#[9]⟩ (t+598)))),(it+310,Bk f.x f.tx (i+1)),(v.q+310,Aa (cs.setIfInBounds v.b.toNat (.int (y+1) (t+609))) ec)])++ps) (n+310) (t+612) g res l' n' t' g'):Does (Z w os b1 b2) (F8 w.params f.L it) (Ab (Dq f.x f.tx) S 0) (([(f.L+310,D9 w.params f v o),(it+310,Bk f.x f.tx i),(v.q+310,Aa cs ec)])++ps) (n+310) (t+598) g res l' n' t' g':=
 Bz 100 A50 [0,1,2] hL next (by kernel_rfl) (by decide) (fun p=>congrFun (Afk w os S n t g it i f v cs ec y ty ps o  b1 b2) p)
theorem Tn(n t g it i:Nat)(L:Nat)(x:Str)(tx:Nat)(ps:LO)(b1 b2:Bool) (hL:ObRs (Z w os b1 b2) [qC (.call (.builtin "str_ascii_iterator.__next__") ⟨[.ref (it+310)],[]⟩) [(it+310,E3 "str_ascii_iterator" #[.str x tx,.int (↑i) 0])] (n+310) (t+598) g (.error (.ref (n+311))) [0] [(H7 i)] [(n+310,Cg #[]),(n+311,(At ((n+310).add 0)))] (n+312) (t+598) g]):Does (Z w os b1 b2) (F8 w.params L it) (Ab (Dq x tx) S 0) (([(it+310,Bk x tx i)])++ps) (n+310) (t+598) g (.ok .next) (([(it+310,H7 i)])++ps) (n+312) (t+598) g:=
 L4 5 0x10082 [0] hL
theorem lt8{p:Nat}(h:p < 8):p=0∨p=1∨p=2∨p=3∨p=4∨p=5∨p=6∨p=7:=(by decide +kernel:∀p,p < 8→p=0∨p=1∨p=2∨p=3∨p=4∨p=5∨p=6∨p=7) p h
noncomputable def O3(w:World)(n t g a e:Nat)(x:Str)(tx:Nat)(X:Nat→Value)(jj:Nat):List Ah:=[]
noncomputable def Aiv(w:World)(os:OsState)(S:Nat→Slot)(n:Nat)(t:Nat)(g:Nat)(a:Nat)(e:Nat)(x:Str)(tx:Nat)(X:Nat→Value)(jj:Nat)(b1 b2:Bool):Ao:=B7 (Ak (Z w os b1 b2) (Ab (Dq x tx) S 0) 24 (.call (.type "tuple") ⟨[.ref (a+310)],[]⟩) ([(a+310,Aa (Aq X jj) e)]) (n+310) (t+598) g A3o (O3 w n t g a e x tx X jj) []) [0,2] (O3 w n t g a e x tx X jj)
noncomputable def Aiz(w:World)(os:OsState)(S:Nat→Slot)(n:Nat)(t:Nat)(g:Nat)(a:Nat)(e:Nat)(x:Str)(tx:Nat)(X:Nat→Value)(jj:Nat)(b1 b2:Bool):Ao:=B6 (Ak (Z w os b1 b2) (Ab (Dq x tx) S 0) 24 (.call (.type "tuple") ⟨[.ref (a+310)],[]⟩) ([(a+310,Aa (Aq X jj) e)]) (n+310) (t+598) g A3o (O3 w n t g a e x tx X jj) []) (.res (.ok (.ret (.ref (n+311))))) ([(a+310,Aa (Aq X jj) e),(n+311,tup (Aq X jj))]) ([]) (n+312) (t+598) g (O3 w n t g a e x tx X jj)
theorem tp(w:World)(os:OsState)(S:Nat→Slot)(n:Nat)(t:Nat)(g:Nat)(a:Nat)(e:Nat)(x:Str)(tx:Nat)(X:Nat→Value)(jj:Nat)(hj:jj < 8):∀(b1 b2:Bool),Aiv w os S n t g a e x tx X jj b1 b2=Aiz w os S n t g a e x tx X jj b1 b2
 |false,_=>by obtain rfl |rfl |rfl |rfl |rfl |rfl |rfl |rfl:=lt8 hj<;>kernel_rfl
 |true,_=>by obtain rfl |rfl |rfl |rfl |rfl |rfl |rfl |rfl:=lt8 hj<;>kernel_rfl
theorem A89(n t g a e:Nat)(x:Str)(tx:Nat)(X:Nat→Value)(jj:Nat)(hj:jj < 8)(b1 b2:Bool) (hL:ObRs (Z w os b1 b2) (O3 w n t g a e x tx X jj)):Does (Z w os b1 b2) (.call (.type "tuple") ⟨[.ref (a+310)],[]⟩) (Ab (Dq x tx) S 0) ([(a+310,Aa (Aq X jj) e)]) (n+310) (t+598) g (.ok (.ret (.ref (n+311)))) ([(a+310,Aa (Aq X jj) e),(n+311,tup (Aq X jj))]) (n+312) (t+598) g:=
 Cc 24 A3o [0,2] hL (by decide) (fun p=>congrFun (tp w os S n t g a e x tx X jj hj b1 b2) p)
noncomputable def wsK(n t:Nat)(x:Str)(tx:Nat):WsK:=⟨n+2,n+1,x,tx,t+598,t+599,t+604,t+605,t+606,t+608,t+609,t+610⟩
noncomputable def Bg(P:Params)(D:Nat):Obj:={cls:=.ref 83,dict:=some D,data:=.plain}
def Bh(P:Params)(x:Str)(tx k1 k2 k3 k4 k5:Nat)(N:Nat)(a b:Value)(s:Value):Obj:=An #[kv P "raw" k1 (.str x tx),kv P "n" k2 a,kv P "nt" k3 b,kv P "norm" k4 (.ref N),kv P "is_simple" k5 s] 5
def Gv(w:World)(n t g:Nat)(x:Str)(tx:Nat)(n1 t1 i:Nat)(v:WsV)(o:OV)(cs:Array Value)(ec:Nat)(s:Bool):List Ah:=[qC (.call (.builtin "str.__iter__") ⟨[.str x tx],[]⟩) [] (n+318) (t+612) g (.ok (.ret (.ref (n+318)))) [] [] [(n+318,(Bk x tx 0))] (n+319) (t+612) g,
 qK (Dq x tx) (F8 w.params (n+2) (n+8)) [(n+312,D9 w.params (wsK n t x tx) ⟨n+7,0,t+607,0,t+607,0,t+607⟩ .n),(n+318,Bk x tx 0),(n+317,Aa #[] 0)] (n+319) (t+612) g (.ok .next) [2,8,7] [D9 w.params (wsK n t x tx) v o,H7 i,Aa #[] 0] [(v.q+310,Aa cs ec)] (n1+310) (t1+598) g,
 qK (Dq x tx) (.call (.type "tuple") ⟨[.ref (v.1+310)],[]⟩) [(v.1+310,Ax cs ec)] (n1+310) (t1+602) g (.ok (.ret (.ref (n1+311)))) [9] [(Aa cs ec)] [(n1+311,(tup cs))] (n1+312) (t1+602) g,
 Q22 v (Aa cs ec) n1 313 t1 604 g cs 605 9 ec 606,
 qC (.call (.builtin "int.__le__") ⟨[.int (↑cs.size) (t1+605),.int 1 (t1+606)],[]⟩) [] (n1+313) (t1+607) g (.ok (.ret (.bool s))) [] [] [] (n1+313) (t1+607) g]
noncomputable def A0q(w:World)(os:OsState)(S:Nat→Slot)(n:Nat)(t:Nat)(g:Nat)(x:Str)(tx:Nat)(n1:Nat)(t1:Nat)(i:Nat)(v:WsV)(cs:Array Value)(ec:Nat)(s:Bool)(o:OV)(b1 b2:Bool):Ao:=B7 (Ak (Z w os b1 b2) (Ab [kF,kB] S 0) 370 (.call (.ref 83) ⟨[.str x tx],[]⟩) ([]) (n+310) (t+598) g A0x (Gv w n t g x tx n1 t1 i v o cs ec s) []) [1,0,11,10] (Gv w n t g x tx n1 t1 i v o cs ec s)
noncomputable def A4o(w:World)(os:OsState)(S:Nat→Slot)(n:Nat)(t:Nat)(g:Nat)(x:Str)(tx:Nat)(n1:Nat)(t1:Nat)(i:Nat)(v:WsV)(cs:Array Value)(ec:Nat)(s:Bool)(o:OV)(b1 b2:Bool):Ao:=B6 (Ak (Z w os b1 b2) (Ab [kF,kB] S 0) 370 (.call (.ref 83) ⟨[.str x tx],[]⟩) ([]) (n+310) (t+598) g A0x (Gv w n t g x tx n1 t1 i v o cs ec s) []) (.res (.ok (.ret (.ref (n+311))))) ([(n+311,Bg w.params (n+310)),(n+310,Bh w.params x tx (t+601) (t1+599) (t1+601) (t1+603) (t1+608) (n1+312) (.int v.n v.tn) (.int v.m v.tm) (.bool s)),(n1+312,Ap (.ref (n1+311)) (.int v.b v.tb)),(n1+311,tup cs)]) ([]) (n1+313) (t1+609) g (Gv w n t g x tx n1 t1 i v o cs ec s)
theorem Ab7(w:World)(os:OsState)(S:Nat→Slot)(n:Nat)(t:Nat)(g:Nat)(x:Str)(tx:Nat)(n1:Nat)(t1:Nat)(i:Nat)(v:WsV)(cs:Array Value)(ec:Nat)(s:Bool)(o:OV):∀(b1 b2:Bool),A0q w os S n t g x tx n1 t1 i v cs ec s o b1 b2=A4o w os S n t g x tx n1 t1 i v cs ec s o b1 b2
 |false,_=>by cases o<;>kernel_rfl
 |true,_=>by cases o<;>kernel_rfl
theorem U7(n t g:Nat)(x:Str)(tx:Nat)(n1 t1 i:Nat)(v:WsV)(o:OV)(cs:Array Value)(ec:Nat)(s:Bool)(b1 b2:Bool) (hL:ObRs (Z w os b1 b2) (Gv w n t g x tx n1 t1 i v o cs ec s)):Does (Z w os b1 b2) (.call (.ref 83) ⟨[.str x tx],[]⟩) (Ab [kF,kB] S 0) ([]) (n+310) (t+598) g (.ok (.ret (.ref (n+311)))) ([(n+311,Bg w.params (n+310)),(n+310,Bh w.params x tx (t+601) (t1+599) (t1+601) (t1+603) (t1+608) (n1+312) (.int v.n v.tn) (.int v.m v.tm) (.bool s)),(n1+312,Ap (.ref (n1+311)) (.int v.b v.tb)),(n1+311,tup cs)]) (n1+313) (t1+609) g:=
 Cc 370 A0x [1,0,11,10] hL (by decide) (fun p=>congrFun (Ab7 w os S n t g x tx n1 t1 i v cs ec s o  b1 b2) p)
section
noncomputable def Eb(C:List Nat)(b:Nat):List Nat:=if b < C.length then C else C++List.replicate (b - C.length+1) 0
def Di(C:List Nat)(b:Nat):List Nat:=(Eb C b).set b ((Eb C b).getD b 0+1)
def Bt:List Nat→List Nat→Nat→Nat→Nat→List Nat×Nat×Nat×Nat
 |[],C,b,n,m=>(C,b,n,m)
 |c::l,C,b,n,m=>if c=32 then Bt l C (b+1) (n+1) m else Bt l (Di C b) 0 (n+1) (m+1)
theorem It(C:List Nat)(b:Nat):b < (Eb C b).length∧C.length≤(Eb C b).length∧(Eb C b).length≤max C.length (b+1):=by
 unfold Eb
 split
 ·lia
 ·rw [List.length_append,List.length_replicate];lia
theorem Qo(C:List Nat)(b:Nat):(Di C b).length≤max C.length (b+1):=by
 unfold Di
 rw [List.length_set]
 exact (It C b).2.2
theorem NatL.rep{vs:Array Value}{L:List Nat}(h:NatL vs L)(k tk:Nat):NatL (vs++Array.replicate k (.int ((0:Nat):Int) tk)) (L++List.replicate k 0):=by
 unfold NatL IntsL at *
 rw [Array.toList_append,List.map_append,List.map_append,List.map_append,h,Array.toList_replicate,List.map_replicate,List.map_replicate,List.map_replicate];rfl
section
variable {w:World}{os:OsState}(b1 b2:Bool)(g it:Nat)(f:WsK)
theorem Uq{cs:Array Value}{C:List Nat}(hC:NatL cs C){b:Nat}(hb:¬ b < C.length)(hb2:b≤100)(i n t:Nat)(v:WsV)(o:OV)(ec:Nat)(ps:LO) (hv:v.b=(b:Int)) (hx:f.x.cps[i]?=some 9):
  ∃(cs2:Array Value),NatL cs2 (Di C b)∧∀(S:Nat→Slot) (res:Result) (l':LO) (n' t' g':Nat),
   Does (Z w os b1 b2) (F8 w.params f.L it) (Ab (Dq f.x f.tx) S 0) ([(f.L+310,D9 w.params f ⟨n+2,0,t+617,v.n+1,t+601,v.m+1,t+604⟩ (.s (o.key (t+599)) (.str ⟨#[9]⟩ (t+598)))),(it+310,Bk f.x f.tx (i+1)),(n+312,Aa cs2 0),(v.q+310,Aa cs ec)]++ps) (n+313) (t+619) g res l' n' t' g' →
   Does (Z w os b1 b2) (F8 w.params f.L it) (Ab (Dq f.x f.tx) S 0) ([(f.L+310,D9 w.params f v o),(it+310,Bk f.x f.tx i),(v.q+310,Aa cs ec)]++ps) (n+310) (t+598) g res l' n' t' g':=by
 have hs:=hC.size
 have h1:Ro #[Value.int 0 (t+608)] (b - C.length+1)=Array.replicate (b - C.length+1) (.int 0 (t+608)):=A1g _ _
 have hpad:Eb C b=C++List.replicate (b - C.length+1) 0:=by unfold Eb;rw [if_neg hb]
 have hP:NatL (cs++Array.replicate (b - C.length+1) (.int ((0:Nat):Int) (t+608))) (Eb C b):=by rw [hpad];exact hC.rep _ _
 obtain ⟨ty,hy⟩:=hP.nth (i:=b) (It C b).1
 refine ⟨_,hP.set b ((Eb C b).getD b 0+1) (t+616),fun S res l' n' t' g' next=>?_⟩
 have hz:v.b - (cs.size:Int)+1=((b - C.length+1:Nat):Int):=by rw [hv,hs];lia
 refine Vp (w:=w) (os:=os) (S:=S) n t g it i f v o cs (Array.replicate (b - C.length+1) (.int ((0:Nat):Int) (t+608))) (cs++Array.replicate (b - C.length+1) (.int ((0:Nat):Int) (t+608))) ec (((Eb C b).getD b 0:Nat):Int) ty ps b1 b2
  ⟨Ae fun bl=>Fw hx,Aw,Aw,Ae fun bl=>Bw (by lia),Re (decide_eq_true (by rw [hv,hs];lia)),Ae fun bl=>Bw (by lia),I8,Aw,Ae (fun bl=>?_) (hn:=by simp),Ae (fun bl=>?_) (hn:=by simp),Ae fun bl=>Ba (by lia) (by lia) (by rw [hv,Int.toNat_natCast];exact hy),Aw,Ae fun bl=>Fp (by lia) (by rw [hP.size,hv];have:=(It C b).1;exact N8 this) (by lia),trivial⟩ ?_
 ·have:=Y4 (z:=Z w os b1 b2) (bl:=bl) (a:=n+310) (vs:=#[.int 0 (t+608)]) (x:=v.b - (cs.size:Int)+1) (u:=t+613) (e:=0) (n:=n+311) (t:=t+614) (g:=g) (A28 hz) (by lia) (by simp)
  rw [show (v.b - (cs.size:Int)+1).toNat=b - C.length+1 by lia,h1] at this
  exact this
 ·refine Pp ?_
  rw [hs,Array.size_replicate]
  exact Nat.le_trans (show _≤300 by lia) (by decide)
 ·rw [show v.b.toNat=b by lia]
  exact next
theorem A8b(r:List Nat):∀(i n t:Nat) (v:WsV) (o:OV) (cs:Array Value) (ec:Nat) (C:List Nat) (b nn m:Nat) (ps:LO),f.x.cps.toList.drop i=r→(∀c∈r,c=32∨c=9)→NatL cs C→v.b=(b:Int)→v.n=(nn:Int)→v.m=(m:Int)→b+r.length≤100→C.length≤101 →
  ∃(n' t':Nat) (v':WsV) (o':OV) (cs':Array Value) (ec' y:Nat),n≤n'∧NatL cs' (Bt r C b nn m).1∧v'.b=(((Bt r C b nn m).2.1:Nat):Int)∧v'.n=(((Bt r C b nn m).2.2.1:Nat):Int)∧v'.m=(((Bt r C b nn m).2.2.2:Nat):Int)∧(v'.q=v.q∨n≤v'.q) ∧
  ∀S,Does (Z w os b1 b2) (F8 w.params f.L it) (Ab (Dq f.x f.tx) S 0) ([(f.L+310,D9 w.params f v o),(it+310,Bk f.x f.tx i),(v.q+310,Aa cs ec)]++ps) (n+310) (t+598) g (.ok .next)
   ([(f.L+310,D9 w.params f v' o'),(it+310,H7 y),(v'.q+310,Aa cs' ec')]++ps) (n'+310) (t'+598) g:=by
 induction r with
 |nil=>
  intro i n t v o cs ec C b nn m ps hr _ hC hb hn hm hz hl
  have hi:f.x.cps[i]?=none:=by
   rw [← Array.getElem?_toList]
   rw [List.getElem?_eq_none]
   have:=congrArg List.length hr
   rw [List.length_drop] at this
   simp only [List.length_nil] at this
   lia
  refine Lj (n+2) t v o cs ec i ⟨Er,hC,hb,hn,hm,.inl rfl,fun S=>?_⟩
  have X:=Tn (w:=w) (os:=os) (S:=S) n t g it i f.L f.x f.tx ((f.L+310,D9 w.params f v o)::(v.q+310,Aa cs ec)::ps) b1 b2 ⟨Ae (fun bl=>Tv hi) (hn:=by simp),trivial⟩
  exact X.perm (List.Perm.swap ..) (List.Perm.swap ..)
 |cons c r ih=>
  intro i n t v o cs ec C b nn m ps hr hc hC hb hn hm hz hl
  have hil:i < f.x.cps.toList.length:=by
   rcases Nat.lt_or_ge i f.x.cps.toList.length with h | h
   ·exact h
   ·rw [List.drop_eq_nil_of_le h] at hr;cases hr
  rw [List.drop_eq_getElem_cons hil] at hr
  obtain ⟨hcc,hr2⟩:=List.cons.inj hr
  subst hcc
  have hx:f.x.cps[i]?=some f.x.cps.toList[i]:=by rw [← Array.getElem?_toList,List.getElem?_eq_getElem hil]
  have hc':∀x∈r,x=32∨x=9:=fun x hx=>hc x (.tail _ hx)
  have h9:=hc _ (.head _)
  generalize f.x.cps.toList[i]=c at hx h9
  rw [List.length_cons] at hz
  unfold Bt
  have hs:=hC.size
  by_cases h32:c=32
  ·subst h32
   rw [if_pos rfl]
   refine Af fun Gz hGz=>?_
   obtain ⟨n',t',v',o',cs',ec',y,h1,h2,h3,h4,h5,h6,D⟩:=ih (i+1) n (t+8) ⟨v.q,v.b+1,t+604,v.n+1,t+601,v.m,v.tm⟩ (.s (o.key (t+599)) (.str ⟨#[32]⟩ (t+598))) cs ec C (b+1) (nn+1) m ps hr2 hc' hC (by show v.b+1=_;exact J6 hb) (by show v.n+1=_;exact J6 hn) hm (E0 hz) hl
   refine hGz ?_
   refine Lj n' t' v' o' cs' ec' y ⟨h1,h2,h3,h4,h5,h6,fun S=>?_⟩
   have D:=D S
   have X:=O1 (w:=w) (os:=os) (S:=S) n t g it i f v o ((v.q+310,Aa cs ec)::ps) b1 b2 ⟨Ae fun bl=>Fw hx,Aw,Aw,trivial⟩ D
   exact X
  ·obtain rfl:c=9:=h9.resolve_left h32
   rw [if_neg (by decide)]
   have hl2:=Qo C b
   by_cases hbC:b < C.length
   ·refine Af fun Gz hGz=>?_
    obtain ⟨ty,hy⟩:=hC.nth (i:=b) hbC
    have hW:Di C b=C.set b (C.getD b 0+1):=by unfold Di Eb;rw [if_pos hbC]
    obtain ⟨n',t',v',o',cs',ec',y,h1,h2,h3,h4,h5,h6,D⟩:=ih (i+1) n (t+14) ⟨v.q,0,t+610,v.n+1,t+601,v.m+1,t+604⟩ (.s (o.key (t+599)) (.str ⟨#[9]⟩ (t+598))) (cs.setIfInBounds b (.int ((C.getD b 0+1:Nat):Int) (t+609))) ec (Di C b) 0 (nn+1) (m+1) ps hr2 hc' (by rw [hW];exact hC.set _ _ _) rfl (by show v.n+1=_;exact J6 hn) (by show v.m+1=_;exact J6 hm) (by lia) (by lia)
    refine hGz ?_
    refine Lj n' t' v' o' cs' ec' y ⟨h1,h2,h3,h4,h5,h6,fun S=>?_⟩
    have D:=D S
    refine W6 (w:=w) (os:=os) (S:=S) n t g it i f v o cs ec ((C.getD b 0:Nat):Int) ty ps b1 b2
     ⟨Ae fun bl=>Fw hx,Aw,Aw,Ae fun bl=>Bw (by lia),Re (decide_eq_false (by rw [hb,hs];lia)),Ae fun bl=>Ba (A28 hb) (by lia) (by rw [hb,Int.toNat_natCast];exact hy),Aw,Ae fun bl=>Fp (A28 hb) (by lia) (by lia),trivial⟩ ?_
    rw [show v.b.toNat=b by lia]
    exact D
   ·refine Af fun Gz hGz=>?_
    obtain ⟨cs2,hC2,N⟩:=Uq (w:=w) (os:=os) b1 b2 g it f hC hbC (C6 hz) i n t v o ec ps hb hx
    obtain ⟨n',t',v',o',cs',ec',y,h1,h2,h3,h4,h5,h6,D⟩:=ih (i+1) (n+3) (t+21) ⟨n+2,0,t+617,v.n+1,t+601,v.m+1,t+604⟩ (.s (o.key (t+599)) (.str ⟨#[9]⟩ (t+598))) cs2 0 (Di C b) 0 (nn+1) (m+1) ps hr2 hc' hC2 rfl (by show v.n+1=_;exact J6 hn) (by show v.m+1=_;exact J6 hm) (by lia) (by lia)
    refine hGz ?_
    refine Lj n' t' v' o' cs' ec' y ⟨C6 h1,h2,h3,h4,h5,.inr (by rcases h6 with h6 | h6;(have h6:v'.q=n+2:=h6;lia);exact C6 h6),fun S=>?_⟩
    have D:=(D S).frame [(v.q+310,Aa cs ec)] (fun u hu=>by
     simp only [List.cons_append,List.nil_append,List.mem_cons] at hu
     simp only [List.cons_append,List.nil_append,List.map_cons,List.mem_cons]
     rcases hu with rfl | rfl | rfl | hu
     ·exact .inl (.inl rfl)
     ·exact .inl (.inr (.inl rfl))
     ·rcases h6 with h6 | h6
      ·exact .inl (.inr (.inr (.inl (by show v'.q+310=n+2+310;rw [h6]))))
      ·exact .inr (by show n+3+310≤v'.q+310;exact G2 h6)
     ·exact .inl (.inr (.inr (.inr (List.mem_map.mpr ⟨u,hu,rfl⟩)))))
    refine (N S _ _ _ _ _ (D.perm ?_ (List.Perm.refl _))).forget (List.sublist_append_left _ _)
    refine .cons _ (.cons _ (.cons _ ?_))
    exact List.perm_append_comm
end
end
section
theorem Pi{l:List Nat}{i c:Nat}{r:List Nat}(h:l.drop i=c::r):l[i]?=some c∧l.drop (i+1)=r:=by
 have hil:i < l.length:=by
  rcases Nat.lt_or_ge i l.length with h' | h'
  ·exact h'
  ·rw [List.drop_eq_nil_of_le h'] at h;cases h
 rw [List.drop_eq_getElem_cons hil] at h
 obtain ⟨h1,h2⟩:=List.cons.inj h
 exact ⟨by rw [List.getElem?_eq_getElem hil,h1],h2⟩
section
variable {w:World}{os:OsState}(b1 b2:Bool)(g it:Nat)(f:WsK)
theorem A8k(r:List Nat)(hr9:∀c∈r,c=32∨c=9)(k:Nat):∀(i n t:Nat) (v:WsV) (o:OV) (b nn m:Nat),f.x.cps.toList.drop i=List.replicate k 32++9::r→v.b=(b:Int)→v.n=(nn:Int)→v.m=(m:Int)→b+k+r.length≤99 →
  ∃(n' t':Nat) (v':WsV) (o':OV) (cs':Array Value) (ec' y:Nat),n≤n'∧n≤v'.q∧NatL cs' (Bt (List.replicate k 32++9::r) [] b nn m).1∧v'.b=(((Bt (List.replicate k 32++9::r) [] b nn m).2.1:Nat):Int)∧v'.n=(((Bt (List.replicate k 32++9::r) [] b nn m).2.2.1:Nat):Int)∧v'.m=(((Bt (List.replicate k 32++9::r) [] b nn m).2.2.2:Nat):Int) ∧
  ∀S,Does (Z w os b1 b2) (F8 w.params f.L it) (Ab (Dq f.x f.tx) S 0) [(f.L+310,D9 w.params f v o),(it+310,Bk f.x f.tx i),(v.q+310,Aa #[] 0)] (n+310) (t+598) g (.ok .next)
   [(f.L+310,D9 w.params f v' o'),(it+310,H7 y),(v.q+310,Aa #[] 0),(v'.q+310,Aa cs' ec')] (n'+310) (t'+598) g:=by
 induction k with
 |zero=>
  intro i n t v o b nn m hd hb hn hm hz
  refine Af fun Gz hGz=>?_
  obtain ⟨hx,hd⟩:=Pi hd
  rw [Array.getElem?_toList] at hx
  have hl2:=Qo [] b
  obtain ⟨cs2,hC2,N⟩:=Uq (w:=w) (os:=os) b1 b2 g it f (cs:=#[]) (C:=[]) rfl (b:=b) (by simp) (Aji hz) i n t v o 0 [] hb hx
  refine A5n (A8b (w:=w) (os:=os) b1 b2 g it f r (i+1) (n+3) (t+21) ⟨n+2,0,t+617,v.n+1,t+601,v.m+1,t+604⟩ (.s (o.key (t+599)) (.str ⟨#[9]⟩ (t+598))) cs2 0 (Di [] b) 0 (nn+1) (m+1) [(v.q+310,Aa #[] 0)] hd hr9 hC2 rfl (by show v.n+1=_;exact J6 hn) (by show v.m+1=_;exact J6 hm) (by lia) (by simp only [List.length_nil] at hl2;lia)) fun n' t' v' o' cs' ec' y h1 h2 h3 h4 h5 h6 D=>?_
  refine hGz ?_
  refine Lj n' t' v' o' cs' ec' y ⟨C6 h1,by rcases h6 with h6 | h6;(have h6:v'.q=n+2:=h6;lia);exact C6 h6,h2,h3,h4,h5,fun S=>?_⟩
  have X:=N S _ _ _ _ _ (D S)
  exact X.perm (List.Perm.refl _) (.cons _ (.cons _ (List.Perm.swap ..)))
 |succ k ih=>
  intro i n t v o b nn m hd hb hn hm hz
  rw [List.replicate_succ,List.cons_append] at hd ⊢
  refine Af fun Gz hGz=>?_
  obtain ⟨hx,hd⟩:=Pi hd
  rw [Array.getElem?_toList] at hx
  obtain ⟨n',t',v',o',cs',ec',y,h1,h2,h3,h4,h5,h6,D⟩:=ih (i+1) n (t+8) ⟨v.q,v.b+1,t+604,v.n+1,t+601,v.m,v.tm⟩ (.s (o.key (t+599)) (.str ⟨#[32]⟩ (t+598))) (b+1) (nn+1) m hd (by show v.b+1=_;exact J6 hb) (by show v.n+1=_;exact J6 hn) hm (by lia)
  refine hGz ?_
  unfold Bt
  rw [if_pos rfl]
  refine Lj n' t' v' o' cs' ec' y ⟨h1,h2,h3,h4,h5,h6,fun S=>?_⟩
  exact O1 (w:=w) (os:=os) (S:=S) n t g it i f v o [(v.q+310,Aa #[] 0)] b1 b2 ⟨Ae fun bl=>Fw hx,Aw,Aw,trivial⟩ (D S)
end
structure LeadK where
 C:Nat
 D:Nat
 N:Nat
 Q:Nat
 x:Str
 tx:Nat
 k1:Nat
 k2:Nat
 k3:Nat
 k4:Nat
 k5:Nat
 b:Nat
 tb:Nat
 n:Nat
 tn:Nat
 m:Nat
 tm:Nat
 s:Bool
 cs:Array Value
def Cb(P:Params)(k:LeadK):LO:=[(k.C+310,Bg P (k.D+310)),(k.D+310,Bh P k.x k.tx k.k1 k.k2 k.k3 k.k4 k.k5 (k.N+310) (.int (k.n:Int) k.tn) (.int (k.m:Int) k.tm) (.bool k.s)),(k.N+310,Ap (.ref (k.Q+310)) (.int (k.b:Int) k.tb)),(k.Q+310,tup k.cs)]
section
variable {w:World}{os:OsState}(b1 b2:Bool)(n t g:Nat)(x:Str)(tx:Nat)(r:List Nat)(k:Nat)
theorem A86(hx:x.cps.toList=List.replicate k 32++9::r)(hr:∀c∈r,c=32∨c=9)(hz:k+r.length≤99) (h7:(Bt (List.replicate k 32++9::r) [] 0 0 0).1.length < 8):
  ∃(n' t':Nat) (K:LeadK),n≤n'∧K.C=n+1∧K.D=n∧n≤K.N∧n≤K.Q∧NatL K.cs (Bt (List.replicate k 32++9::r) [] 0 0 0).1∧K.b=(Bt (List.replicate k 32++9::r) [] 0 0 0).2.1∧K.m=(Bt (List.replicate k 32++9::r) [] 0 0 0).2.2.2 ∧
  ∀S,Does (Z w os b1 b2) (.call (.ref 83) ⟨[.str x tx],[]⟩) (Ab [kF,kB] S 0) [] (n+310) (t+598) g (.ok (.ret (.ref (n+311)))) (Cb w.params K) (n'+310) (t'+598) g:=by
 refine A5n (A8k (w:=w) (os:=os) b1 b2 g (n+8) (wsK n t x tx) r hr k 0 (n+9) (t+14) ⟨n+7,0,t+607,0,t+607,0,t+607⟩ .n 0 0 0 (by rw [List.drop_zero];exact hx) rfl rfl rfl (by lia)) fun n1 t1 v o cs ec y h1 h2 h3 h4 h5 h6 D=>?_
 generalize Bt (List.replicate k 32++9::r) [] 0 0 0=W at *
 obtain ⟨vq,vb,vtb,vn,vtn,vm,vtm⟩:=v
 dsimp only at h2 h4 h5 h6
 subst h4 h5 h6
 refine Wn (n1+3) (t1+11) ⟨n+1,n,n1+2,n1+1,x,tx,t+601,t1+599,t1+601,t1+603,t1+608,W.2.1,vtb,W.2.2.1,vtn,W.2.2.2,vtm,decide ((cs.size:Int)≤1),cs⟩ ⟨X4 h1,rfl,rfl,by show n≤n1+2;exact X4 h1,by show n≤n1+1;exact X4 h1,h3,rfl,rfl,fun S=>?_⟩
 obtain ⟨X,hX⟩:=D6 cs
 have hs:=h3.size
 refine U7 (w:=w) (os:=os) (S:=S) n t g x tx n1 t1 y ⟨vq,(W.2.1:Int),vtb,(W.2.2.1:Int),vtn,(W.2.2.2:Int),vtm⟩ o cs ec (decide ((cs.size:Int)≤1)) b1 b2
  ⟨Ae (fun bl=>Sm ?_) (hn:=by simp),Bb D (hn:=?_),Bb (fun S=>?_) (hn:=?_),Ae fun bl=>Bw (by lia),Afl rfl,trivial⟩
 ·rw [← Array.all_toList,hx,List.all_eq_true]
  intro c hc
  rcases List.mem_append.mp hc with hc | hc
  ·rw [List.eq_of_mem_replicate hc];decide
  ·rcases List.mem_cons.mp hc with rfl | hc
   ·decide
   ·rcases hr c hc with rfl | rfl<;>decide
 ·intro u hu
  rw [List.mem_singleton.mp hu]
  show n+319≤vq+310
  exact Sy h2
 ·have T:=A89 (w:=w) (os:=os) (S:=S) n1 (t1+4) g vq ec x tx X cs.size (by lia) b1 b2 trivial
  rw [← hX] at T
  exact T
 ·intro u hu
  rw [List.mem_singleton.mp hu]
  show n1+310≤n1+311
  exact Dr
end
end
def ilF(P:Params):FuncData:=Fe (A43 P)
abbrev X3:List Kd:=[kF,kF,kB]
abbrev Ff:List Kd:=[kL,kF,kF,kB]
def O9(P:Params)(L it:Nat):Code:=Es (As (Bi (ilF P)) 2) (.ref (it+310)) (C9 (ilF P) 52 (L+310))
structure IlK where
 L:Nat
 C:Nat
 Q:Nat
 e:Int
 te:Nat
 b:Int
 tb:Nat
 k1:Nat
 k2:Nat
 k3:Nat
 k4:Nat
 k5:Nat
def G9(P:Params)(f:IlK)(il:Int)(ti:Nat)(o:OV):Obj:=match o with
 |.n=>B4 #[kv P "self" f.k1 (.ref (f.C+310)),kv P "tabsize" f.k2 (.int f.e f.te),kv P "count" f.k3 (.ref (f.Q+310)),kv P "trailing" f.k4 (.int f.b f.tb),kv P "il" f.k5 (.int il ti)] 5
 |.s k6 v=>B4 #[kv P "self" f.k1 (.ref (f.C+310)),kv P "tabsize" f.k2 (.int f.e f.te),kv P "count" f.k3 (.ref (f.Q+310)),kv P "trailing" f.k4 (.int f.b f.tb),kv P "il" f.k5 (.int il ti),kv P "i" k6 v] 6
abbrev Q35(k:LeadK)(n:Nat)(t:Nat)(x0_:Nat)(g:Nat)(x1_:Nat)(x2_:Nat):=(qC (.call (.builtin "len") ⟨[.ref (k.4+310)],[]⟩) [(k.4+310,Cg k.cs)] (n+314) (t+x0_) g (.ok (.ret (.int (↑ k.cs.size) (t+x1_)))) [3] [(tup k.cs)] [] (n+314) (t+x2_) g:Ah)
theorem Th(n t g:Nat)(k:LeadK)(b1 b2:Bool) (hL:ObRs (Z w os b1 b2) [Q35 k n t 602 g 603 604,J5 (↑k.cs.size) (t+603) 1 (t+604) (n+314) (t+605) g,qC (.call (.builtin "int.__gt__") ⟨[.int (↑k.b) k.13,.int (↑k.cs.size - 1) (t+605)],[]⟩) [] (n+317) (t+606) g (.ok (.ret (.bool false))) [] [] [] (n+317) (t+606) g]):Does (Z w os b1 b2) (.call (.ref 45) ⟨[.ref (k.C+310)],[]⟩) (Ab X3 S 0) ([(k.C+310,Bg w.params (k.D+310)),(k.D+310,Bh w.params k.x k.tx k.k1 k.k2 k.k3 k.k4 k.k5 (k.N+310) (.int (k.n:Int) k.tn) (.int (k.m:Int) k.tm) (.bool k.s)),(k.N+310,Ap (.ref (k.Q+310)) (.int (k.b:Int) k.tb)),(k.Q+310,tup k.cs)]) (n+310) (t+598) g (.ok (.ret (.int (↑k.cs.size - 1) (t+605)))) (Cb w.params k) (n+319) (t+606) g:=
 Acb 177 0x183060e162c50b16005801630001162c50b1600580163000c183058b142c580160058c002c00a002850000180810c0408102183060c24387081c3800e003870e10387001c0070e1c2070e003800e1c004001020406041020204082000408104180010c18081 [0,1,2,3] hL
def Fm(w:World)(n t g it:Nat)(f:IlK)(i left:Int)(il:Int)(ti:Nat)(cs:Array Value)(y:Int)(ty:Nat)(o:OV):List Ah:=[Q0 it i left n t g (.ok (.ret (.int i (t+598)))) 1 (i+1) (left - 1) [] 310 599,
 C5 i (t+598) f.e f.5 (n+310) (t+600) g,
 qC (.call (.builtin "tuple.__getitem__") ⟨[.ref (f.3+310),.int i (t+598)],[]⟩) [(f.3+310,Cg cs)] (n+310) (t+601) g (.ok (.ret (.int y ty))) [2] [(tup cs)] [] (n+310) (t+601) g,
 Dn (i.fdiv f.e) (t+600) y ty (n+310) (t+601) g,
 B5 il ti (i.fdiv f.e*y) (t+601) (n+310) (t+602) g]
noncomputable def Yc(w:World)(os:OsState)(S:Nat→Slot)(n:Nat)(t:Nat)(g:Nat)(it:Nat)(f:IlK)(i:Int)(left:Int)(il:Int)(ti:Nat)(cs:Array Value)(y:Int)(ty:Nat)(o:OV)(b1 b2:Bool):Ao:=B7 (Ak (Z w os b1 b2) (Ab (kF::Ff) S 0) 39 (O9 w.params f.L it) ([(f.L+310,G9 w.params f il ti o),(it+310,Ac i left 1),(f.Q+310,tup cs)]) (n+310) (t+598) g A1w (Fm w n t g it f i left il ti cs y ty o) []) [0,1,2] (Fm w n t g it f i left il ti cs y ty o)
noncomputable def Zh(w:World)(os:OsState)(S:Nat→Slot)(n:Nat)(t:Nat)(g:Nat)(it:Nat)(f:IlK)(i:Int)(left:Int)(il:Int)(ti:Nat)(cs:Array Value)(y:Int)(ty:Nat)(o:OV)(b1 b2:Bool):Ao:=B6 (Ak (Z w os b1 b2) (Ab (kF::Ff) S 0) 39 (O9 w.params f.L it) ([(f.L+310,G9 w.params f il ti o),(it+310,Ac i left 1),(f.Q+310,tup cs)]) (n+310) (t+598) g A1w (Fm w n t g it f i left il ti cs y ty o) []) (.again (O9 w.params f.L it)) ([(f.L+310,G9 w.params f (il+i.fdiv f.e*y) (t+602) (.s (o.key (t+599)) (.int i (t+598)))),(it+310,Ac (i+1) (left-1) 1),(f.Q+310,tup cs)]) ([]) (n+310) (t+604) g (Fm w n t g it f i left il ti cs y ty o)
theorem A8j(w:World)(os:OsState)(S:Nat→Slot)(n:Nat)(t:Nat)(g:Nat)(it:Nat)(f:IlK)(i:Int)(left:Int)(il:Int)(ti:Nat)(cs:Array Value)(y:Int)(ty:Nat)(o:OV):∀(b1 b2:Bool),Yc w os S n t g it f i left il ti cs y ty o b1 b2=Zh w os S n t g it f i left il ti cs y ty o b1 b2
 |false,_=>by cases o<;>kernel_rfl
 |true,_=>by cases o<;>kernel_rfl
theorem T9(n t g it:Nat)(f:IlK)(i left:Int)(il:Int)(ti:Nat)(cs:Array Value)(y:Int)(ty:Nat)(o:OV)(b1 b2:Bool) (hL:ObRs (Z w os b1 b2) (Fm w n t g it f i left il ti cs y ty o))
  (next:Does (Z w os b1 b2) (O9 w.params f.L it) (Ab (kF::Ff) S 0) ([(f.L+310,G9 w.params f (il+i.fdiv f.e*y) (t+602) (.s (o.key (t+599)) (.int i (t+598)))),(it+310,Ac (i+1) (left-1) 1),(f.Q+310,tup cs)]) (n+310) (t+604) g res l' n' t' g'):Does (Z w os b1 b2) (O9 w.params f.L it) (Ab (kF::Ff) S 0) ([(f.L+310,G9 w.params f il ti o),(it+310,Ac i left 1),(f.Q+310,tup cs)]) (n+310) (t+598) g res l' n' t' g':=
 B2 39 A1w [0,1,2] hL next (by kernel_rfl) (by decide) (fun p=>congrFun (A8j w os S n t g it f i left il ti cs y ty o  b1 b2) p)
theorem Mu(n t g L it:Nat)(i:Int)(b1 b2:Bool) (hL:ObRs (Z w os b1 b2) [Q0 it i 0 n t g (.error (.ref (n+311))) 0 i 0 [(n+310,Cg #[]),(n+311,(At ((n+310).add 0)))] 312 598]):Does (Z w os b1 b2) (O9 w.params L it) (Ab (kF::Ff) S 0) ([(it+310,Ac i 0 1)]) (n+310) (t+598) g (.ok .next) ([(it+310,(Ac i 0 1))]) (n+312) (t+598) g:=
 Ce 5 0x10082 [0] hL
noncomputable def Ia(n t:Nat)(k:LeadK)(e:Int)(te:Nat):IlK:=⟨n,k.C,k.Q,e,te,k.b,k.tb,t+598,t+599,t+601,t+602,t+604⟩
def H1(w:World)(n t g:Nat)(k:LeadK)(e:Int)(te:Nat)(o:OV)(il:Int)(ti t2:Nat)(x:Int):List Ah:=[Q35 k n t 605 g 606 607,
 qC (.call (.builtin "range.__iter__") ⟨[.ref (n+314)],[]⟩) [(n+314,E3 "range" #[.int e te,.int (↑k.cs.size) (t+606),.int 1 (t+607)])] (n+315) (t+608) g (.ok (.ret (.ref (n+315)))) [8] [(Pc e te (↑k.cs.size) (t+606) 1 (t+607))] [(n+315,(Ac e (Builtin.Range.rangeSize e (↑k.cs.size) 1) 1))] (n+316) (t+608) g,
 qK (kF::Ff) (O9 w.params n (n+5)) [(n+310,G9 w.params (Ia n t k e te) 0 (t+603) .n),(n+315,Ac e (Builtin.Range.rangeSize e (k.cs.size:Int) 1) 1),(k.Q+310,tup k.cs)] (n+316) (t+608) g (.ok .next) [4,9,3] [G9 w.params (Ia n t k e te) il ti o,Ac x 0 1,tup k.cs] [] (n+318) (t2+598) g,
 B5 il ti (↑k.m) k.17 (n+318) (t2+599) g,
 Dn ((Ia n t k e te).e) te (il+↑k.m) (t2+599) (n+318) (t2+600) g,
 B5 ((Ia n t k e te).b) k.13 ((Ia n t k e te).e*(il+↑k.m)) (t2+600) (n+318) (t2+601) g]
noncomputable def A4l(w:World)(os:OsState)(S:Nat→Slot)(n:Nat)(t:Nat)(g:Nat)(k:LeadK)(e:Int)(te:Nat)(il:Int)(ti:Nat)(t2:Nat)(x:Int)(o:OV)(b1 b2:Bool):Ao:=B7 (Ak (Z w os b1 b2) (Ab Ff S 0) 174 (.call (.ref 52) ⟨[.ref (k.C+310),.int e te],[]⟩) ([(k.C+310,Bg w.params (k.D+310)),(k.D+310,Bh w.params k.x k.tx k.k1 k.k2 k.k3 k.k4 k.k5 (k.N+310) (.int (k.n:Int) k.tn) (.int (k.m:Int) k.tm) (.bool k.s)),(k.N+310,Ap (.ref (k.Q+310)) (.int (k.b:Int) k.tb)),(k.Q+310,tup k.cs)]) (n+310) (t+598) g A1y (H1 w n t g k e te o il ti t2 x) []) [0,1,2,3] (H1 w n t g k e te o il ti t2 x)
noncomputable def A1c(w:World)(os:OsState)(S:Nat→Slot)(n:Nat)(t:Nat)(g:Nat)(k:LeadK)(e:Int)(te:Nat)(il:Int)(ti:Nat)(t2:Nat)(x:Int)(o:OV)(b1 b2:Bool):Ao:=B6 (Ak (Z w os b1 b2) (Ab Ff S 0) 174 (.call (.ref 52) ⟨[.ref (k.C+310),.int e te],[]⟩) ([(k.C+310,Bg w.params (k.D+310)),(k.D+310,Bh w.params k.x k.tx k.k1 k.k2 k.k3 k.k4 k.k5 (k.N+310) (.int (k.n:Int) k.tn) (.int (k.m:Int) k.tm) (.bool k.s)),(k.N+310,Ap (.ref (k.Q+310)) (.int (k.b:Int) k.tb)),(k.Q+310,tup k.cs)]) (n+310) (t+598) g A1y (H1 w n t g k e te o il ti t2 x) []) (.res (.ok (.ret (.int ((Ia n t k e te).b+(Ia n t k e te).e*(il+↑k.m)) (t2+601))))) (Cb w.params k) ([]) (n+318) (t2+602) g (H1 w n t g k e te o il ti t2 x)
theorem Ab6(w:World)(os:OsState)(S:Nat→Slot)(n:Nat)(t:Nat)(g:Nat)(k:LeadK)(e:Int)(te:Nat)(il:Int)(ti:Nat)(t2:Nat)(x:Int)(o:OV):∀(b1 b2:Bool),A4l w os S n t g k e te il ti t2 x o b1 b2=A1c w os S n t g k e te il ti t2 x o b1 b2
 |false,false=>by cases o<;>kernel_rfl
 |false,true=>by cases o<;>kernel_rfl
 |true,false=>by cases o<;>kernel_rfl
 |true,true=>by cases o<;>kernel_rfl
theorem U1(n t g:Nat)(k:LeadK)(e:Int)(te:Nat)(o:OV)(il:Int)(ti t2:Nat)(x:Int)(b1 b2:Bool) (hL:ObRs (Z w os b1 b2) (H1 w n t g k e te o il ti t2 x)):Does (Z w os b1 b2) (.call (.ref 52) ⟨[.ref (k.C+310),.int e te],[]⟩) (Ab Ff S 0) ([(k.C+310,Bg w.params (k.D+310)),(k.D+310,Bh w.params k.x k.tx k.k1 k.k2 k.k3 k.k4 k.k5 (k.N+310) (.int (k.n:Int) k.tn) (.int (k.m:Int) k.tm) (.bool k.s)),(k.N+310,Ap (.ref (k.Q+310)) (.int (k.b:Int) k.tb)),(k.Q+310,tup k.cs)]) (n+310) (t+598) g (.ok (.ret (.int ((Ia n t k e te).b+(Ia n t k e te).e*(il+↑k.m)) (t2+601)))) (Cb w.params k) (n+318) (t2+602) g:=
 Cc 174 A1y [0,1,2,3] hL (by decide) (fun p=>congrFun (Ab6 w os S n t g k e te il ti t2 x o  b1 b2) p)
section
noncomputable def ilS(C:List Nat)(e:Nat):Nat→Nat→Nat→Nat
 |0,_,s=>s
 |k+1,i,s=>ilS C e k (i+1) (s+i / e*C.getD i 0)
def Bj(C:List Nat)(b m e:Nat):Nat:=b+e*(ilS C e (C.length - e) e 0+m)
theorem Kr(i e:Nat):((i:Int)).fdiv (e:Int)=((i / e:Nat):Int):=by
 rw [Int.fdiv_eq_ediv_of_nonneg _ (Int.natCast_nonneg e),Int.natCast_ediv]
section
variable {w:World}{os:OsState}(b1 b2:Bool)(g it:Nat)(f:IlK)(e:Nat)(cs:Array Value)(C:List Nat)
theorem A9v (hf:f.e=(e:Int)) (he:1≤e∧e≤40) (hC:NatL cs C) (h8:C.length≤100) (k:Nat):∀(i n t s ti:Nat) (o:OV),i+k=C.length →
  ∃(t' ti':Nat) (o':OV) (y:Int),∀S,Does (Z w os b1 b2) (O9 w.params f.L it) (Ab (kF::Ff) S 0) [(f.L+310,G9 w.params f (s:Int) ti o),(it+310,Ac (i:Int) (k:Int) 1),(f.Q+310,tup cs)] (n+310) (t+598) g (.ok .next)
   [(f.L+310,G9 w.params f ((ilS C e k i s:Nat):Int) ti' o'),(it+310,Ac y 0 1),(f.Q+310,tup cs)] (n+312) (t'+598) g:=by
 induction k with
 |zero=>
  intro i n t s ti o hi
  refine Ci t ti o (i:Int) (fun S=>?_)
  have X:=(Mu (w:=w) (os:=os) (S:=S) n t g f.L it (i:Int) b1 b2 ⟨Ae (fun bl=>Bm (by decide)) (hn:=by simp),trivial⟩).frame [(f.L+310,G9 w.params f (s:Int) ti o),(f.Q+310,tup cs)] newer.same
  exact X.perm (List.Perm.swap ..) (List.Perm.swap ..)
 |succ k ih=>
  intro i n t s ti o hi
  refine Af fun Gz hGz=>?_
  obtain ⟨ty,hy⟩:=hC.nth (i:=i) (E1 hi)
  obtain ⟨t',ti',o',y,D⟩:=ih (i+1) n (t+6) (s+i / e*C.getD i 0) (t+602) (.s (o.key (t+599)) (.int (i:Int) (t+598))) (E4 hi)
  refine hGz ?_
  refine Ci t' ti' o' y (fun S=>?_)
  have D:=D S
  have hd:=Kr i e
  have hle:i / e≤i:=Nat.div_le_self ..
  refine T9 (w:=w) (os:=os) (S:=S) n t g it f (i:Int) ((k+1:Nat):Int) (s:Int) ti cs ((C.getD i 0:Nat):Int) ty o b1 b2
   ⟨Ae fun bl=>B1 Fl,C4 (by rw [hf,beq_eq_false_iff_ne];lia) (Ew (by rw [hf];exact Bs) (by rw [hf];exact La he)),Ae fun bl=>Zy Bs (by lia) (by rw [Int.toNat_natCast];exact hy),Cy (C1 (by rw [hf,hd];exact Int.natCast_nonneg _) (by rw [hf,hd];exact Int.ofNat_le.mpr (show i / e≤1000 from Nat.le_trans hle (by lia)))),Aw,trivial⟩ ?_
  rw [show (((k+1:Nat):Int) - 1)=(k:Int) by exact Fh,show ((i:Int)+1)=((i+1:Nat):Int) by exact Fq,hf,hd]
  rw [show (s:Int)+((i / e:Nat):Int)*((C.getD i 0:Nat):Int)=((s+i / e*C.getD i 0:Nat):Int) by rw [Int.natCast_add,Int.natCast_mul]]
  exact D
end
section
variable {w:World}{os:OsState}(b1 b2:Bool)(n t g:Nat)(K:LeadK)(C:List Nat)
theorem Um(hC:NatL K.cs C)(h8:C.length≤100)(h1:1≤C.length)(hb:K.b=0):∃tk,∀S,Does (Z w os b1 b2) (.call (.ref 45) ⟨[.ref (K.C+310)],[]⟩) (Ab X3 S 0) (Cb w.params K) (n+310) (t+598) g (.ok (.ret (.int ((C.length - 1:Nat):Int) tk))) (Cb w.params K) (n+319) (t+606) g:=by
 have hs:=hC.size
 refine ⟨t+605,fun S=>?_⟩
 have X:=Th (w:=w) (os:=os) (S:=S) n t g K b1 b2 ⟨Ae fun bl=>Qm (by lia),I8,Eh (decide_eq_false (by rw [hb,hs];lia)),trivial⟩
 rw [show ((C.length - 1:Nat):Int)=(K.cs.size:Int) - 1 by rw [hs];lia]
 exact X
theorem M9(e:Nat)(te:Nat)(he:1≤e∧e≤40)(hC:NatL K.cs C)(h8:C.length≤100):
  ∃(t' tk:Nat),∀S,Does (Z w os b1 b2) (.call (.ref 52) ⟨[.ref (K.C+310),.int (e:Int) te],[]⟩) (Ab Ff S 0) (Cb w.params K) (n+310) (t+598) g (.ok (.ret (.int ((Bj C K.b K.m e:Nat):Int) tk))) (Cb w.params K) (n+318) (t'+598) g:=by
 have hs:=hC.size
 have hr:Builtin.Range.rangeSize (e:Int) (K.cs.size:Int) 1=((C.length - e:Nat):Int):=by
  rw [rangeSize_one,hs]
  split<;>lia
 have fin:∀(o:OV) (s ti t2:Nat) (x:Int),s=ilS C e (C.length - e) e 0→(∀S,Does (Z w os b1 b2) (O9 w.params n (n+5)) (Ab (kF::Ff) S 0) [(n+310,G9 w.params (Ia n t K (e:Int) te) 0 (t+603) .n),(n+315,Ac (e:Int) ((C.length - e:Nat):Int) 1),(K.Q+310,tup K.cs)] (n+316) (t+608) g (.ok .next)
   [(n+310,G9 w.params (Ia n t K (e:Int) te) (s:Int) ti o),(n+315,Ac x 0 1),(K.Q+310,tup K.cs)] (n+318) (t2+598) g)→∃(t' tk:Nat),∀S,Does (Z w os b1 b2) (.call (.ref 52) ⟨[.ref (K.C+310),.int (e:Int) te],[]⟩) (Ab Ff S 0) (Cb w.params K) (n+310) (t+598) g (.ok (.ret (.int ((Bj C K.b K.m e:Nat):Int) tk))) (Cb w.params K) (n+318) (t'+598) g:=by
  intro o s ti t2 x hS D
  refine I0 (t2+4) (t2+601) (fun S=>?_)
  have X:=U1 (w:=w) (os:=os) (S:=S) n t g K (e:Int) te o (s:Int) ti t2 x b1 b2
   ⟨Ae fun bl=>Qm (by lia),Ae (fun bl=>Be (small_one (by lia) (by lia) (by lia) (by lia))) (hn:=by simp),Bb (fun S=>by rw [hr];exact D S),Aw,Cy (C1 (show 0≤(e:Int) by exact Bs) (show (e:Int)≤1000 by exact La he)),Aw,trivial⟩
  have hv:(Ia n t K (e:Int) te).b+(Ia n t K (e:Int) te).e*((s:Int)+(K.m:Int))=((Bj C K.b K.m e:Nat):Int):=by
   show (K.b:Int)+(e:Int)*((s:Int)+(K.m:Int))=_
   unfold Bj
   rw [← hS,Int.natCast_add,Int.natCast_mul,Int.natCast_add]
  rw [hv] at X
  exact X
 rcases Nat.lt_or_ge e C.length with h | h
 ·refine Af fun Gz hGz=>?_
  refine Agr (A9v (w:=w) (os:=os) b1 b2 g (n+5) (Ia n t K (e:Int) te) e K.cs C rfl he hC h8 (C.length - e) e (n+6) (t+10) 0 (t+603) .n (by lia)) fun t' ti' o' y D=>?_
  refine hGz ?_
  exact fin o' _ ti' t' y rfl D
 ·have h0:C.length - e=0:=by lia
  refine fin .n 0 (t+603) (t+10) (e:Int) (by rw [h0];rfl) fun S=>?_
  rw [h0]
  have X:=(Mu (w:=w) (os:=os) (S:=S) (n+6) (t+10) g n (n+5) (e:Int) b1 b2 ⟨Ae (fun bl=>Bm (by decide)) (hn:=by simp),trivial⟩).frame [(n+310,G9 w.params (Ia n t K (e:Int) te) 0 (t+603) .n),(K.Q+310,tup K.cs)] newer.same
  exact X.perm (List.Perm.swap ..) (List.Perm.swap ..)
end
end
def nwF(P:Params):FuncData:=Fe (A2f P)
def J4(P:Params)(L it:Nat):Code:=Es (As (Bi (nwF P)) 2) (.ref (it+310)) (C9 (nwF P) 80 (L+310))
structure NwK where
 L:Nat
 A:Nat
 k1:Nat
 k2:Nat
 k3:Nat
 k4:Nat
 n:Int
 tn:Nat
def F4(P:Params)(f:NwK)(a b:LeadK)(o:OV):Obj:=match o with
 |.n=>B4 #[kv P "self" f.k1 (.ref (a.C+310)),kv P "other" f.k2 (.ref (b.C+310)),kv P "n" f.k3 (.int f.n f.tn),kv P "a" f.k4 (.ref (f.A+310))] 4
 |.s k v=>B4 #[kv P "self" f.k1 (.ref (a.C+310)),kv P "other" f.k2 (.ref (b.C+310)),kv P "n" f.k3 (.int f.n f.tn),kv P "a" f.k4 (.ref (f.A+310)),kv P "ts" k v] 5
noncomputable def Ix(a:Int)(ta:Nat)(b:Int)(tb:Nat)(c:Int)(tc:Nat):Obj:={cls:=.type "tuple",data:=.seq #[.int a ta,.int b tb,.int c tc]}
abbrev Q6(b:LeadK)(i:Int)(t:Nat)(w:World)(n:Nat)(x0_:Nat)(x1_:Nat)(g:Nat)(xb:Int) x2_ (x3_:Nat) (x4_:Nat):=(qK Ff (.call (.ref 52) ⟨[.ref (b.C+310),.int i (t+598)],[]⟩) [(b.C+310,Bg w.params (b.D+310)),(b.D+310,Bh w.params b.x b.tx b.k1 b.k2 b.k3 b.k4 b.k5 (b.N+310) (.int (b.n:Int) b.tn) (.int (b.m:Int) b.tm) (.bool b.s)),(b.N+310,Ap (.ref (b.Q+310)) (.int (b.b:Int) b.tb)),(b.Q+310,tup b.cs)] (n+x0_) (x1_+598) g (.ok (.ret (.int xb x2_))) [7,8,9,10] [Bg w.params (b.D+310),Bh w.params b.x b.tx b.k1 b.k2 b.k3 b.k4 b.k5 (b.N+310) (.int (b.n:Int) b.tn) (.int (b.m:Int) b.tm) (.bool b.s),Ap (.ref (b.Q+310)) (.int (b.b:Int) b.tb),tup b.cs] [] (n+x3_) (x4_+598) g:Ah)
abbrev Q7(a:LeadK)(i:Int)(t:Nat)(w:World)(n:Nat)(x0_:Nat)(x1_:Nat)(x2_:Nat)(g:Nat)(xa:Int) x3_ (x4_:Nat) (x5_:Nat):=(qK Ff (.call (.ref 52) ⟨[.ref (a.C+310),.int i (t+598)],[]⟩) [(a.C+310,Bg w.params (a.D+310)),(a.D+310,Bh w.params a.x a.tx a.k1 a.k2 a.k3 a.k4 a.k5 (a.N+310) (.int (a.n:Int) a.tn) (.int (a.m:Int) a.tm) (.bool a.s)),(a.N+310,Ap (.ref (a.Q+310)) (.int (a.b:Int) a.tb)),(a.Q+310,tup a.cs)] (n+x0_) (x1_+x2_) g (.ok (.ret (.int xa x3_))) [3,4,5,6] [Bg w.params (a.D+310),Bh w.params a.x a.tx a.k1 a.k2 a.k3 a.k4 a.k5 (a.N+310) (.int (a.n:Int) a.tn) (.int (a.m:Int) a.tm) (.bool a.s),Ap (.ref (a.Q+310)) (.int (a.b:Int) a.tb),tup a.cs] [] (n+x4_) (x5_+598) g:Ah)
def Hw(w:World)(n t g it:Nat)(f:NwK)(a b:LeadK)(i left:Int)(o:OV)(vs:Array Value)(ec:Nat)(xa xb:Int)(u1 v1 u2 v2:Nat)(ps:LO):List Ah:=[Q0 it i left n t g (.ok (.ret (.int i (t+598)))) 1 (i+1) (left - 1) [] 310 599,
 Q7 a i t w n 310 t 600 g xa u1 318 v1,
 Q6 b i t w n 318 v1 g xb u2 326 v2,
 qC (.call (.builtin "int.__ge__") ⟨[.int xa u1,.int xb u2],[]⟩) [] (n+326) (v2+598) g (.ok (.ret (.bool false))) [] [] [] (n+326) (v2+598) g]
noncomputable def A97(w:World)(os:OsState)(S:Nat→Slot)(n:Nat)(t:Nat)(g:Nat)(it:Nat)(f:NwK)(a:LeadK)(b:LeadK)(i:Int)(left:Int)(vs:Array Value)(ec:Nat)(xa:Int)(xb:Int)(u1:Nat)(v1:Nat)(u2:Nat)(v2:Nat)(ps:LO)(o:OV)(b1 b2:Bool):Ao:=B7 (Ak (Z w os b1 b2) (Ab [kF,kF,kB] S 0) 64 (J4 w.params f.L it) ([(f.L+310,F4 w.params f a b o),(it+310,Ac i left 1),(f.A+310,Aa vs ec),(a.C+310,Bg w.params (a.D+310)),(a.D+310,Bh w.params a.x a.tx a.k1 a.k2 a.k3 a.k4 a.k5 (a.N+310) (.int (a.n:Int) a.tn) (.int (a.m:Int) a.tm) (.bool a.s)),(a.N+310,Ap (.ref (a.Q+310)) (.int (a.b:Int) a.tb)),(a.Q+310,tup a.cs),(b.C+310,Bg w.params (b.D+310)),(b.D+310,Bh w.params b.x b.tx b.k1 b.k2 b.k3 b.k4 b.k5 (b.N+310) (.int (b.n:Int) b.tn) (.int (b.m:Int) b.tm) (.bool b.s)),(b.N+310,Ap (.ref (b.Q+310)) (.int (b.b:Int) b.tb)),(b.Q+310,tup b.cs)]) (n+310) (t+598) g A3k (Hw w n t g it f a b i left o vs ec xa xb u1 v1 u2 v2 ps) ps) [0,1,2,3,4,5,6,7,8,9,10] (Hw w n t g it f a b i left o vs ec xa xb u1 v1 u2 v2 ps)
noncomputable def A94(w:World)(os:OsState)(S:Nat→Slot)(n:Nat)(t:Nat)(g:Nat)(it:Nat)(f:NwK)(a:LeadK)(b:LeadK)(i:Int)(left:Int)(vs:Array Value)(ec:Nat)(xa:Int)(xb:Int)(u1:Nat)(v1:Nat)(u2:Nat)(v2:Nat)(ps:LO)(o:OV)(b1 b2:Bool):Ao:=B6 (Ak (Z w os b1 b2) (Ab [kF,kF,kB] S 0) 64 (J4 w.params f.L it) ([(f.L+310,F4 w.params f a b o),(it+310,Ac i left 1),(f.A+310,Aa vs ec),(a.C+310,Bg w.params (a.D+310)),(a.D+310,Bh w.params a.x a.tx a.k1 a.k2 a.k3 a.k4 a.k5 (a.N+310) (.int (a.n:Int) a.tn) (.int (a.m:Int) a.tm) (.bool a.s)),(a.N+310,Ap (.ref (a.Q+310)) (.int (a.b:Int) a.tb)),(a.Q+310,tup a.cs),(b.C+310,Bg w.params (b.D+310)),(b.D+310,Bh w.params b.x b.tx b.k1 b.k2 b.k3 b.k4 b.k5 (b.N+310) (.int (b.n:Int) b.tn) (.int (b.m:Int) b.tm) (.bool b.s)),(b.N+310,Ap (.ref (b.Q+310)) (.int (b.b:Int) b.tb)),(b.Q+310,tup b.cs)]) (n+310) (t+598) g A3k (Hw w n t g it f a b i left o vs ec xa xb u1 v1 u2 v2 ps) ps) (.again (J4 w.params f.L it)) ([(f.L+310,F4 w.params f a b (.s (o.key (t+599)) (.int i (t+598)))),(it+310,Ac (i+1) (left-1) 1),(f.A+310,Aa vs ec),(a.C+310,Bg w.params (a.D+310)),(a.D+310,Bh w.params a.x a.tx a.k1 a.k2 a.k3 a.k4 a.k5 (a.N+310) (.int (a.n:Int) a.tn) (.int (a.m:Int) a.tm) (.bool a.s)),(a.N+310,Ap (.ref (a.Q+310)) (.int (a.b:Int) a.tb)),(a.Q+310,tup a.cs),(b.C+310,Bg w.params (b.D+310)),(b.D+310,Bh w.params b.x b.tx b.k1 b.k2 b.k3 b.k4 b.k5 (b.N+310) (.int (b.n:Int) b.tn) (.int (b.m:Int) b.tm) (.bool b.s)),(b.N+310,Ap (.ref (b.Q+310)) (.int (b.b:Int) b.tb)),(b.Q+310,tup b.cs)]) ps (n+326) (v2+598) g (Hw w n t g it f a b i left o vs ec xa xb u1 v1 u2 v2 ps)
theorem Agj(w:World)(os:OsState)(S:Nat→Slot)(n:Nat)(t:Nat)(g:Nat)(it:Nat)(f:NwK)(a:LeadK)(b:LeadK)(i:Int)(left:Int)(vs:Array Value)(ec:Nat)(xa:Int)(xb:Int)(u1:Nat)(v1:Nat)(u2:Nat)(v2:Nat)(ps:LO)(o:OV):∀(b1 b2:Bool),A97 w os S n t g it f a b i left vs ec xa xb u1 v1 u2 v2 ps o b1 b2=A94 w os S n t g it f a b i left vs ec xa xb u1 v1 u2 v2 ps o b1 b2
 |false,_=>by cases o<;>kernel_rfl
 |true,_=>by cases o<;>kernel_rfl
theorem Vb(n t g it:Nat)(f:NwK)(a b:LeadK)(i left:Int)(o:OV)(vs:Array Value)(ec:Nat)(xa xb:Int)(u1 v1 u2 v2:Nat)(ps:LO)(b1 b2:Bool) (hL:ObRs (Z w os b1 b2) (Hw w n t g it f a b i left o vs ec xa xb u1 v1 u2 v2 ps))
  (next:Does (Z w os b1 b2) (J4 w.params f.L it) (Ab [kF,kF,kB] S 0) (([(f.L+310,F4 w.params f a b (.s (o.key (t+599)) (.int i (t+598)))),(it+310,Ac (i+1) (left-1) 1),(f.A+310,Aa vs ec),(a.C+310,Bg w.params (a.D+310)),(a.D+310,Bh w.params a.x a.tx a.k1 a.k2 a.k3 a.k4 a.k5 (a.N+310) (.int (a.n:Int) a.tn) (.int (a.m:Int) a.tm) (.bool a.s)),(a.N+310,Ap (.ref (a.Q+310)) (.int (a.b:Int) a.tb)),(a.Q+310,tup a.cs),(b.C+310,Bg w.params (b.D+310)),(b.D+310,Bh w.params b.x b.tx b.k1 b.k2 b.k3 b.k4 b.k5 (b.N+310) (.int (b.n:Int) b.tn) (.int (b.m:Int) b.tm) (.bool b.s)),(b.N+310,Ap (.ref (b.Q+310)) (.int (b.b:Int) b.tb)),(b.Q+310,tup b.cs)])++ps) (n+326) (v2+598) g res l' n' t' g'):Does (Z w os b1 b2) (J4 w.params f.L it) (Ab [kF,kF,kB] S 0) (([(f.L+310,F4 w.params f a b o),(it+310,Ac i left 1),(f.A+310,Aa vs ec),(a.C+310,Bg w.params (a.D+310)),(a.D+310,Bh w.params a.x a.tx a.k1 a.k2 a.k3 a.k4 a.k5 (a.N+310) (.int (a.n:Int) a.tn) (.int (a.m:Int) a.tm) (.bool a.s)),(a.N+310,Ap (.ref (a.Q+310)) (.int (a.b:Int) a.tb)),(a.Q+310,tup a.cs),(b.C+310,Bg w.params (b.D+310)),(b.D+310,Bh w.params b.x b.tx b.k1 b.k2 b.k3 b.k4 b.k5 (b.N+310) (.int (b.n:Int) b.tn) (.int (b.m:Int) b.tm) (.bool b.s)),(b.N+310,Ap (.ref (b.Q+310)) (.int (b.b:Int) b.tb)),(b.Q+310,tup b.cs)])++ps) (n+310) (t+598) g res l' n' t' g':=
 Bz 64 A3k [0,1,2,3,4,5,6,7,8,9,10] hL next (by kernel_rfl) (by decide) (fun p=>congrFun (Agj w os S n t g it f a b i left vs ec xa xb u1 v1 u2 v2 ps o  b1 b2) p)
def Hi(w:World)(n t g it:Nat)(f:NwK)(a b:LeadK)(i left:Int)(o:OV)(vs:Array Value)(ec:Nat)(xa xb:Int)(u1 v1 u2 v2 u3 v3 u4 v4:Nat)(ps:LO):List Ah:=[Q0 it i left n t g (.ok (.ret (.int i (t+598)))) 1 (i+1) (left - 1) [] 310 599,
 Q7 a i t w n 310 t 600 g xa u1 318 v1,
 Q6 b i t w n 318 v1 g xb u2 326 v2,
 qC (.call (.builtin "int.__ge__") ⟨[.int xa u1,.int xb u2],[]⟩) [] (n+326) (v2+598) g (.ok (.ret (.bool true))) [] [] [] (n+326) (v2+598) g,
 Q7 a i t w n 326 v2 598 g xa u3 334 v3,
 Q6 b i t w n 334 v3 g xb u4 342 v4,
 qC (.call (.builtin "list.append") ⟨[.ref (f.2+310),.ref (n+342)],[]⟩) [(f.2+310,Ax vs ec)] (n+343) (v4+598) g (.ok (.ret (.none))) [2] [(Aa (vs.push (Value.ref (n+342))) (ec+1))] [] (n+343) (v4+598) g]
noncomputable def A2p(w:World)(os:OsState)(S:Nat→Slot)(n:Nat)(t:Nat)(g:Nat)(it:Nat)(f:NwK)(a:LeadK)(b:LeadK)(i:Int)(left:Int)(vs:Array Value)(ec:Nat)(xa:Int)(xb:Int)(u1:Nat)(v1:Nat)(u2:Nat)(v2:Nat)(u3:Nat)(v3:Nat)(u4:Nat)(v4:Nat)(ps:LO)(o:OV)(b1 b2:Bool):Ao:=B7 (Ak (Z w os b1 b2) (Ab [kF,kF,kB] S 0) 130 (J4 w.params f.L it) ([(f.L+310,F4 w.params f a b o),(it+310,Ac i left 1),(f.A+310,Aa vs ec),(a.C+310,Bg w.params (a.D+310)),(a.D+310,Bh w.params a.x a.tx a.k1 a.k2 a.k3 a.k4 a.k5 (a.N+310) (.int (a.n:Int) a.tn) (.int (a.m:Int) a.tm) (.bool a.s)),(a.N+310,Ap (.ref (a.Q+310)) (.int (a.b:Int) a.tb)),(a.Q+310,tup a.cs),(b.C+310,Bg w.params (b.D+310)),(b.D+310,Bh w.params b.x b.tx b.k1 b.k2 b.k3 b.k4 b.k5 (b.N+310) (.int (b.n:Int) b.tn) (.int (b.m:Int) b.tm) (.bool b.s)),(b.N+310,Ap (.ref (b.Q+310)) (.int (b.b:Int) b.tb)),(b.Q+310,tup b.cs)]) (n+310) (t+598) g A3h (Hi w n t g it f a b i left o vs ec xa xb u1 v1 u2 v2 u3 v3 u4 v4 ps) ps) [0,1,2,3,4,5,6,7,8,9,10,11] (Hi w n t g it f a b i left o vs ec xa xb u1 v1 u2 v2 u3 v3 u4 v4 ps)
noncomputable def A2m(w:World)(os:OsState)(S:Nat→Slot)(n:Nat)(t:Nat)(g:Nat)(it:Nat)(f:NwK)(a:LeadK)(b:LeadK)(i:Int)(left:Int)(vs:Array Value)(ec:Nat)(xa:Int)(xb:Int)(u1:Nat)(v1:Nat)(u2:Nat)(v2:Nat)(u3:Nat)(v3:Nat)(u4:Nat)(v4:Nat)(ps:LO)(o:OV)(b1 b2:Bool):Ao:=B6 (Ak (Z w os b1 b2) (Ab [kF,kF,kB] S 0) 130 (J4 w.params f.L it) ([(f.L+310,F4 w.params f a b o),(it+310,Ac i left 1),(f.A+310,Aa vs ec),(a.C+310,Bg w.params (a.D+310)),(a.D+310,Bh w.params a.x a.tx a.k1 a.k2 a.k3 a.k4 a.k5 (a.N+310) (.int (a.n:Int) a.tn) (.int (a.m:Int) a.tm) (.bool a.s)),(a.N+310,Ap (.ref (a.Q+310)) (.int (a.b:Int) a.tb)),(a.Q+310,tup a.cs),(b.C+310,Bg w.params (b.D+310)),(b.D+310,Bh w.params b.x b.tx b.k1 b.k2 b.k3 b.k4 b.k5 (b.N+310) (.int (b.n:Int) b.tn) (.int (b.m:Int) b.tm) (.bool b.s)),(b.N+310,Ap (.ref (b.Q+310)) (.int (b.b:Int) b.tb)),(b.Q+310,tup b.cs)]) (n+310) (t+598) g A3h (Hi w n t g it f a b i left o vs ec xa xb u1 v1 u2 v2 u3 v3 u4 v4 ps) ps) (.again (J4 w.params f.L it)) ([(f.L+310,F4 w.params f a b (.s (o.key (t+599)) (.int i (t+598)))),(it+310,Ac (i+1) (left-1) 1),(f.A+310,Aa (vs.push (.ref (n+342))) (ec+1)),(a.C+310,Bg w.params (a.D+310)),(a.D+310,Bh w.params a.x a.tx a.k1 a.k2 a.k3 a.k4 a.k5 (a.N+310) (.int (a.n:Int) a.tn) (.int (a.m:Int) a.tm) (.bool a.s)),(a.N+310,Ap (.ref (a.Q+310)) (.int (a.b:Int) a.tb)),(a.Q+310,tup a.cs),(b.C+310,Bg w.params (b.D+310)),(b.D+310,Bh w.params b.x b.tx b.k1 b.k2 b.k3 b.k4 b.k5 (b.N+310) (.int (b.n:Int) b.tn) (.int (b.m:Int) b.tm) (.bool b.s)),(b.N+310,Ap (.ref (b.Q+310)) (.int (b.b:Int) b.tb)),(b.Q+310,tup b.cs),(n+342,Ix i (t+598) xa u3 xb u4)]) ps (n+343) (v4+598) g (Hi w n t g it f a b i left o vs ec xa xb u1 v1 u2 v2 u3 v3 u4 v4 ps)
theorem Af6(w:World)(os:OsState)(S:Nat→Slot)(n:Nat)(t:Nat)(g:Nat)(it:Nat)(f:NwK)(a:LeadK)(b:LeadK)(i:Int)(left:Int)(vs:Array Value)(ec:Nat)(xa:Int)(xb:Int)(u1:Nat)(v1:Nat)(u2:Nat)(v2:Nat)(u3:Nat)(v3:Nat)(u4:Nat)(v4:Nat)(ps:LO)(o:OV):∀(b1 b2:Bool),A2p w os S n t g it f a b i left vs ec xa xb u1 v1 u2 v2 u3 v3 u4 v4 ps o b1 b2=A2m w os S n t g it f a b i left vs ec xa xb u1 v1 u2 v2 u3 v3 u4 v4 ps o b1 b2
 |false,_=>by cases o<;>kernel_rfl
 |true,_=>by cases o<;>kernel_rfl
theorem Tw(n t g it:Nat)(f:NwK)(a b:LeadK)(i left:Int)(o:OV)(vs:Array Value)(ec:Nat)(xa xb:Int)(u1 v1 u2 v2 u3 v3 u4 v4:Nat)(ps:LO)(b1 b2:Bool) (hL:ObRs (Z w os b1 b2) (Hi w n t g it f a b i left o vs ec xa xb u1 v1 u2 v2 u3 v3 u4 v4 ps))
  (next:Does (Z w os b1 b2) (J4 w.params f.L it) (Ab [kF,kF,kB] S 0) (([(f.L+310,F4 w.params f a b (.s (o.key (t+599)) (.int i (t+598)))),(it+310,Ac (i+1) (left-1) 1),(f.A+310,Aa (vs.push (.ref (n+342))) (ec+1)),(a.C+310,Bg w.params (a.D+310)),(a.D+310,Bh w.params a.x a.tx a.k1 a.k2 a.k3 a.k4 a.k5 (a.N+310) (.int (a.n:Int) a.tn) (.int (a.m:Int) a.tm) (.bool a.s)),(a.N+310,Ap (.ref (a.Q+310)) (.int (a.b:Int) a.tb)),(a.Q+310,tup a.cs),(b.C+310,Bg w.params (b.D+310)),(b.D+310,Bh w.params b.x b.tx b.k1 b.k2 b.k3 b.k4 b.k5 (b.N+310) (.int (b.n:Int) b.tn) (.int (b.m:Int) b.tm) (.bool b.s)),(b.N+310,Ap (.ref (b.Q+310)) (.int (b.b:Int) b.tb)),(b.Q+310,tup b.cs),(n+342,Ix i (t+598) xa u3 xb u4)])++ps) (n+343) (v4+598) g res l' n' t' g'):Does (Z w os b1 b2) (J4 w.params f.L it) (Ab [kF,kF,kB] S 0) (([(f.L+310,F4 w.params f a b o),(it+310,Ac i left 1),(f.A+310,Aa vs ec),(a.C+310,Bg w.params (a.D+310)),(a.D+310,Bh w.params a.x a.tx a.k1 a.k2 a.k3 a.k4 a.k5 (a.N+310) (.int (a.n:Int) a.tn) (.int (a.m:Int) a.tm) (.bool a.s)),(a.N+310,Ap (.ref (a.Q+310)) (.int (a.b:Int) a.tb)),(a.Q+310,tup a.cs),(b.C+310,Bg w.params (b.D+310)),(b.D+310,Bh w.params b.x b.tx b.k1 b.k2 b.k3 b.k4 b.k5 (b.N+310) (.int (b.n:Int) b.tn) (.int (b.m:Int) b.tm) (.bool b.s)),(b.N+310,Ap (.ref (b.Q+310)) (.int (b.b:Int) b.tb)),(b.Q+310,tup b.cs)])++ps) (n+310) (t+598) g res l' n' t' g':=
 Bz 130 A3h [0,1,2,3,4,5,6,7,8,9,10,11] hL next (by kernel_rfl) (by decide) (fun p=>congrFun (Af6 w os S n t g it f a b i left vs ec xa xb u1 v1 u2 v2 u3 v3 u4 v4 ps o  b1 b2) p)
theorem Tf(n t g L it:Nat)(i:Int)(b1 b2:Bool) (hL:ObRs (Z w os b1 b2) [Q0 it i 0 n t g (.error (.ref (n+311))) 0 i 0 [(n+310,Cg #[]),(n+311,(At ((n+310).add 0)))] 312 598]):Does (Z w os b1 b2) (J4 w.params L it) (Ab [kF,kF,kB] S 0) ([(it+310,Ac i 0 1)]) (n+310) (t+598) g (.ok .next) ([(it+310,(Ac i 0 1))]) (n+312) (t+598) g:=
 Ce 5 0x10082 [0] hL
noncomputable abbrev Yk(n t:Nat)(N:Int):NwK:=⟨n,n+24,t+598,t+599,t+618,t+619,N+1,t+617⟩
abbrev Q4(w:World)(n:Nat)(t:Nat) x0_ (a:LeadK) (b:LeadK) x1_ (ps1:LO) (g:Nat) (o:OV) (y:Int) (vs:Array Value) (ec:Nat) (n2:Nat) (t2:Nat):=(qP (some [kF,kF,kB]) (J4 w.params n (n+26)) [(n+310,F4 w.params (Yk n t x0_) a b .n),(n+336,Ac 1 (Builtin.Range.rangeSize 1 x1_ 1) 1),(n+334,Aa #[] 0),(a.C+310,Bg w.params (a.D+310)),(a.D+310,Bh w.params a.x a.tx a.k1 a.k2 a.k3 a.k4 a.k5 (a.N+310) (.int (a.n:Int) a.tn) (.int (a.m:Int) a.tm) (.bool a.s)),(a.N+310,Ap (.ref (a.Q+310)) (.int (a.b:Int) a.tb)),(a.Q+310,tup a.cs),(b.C+310,Bg w.params (b.D+310)),(b.D+310,Bh w.params b.x b.tx b.k1 b.k2 b.k3 b.k4 b.k5 (b.N+310) (.int (b.n:Int) b.tn) (.int (b.m:Int) b.tm) (.bool b.s)),(b.N+310,Ap (.ref (b.Q+310)) (.int (b.b:Int) b.tb)),(b.Q+310,tup b.cs)] [] ps1 (n+337) (t+624) g (.ok .next) [8,16,14,0,1,2,3,4,5,6,7] ([F4 w.params (Yk n t x0_) a b o,Ac y 0 1,Aa vs ec]++[Bg w.params (a.D+310),Bh w.params a.x a.tx a.k1 a.k2 a.k3 a.k4 a.k5 (a.N+310) (.int (a.n:Int) a.tn) (.int (a.m:Int) a.tm) (.bool a.s),Ap (.ref (a.Q+310)) (.int (a.b:Int) a.tb),tup a.cs]++[Bg w.params (b.D+310),Bh w.params b.x b.tx b.k1 b.k2 b.k3 b.k4 b.k5 (b.N+310) (.int (b.n:Int) b.tn) (.int (b.m:Int) b.tm) (.bool b.s),Ap (.ref (b.Q+310)) (.int (b.b:Int) b.tb),tup b.cs]) [] (n2+310) (t2+598) g:Ah)
abbrev Rj x0_ x1_ x2_ x3_ (n:Nat) (x4_:Nat) (t:Nat) (x5_:Nat) (g:Nat) x6_:=(qC (.call (.builtin "int.__gt__") ⟨[.int x0_ x1_,.int x2_ x3_],[]⟩) [] (n+x4_) (t+x5_) g (.ok (.ret x6_)) [] [] [] (n+x4_) (t+x5_) g:Ah)
abbrev Q15(a:LeadK)(w:World)(n:Nat)(t:Nat)(g:Nat)(xa:Int)(u1:Nat):=(qK X3 (.call (.ref 45) ⟨[.ref (a.C+310)],[]⟩) [(a.C+310,Bg w.params (a.D+310)),(a.D+310,Bh w.params a.x a.tx a.k1 a.k2 a.k3 a.k4 a.k5 (a.N+310) (.int (a.n:Int) a.tn) (.int (a.m:Int) a.tm) (.bool a.s)),(a.N+310,Ap (.ref (a.Q+310)) (.int (a.b:Int) a.tb)),(a.Q+310,tup a.cs)] (n+311) (t+600) g (.ok (.ret (.int xa u1))) [0,1,2,3] [Bg w.params (a.D+310),Bh w.params a.x a.tx a.k1 a.k2 a.k3 a.k4 a.k5 (a.N+310) (.int (a.n:Int) a.tn) (.int (a.m:Int) a.tm) (.bool a.s),Ap (.ref (a.Q+310)) (.int (a.b:Int) a.tb),tup a.cs] [] (n+320) (t+608) g:Ah)
abbrev Q16(b:LeadK)(w:World)(n:Nat)(t:Nat)(g:Nat)(xb:Int)(u3:Nat):=(qK X3 (.call (.ref 45) ⟨[.ref (b.C+310)],[]⟩) [(b.C+310,Bg w.params (b.D+310)),(b.D+310,Bh w.params b.x b.tx b.k1 b.k2 b.k3 b.k4 b.k5 (b.N+310) (.int (b.n:Int) b.tn) (.int (b.m:Int) b.tm) (.bool b.s)),(b.N+310,Ap (.ref (b.Q+310)) (.int (b.b:Int) b.tb)),(b.Q+310,tup b.cs)] (n+320) (t+608) g (.ok (.ret (.int xb u3))) [4,5,6,7] [Bg w.params (b.D+310),Bh w.params b.x b.tx b.k1 b.k2 b.k3 b.k4 b.k5 (b.N+310) (.int (b.n:Int) b.tn) (.int (b.m:Int) b.tm) (.bool b.s),Ap (.ref (b.Q+310)) (.int (b.b:Int) b.tb),tup b.cs] [] (n+329) (t+616) g:Ah)
def Fx(w:World)(n t g:Nat)(a b:LeadK)(xa xb:Int)(u1 u3 n2 t2:Nat)(o:OV)(y:Int)(vs:Array Value)(ec:Nat)(ps1:LO):List Ah:=[Q15 a w n t g xa u1,
 Q16 b w n t g xb u3,
 Rj xb u3 xa u1 n 332 t 616 g (.bool true),
 B5 xb u3 1 (t+616) (n+334) (t+617) g,
 B5 (xb+1) (t+617) 1 (t+621) (n+335) (t+622) g,
 Q2 n 335 1 (t+620) (xb+1+1) (t+622) t 623 336 624 g 15 1 (t+620) (xb+1+1) (t+622) 337,
 Q4 w n t xb a b (xb+1+1) ps1 g o y vs ec n2 t2]
noncomputable def Xq(w:World)(os:OsState)(S:Nat→Slot)(n:Nat)(t:Nat)(g:Nat)(a:LeadK)(b:LeadK)(xa:Int)(xb:Int)(u1:Nat)(u3:Nat)(n2:Nat)(t2:Nat)(y:Int)(vs:Array Value)(ec:Nat)(ps1:LO)(o:OV)(b1 b2:Bool):Ao:=B7 (Ak (Z w os b1 b2) (Ab [kF,kB] S 0) 194 (.call (.ref 80) ⟨[.ref (a.C+310),.ref (b.C+310)],[]⟩) ([(a.C+310,Bg w.params (a.D+310)),(a.D+310,Bh w.params a.x a.tx a.k1 a.k2 a.k3 a.k4 a.k5 (a.N+310) (.int (a.n:Int) a.tn) (.int (a.m:Int) a.tm) (.bool a.s)),(a.N+310,Ap (.ref (a.Q+310)) (.int (a.b:Int) a.tb)),(a.Q+310,tup a.cs),(b.C+310,Bg w.params (b.D+310)),(b.D+310,Bh w.params b.x b.tx b.k1 b.k2 b.k3 b.k4 b.k5 (b.N+310) (.int (b.n:Int) b.tn) (.int (b.m:Int) b.tm) (.bool b.s)),(b.N+310,Ap (.ref (b.Q+310)) (.int (b.b:Int) b.tb)),(b.Q+310,tup b.cs)]) (n+310) (t+598) g A2y (Fx w n t g a b xa xb u1 u3 n2 t2 o y vs ec ps1) []) [0,1,2,3,4,5,6,7,14] (Fx w n t g a b xa xb u1 u3 n2 t2 o y vs ec ps1)
noncomputable def Yq(w:World)(os:OsState)(S:Nat→Slot)(n:Nat)(t:Nat)(g:Nat)(a:LeadK)(b:LeadK)(xa:Int)(xb:Int)(u1:Nat)(u3:Nat)(n2:Nat)(t2:Nat)(y:Int)(vs:Array Value)(ec:Nat)(ps1:LO)(o:OV)(b1 b2:Bool):Ao:=B6 (Ak (Z w os b1 b2) (Ab [kF,kB] S 0) 194 (.call (.ref 80) ⟨[.ref (a.C+310),.ref (b.C+310)],[]⟩) ([(a.C+310,Bg w.params (a.D+310)),(a.D+310,Bh w.params a.x a.tx a.k1 a.k2 a.k3 a.k4 a.k5 (a.N+310) (.int (a.n:Int) a.tn) (.int (a.m:Int) a.tm) (.bool a.s)),(a.N+310,Ap (.ref (a.Q+310)) (.int (a.b:Int) a.tb)),(a.Q+310,tup a.cs),(b.C+310,Bg w.params (b.D+310)),(b.D+310,Bh w.params b.x b.tx b.k1 b.k2 b.k3 b.k4 b.k5 (b.N+310) (.int (b.n:Int) b.tn) (.int (b.m:Int) b.tm) (.bool b.s)),(b.N+310,Ap (.ref (b.Q+310)) (.int (b.b:Int) b.tb)),(b.Q+310,tup b.cs)]) (n+310) (t+598) g A2y (Fx w n t g a b xa xb u1 u3 n2 t2 o y vs ec ps1) []) (.res (.ok (.ret (.ref (n+334))))) ([(a.C+310,Bg w.params (a.D+310)),(a.D+310,Bh w.params a.x a.tx a.k1 a.k2 a.k3 a.k4 a.k5 (a.N+310) (.int (a.n:Int) a.tn) (.int (a.m:Int) a.tm) (.bool a.s)),(a.N+310,Ap (.ref (a.Q+310)) (.int (a.b:Int) a.tb)),(a.Q+310,tup a.cs),(b.C+310,Bg w.params (b.D+310)),(b.D+310,Bh w.params b.x b.tx b.k1 b.k2 b.k3 b.k4 b.k5 (b.N+310) (.int (b.n:Int) b.tn) (.int (b.m:Int) b.tm) (.bool b.s)),(b.N+310,Ap (.ref (b.Q+310)) (.int (b.b:Int) b.tb)),(b.Q+310,tup b.cs),(n+334,Aa vs ec)]) ps1 (n2+310) (t2+598) g (Fx w n t g a b xa xb u1 u3 n2 t2 o y vs ec ps1)
theorem A8n(w:World)(os:OsState)(S:Nat→Slot)(n:Nat)(t:Nat)(g:Nat)(a:LeadK)(b:LeadK)(xa:Int)(xb:Int)(u1:Nat)(u3:Nat)(n2:Nat)(t2:Nat)(y:Int)(vs:Array Value)(ec:Nat)(ps1:LO)(o:OV):∀(b1 b2:Bool),Xq w os S n t g a b xa xb u1 u3 n2 t2 y vs ec ps1 o b1 b2=Yq w os S n t g a b xa xb u1 u3 n2 t2 y vs ec ps1 o b1 b2
 |false,_=>by cases o<;>kernel_rfl
 |true,_=>by cases o<;>kernel_rfl
theorem Ri(n t g:Nat)(a b:LeadK)(xa xb:Int)(u1 u3 n2 t2:Nat)(o:OV)(y:Int)(vs:Array Value)(ec:Nat)(ps1:LO)(b1 b2:Bool) (hL:ObRs (Z w os b1 b2) (Fx w n t g a b xa xb u1 u3 n2 t2 o y vs ec ps1)):Does (Z w os b1 b2) (.call (.ref 80) ⟨[.ref (a.C+310),.ref (b.C+310)],[]⟩) (Ab [kF,kB] S 0) (([(a.C+310,Bg w.params (a.D+310)),(a.D+310,Bh w.params a.x a.tx a.k1 a.k2 a.k3 a.k4 a.k5 (a.N+310) (.int (a.n:Int) a.tn) (.int (a.m:Int) a.tm) (.bool a.s)),(a.N+310,Ap (.ref (a.Q+310)) (.int (a.b:Int) a.tb)),(a.Q+310,tup a.cs),(b.C+310,Bg w.params (b.D+310)),(b.D+310,Bh w.params b.x b.tx b.k1 b.k2 b.k3 b.k4 b.k5 (b.N+310) (.int (b.n:Int) b.tn) (.int (b.m:Int) b.tm) (.bool b.s)),(b.N+310,Ap (.ref (b.Q+310)) (.int (b.b:Int) b.tb)),(b.Q+310,tup b.cs)])++[]) (n+310) (t+598) g (.ok (.ret (.ref (n+334)))) (([(a.C+310,Bg w.params (a.D+310)),(a.D+310,Bh w.params a.x a.tx a.k1 a.k2 a.k3 a.k4 a.k5 (a.N+310) (.int (a.n:Int) a.tn) (.int (a.m:Int) a.tm) (.bool a.s)),(a.N+310,Ap (.ref (a.Q+310)) (.int (a.b:Int) a.tb)),(a.Q+310,tup a.cs),(b.C+310,Bg w.params (b.D+310)),(b.D+310,Bh w.params b.x b.tx b.k1 b.k2 b.k3 b.k4 b.k5 (b.N+310) (.int (b.n:Int) b.tn) (.int (b.m:Int) b.tm) (.bool b.s)),(b.N+310,Ap (.ref (b.Q+310)) (.int (b.b:Int) b.tb)),(b.Q+310,tup b.cs),(n+334,Aa vs ec)])++ps1) (n2+310) (t2+598) g:=
 Bo 194 A2y [0,1,2,3,4,5,6,7,14] hL (by decide) (fun p=>congrFun (A8n w os S n t g a b xa xb u1 u3 n2 t2 y vs ec ps1 o  b1 b2) p)
def Fr(w:World)(n t g:Nat)(a b:LeadK)(xa xb:Int)(u1 u3 n2 t2:Nat)(o:OV)(y:Int)(vs:Array Value)(ec:Nat)(ps1:LO):List Ah:=[Q15 a w n t g xa u1,
 Q16 b w n t g xb u3,
 Rj xb u3 xa u1 n 332 t 616 g (.bool false),
 B5 xa u1 1 (t+616) (n+334) (t+617) g,
 B5 (xa+1) (t+617) 1 (t+621) (n+335) (t+622) g,
 Q2 n 335 1 (t+620) (xa+1+1) (t+622) t 623 336 624 g 15 1 (t+620) (xa+1+1) (t+622) 337,
 Q4 w n t xa a b (xa+1+1) ps1 g o y vs ec n2 t2]
noncomputable def Xf(w:World)(os:OsState)(S:Nat→Slot)(n:Nat)(t:Nat)(g:Nat)(a:LeadK)(b:LeadK)(xa:Int)(xb:Int)(u1:Nat)(u3:Nat)(n2:Nat)(t2:Nat)(y:Int)(vs:Array Value)(ec:Nat)(ps1:LO)(o:OV)(b1 b2:Bool):Ao:=B7 (Ak (Z w os b1 b2) (Ab [kF,kB] S 0) 191 (.call (.ref 80) ⟨[.ref (a.C+310),.ref (b.C+310)],[]⟩) ([(a.C+310,Bg w.params (a.D+310)),(a.D+310,Bh w.params a.x a.tx a.k1 a.k2 a.k3 a.k4 a.k5 (a.N+310) (.int (a.n:Int) a.tn) (.int (a.m:Int) a.tm) (.bool a.s)),(a.N+310,Ap (.ref (a.Q+310)) (.int (a.b:Int) a.tb)),(a.Q+310,tup a.cs),(b.C+310,Bg w.params (b.D+310)),(b.D+310,Bh w.params b.x b.tx b.k1 b.k2 b.k3 b.k4 b.k5 (b.N+310) (.int (b.n:Int) b.tn) (.int (b.m:Int) b.tm) (.bool b.s)),(b.N+310,Ap (.ref (b.Q+310)) (.int (b.b:Int) b.tb)),(b.Q+310,tup b.cs)]) (n+310) (t+598) g A19 (Fr w n t g a b xa xb u1 u3 n2 t2 o y vs ec ps1) []) [0,1,2,3,4,5,6,7,14] (Fr w n t g a b xa xb u1 u3 n2 t2 o y vs ec ps1)
noncomputable def Z8(w:World)(os:OsState)(S:Nat→Slot)(n:Nat)(t:Nat)(g:Nat)(a:LeadK)(b:LeadK)(xa:Int)(xb:Int)(u1:Nat)(u3:Nat)(n2:Nat)(t2:Nat)(y:Int)(vs:Array Value)(ec:Nat)(ps1:LO)(o:OV)(b1 b2:Bool):Ao:=B6 (Ak (Z w os b1 b2) (Ab [kF,kB] S 0) 191 (.call (.ref 80) ⟨[.ref (a.C+310),.ref (b.C+310)],[]⟩) ([(a.C+310,Bg w.params (a.D+310)),(a.D+310,Bh w.params a.x a.tx a.k1 a.k2 a.k3 a.k4 a.k5 (a.N+310) (.int (a.n:Int) a.tn) (.int (a.m:Int) a.tm) (.bool a.s)),(a.N+310,Ap (.ref (a.Q+310)) (.int (a.b:Int) a.tb)),(a.Q+310,tup a.cs),(b.C+310,Bg w.params (b.D+310)),(b.D+310,Bh w.params b.x b.tx b.k1 b.k2 b.k3 b.k4 b.k5 (b.N+310) (.int (b.n:Int) b.tn) (.int (b.m:Int) b.tm) (.bool b.s)),(b.N+310,Ap (.ref (b.Q+310)) (.int (b.b:Int) b.tb)),(b.Q+310,tup b.cs)]) (n+310) (t+598) g A19 (Fr w n t g a b xa xb u1 u3 n2 t2 o y vs ec ps1) []) (.res (.ok (.ret (.ref (n+334))))) ([(a.C+310,Bg w.params (a.D+310)),(a.D+310,Bh w.params a.x a.tx a.k1 a.k2 a.k3 a.k4 a.k5 (a.N+310) (.int (a.n:Int) a.tn) (.int (a.m:Int) a.tm) (.bool a.s)),(a.N+310,Ap (.ref (a.Q+310)) (.int (a.b:Int) a.tb)),(a.Q+310,tup a.cs),(b.C+310,Bg w.params (b.D+310)),(b.D+310,Bh w.params b.x b.tx b.k1 b.k2 b.k3 b.k4 b.k5 (b.N+310) (.int (b.n:Int) b.tn) (.int (b.m:Int) b.tm) (.bool b.s)),(b.N+310,Ap (.ref (b.Q+310)) (.int (b.b:Int) b.tb)),(b.Q+310,tup b.cs),(n+334,Aa vs ec)]) ps1 (n2+310) (t2+598) g (Fr w n t g a b xa xb u1 u3 n2 t2 o y vs ec ps1)
theorem A7x(w:World)(os:OsState)(S:Nat→Slot)(n:Nat)(t:Nat)(g:Nat)(a:LeadK)(b:LeadK)(xa:Int)(xb:Int)(u1:Nat)(u3:Nat)(n2:Nat)(t2:Nat)(y:Int)(vs:Array Value)(ec:Nat)(ps1:LO)(o:OV):∀(b1 b2:Bool),Xf w os S n t g a b xa xb u1 u3 n2 t2 y vs ec ps1 o b1 b2=Z8 w os S n t g a b xa xb u1 u3 n2 t2 y vs ec ps1 o b1 b2
 |false,_=>by cases o<;>kernel_rfl
 |true,_=>by cases o<;>kernel_rfl
theorem T5(n t g:Nat)(a b:LeadK)(xa xb:Int)(u1 u3 n2 t2:Nat)(o:OV)(y:Int)(vs:Array Value)(ec:Nat)(ps1:LO)(b1 b2:Bool) (hL:ObRs (Z w os b1 b2) (Fr w n t g a b xa xb u1 u3 n2 t2 o y vs ec ps1)):Does (Z w os b1 b2) (.call (.ref 80) ⟨[.ref (a.C+310),.ref (b.C+310)],[]⟩) (Ab [kF,kB] S 0) (([(a.C+310,Bg w.params (a.D+310)),(a.D+310,Bh w.params a.x a.tx a.k1 a.k2 a.k3 a.k4 a.k5 (a.N+310) (.int (a.n:Int) a.tn) (.int (a.m:Int) a.tm) (.bool a.s)),(a.N+310,Ap (.ref (a.Q+310)) (.int (a.b:Int) a.tb)),(a.Q+310,tup a.cs),(b.C+310,Bg w.params (b.D+310)),(b.D+310,Bh w.params b.x b.tx b.k1 b.k2 b.k3 b.k4 b.k5 (b.N+310) (.int (b.n:Int) b.tn) (.int (b.m:Int) b.tm) (.bool b.s)),(b.N+310,Ap (.ref (b.Q+310)) (.int (b.b:Int) b.tb)),(b.Q+310,tup b.cs)])++[]) (n+310) (t+598) g (.ok (.ret (.ref (n+334)))) (([(a.C+310,Bg w.params (a.D+310)),(a.D+310,Bh w.params a.x a.tx a.k1 a.k2 a.k3 a.k4 a.k5 (a.N+310) (.int (a.n:Int) a.tn) (.int (a.m:Int) a.tm) (.bool a.s)),(a.N+310,Ap (.ref (a.Q+310)) (.int (a.b:Int) a.tb)),(a.Q+310,tup a.cs),(b.C+310,Bg w.params (b.D+310)),(b.D+310,Bh w.params b.x b.tx b.k1 b.k2 b.k3 b.k4 b.k5 (b.N+310) (.int (b.n:Int) b.tn) (.int (b.m:Int) b.tm) (.bool b.s)),(b.N+310,Ap (.ref (b.Q+310)) (.int (b.b:Int) b.tb)),(b.Q+310,tup b.cs),(n+334,Aa vs ec)])++ps1) (n2+310) (t2+598) g:=
 Bo 191 A19 [0,1,2,3,4,5,6,7,14] hL (by decide) (fun p=>congrFun (A7x w os S n t g a b xa xb u1 u3 n2 t2 y vs ec ps1 o  b1 b2) p)
section
structure TE where
 y:Nat
 a:Nat
 ta:Nat
 b:Nat
 tb:Nat
 c:Nat
 tc:Nat
def TE.ob(e:TE):Addr×Obj:=(e.y+310,Ix (e.a:Int) e.ta (e.b:Int) e.tb (e.c:Int) e.tc)
noncomputable def Ay(L:List TE):Array Value:=(L.map fun e=>Value.ref (e.y+310)).toArray
def Au(L:List TE):LO:=L.map TE.ob
noncomputable def Cn(L:List TE):List (Nat×Nat×Nat):=L.map fun e=>(e.a,e.b,e.c)
theorem Kv(L:List TE)(e:TE):Ay (L++[e])=(Ay L).push (.ref (e.y+310)):=by
 unfold Ay
 apply Array.toList_inj.mp
 simp
theorem Lw(L:List TE)(e:TE):Au (L++[e])=Au L++[e.ob]:=by simp [Au]
theorem Lq(L:List TE)(e:TE):Cn (L++[e])=Cn L++[(e.a,e.b,e.c)]:=by simp [Cn]
theorem Ev(L:List TE):(Ay L).size=L.length:=by simp [Ay]
noncomputable def Df(la lb:Nat→Nat):Nat→Nat→List (Nat×Nat×Nat)
 |0,_=>[]
 |k+1,ts=>if lb ts≤la ts then (ts,la ts,lb ts)::Df la lb k (ts+1) else Df la lb k (ts+1)
section
variable {w:World}{os:OsState}(b1 b2:Bool)(g it:Nat)(f:NwK)(A B:LeadK)(CA CB:List Nat)
def Ui(P:Params)(f:NwK)(A B:LeadK)(it:Nat)(o:OV)(i left:Int)(vs:Array Value)(ec:Nat):LO:=[(f.L+310,F4 P f A B o),(it+310,Ac i left 1),(f.A+310,Aa vs ec)]++(Cb P A++Cb P B)
theorem A8o(hA:NatL A.cs CA)(hB:NatL B.cs CB)(hzA:CA.length≤100)(hzB:CB.length≤100)(n0:Nat)(k:Nat):∀(ts n t:Nat) (o:OV) (L:List TE) (ec:Nat),1≤ts→ts+k≤40→L.length+k≤100→(∀e∈L,n0≤e.y)→n0≤n →
  ∃(n' t':Nat) (o':OV) (y:Int) (L':List TE) (ec':Nat),n≤n'∧Cn L'=Cn L++Df (Bj CA A.b A.m) (Bj CB B.b B.m) k ts∧(∀e∈L',n0≤e.y)∧L'.length≤L.length+k ∧
  ∀S,Does (Z w os b1 b2) (J4 w.params f.L it) (Ab [kF,kF,kB] S 0) (Ui w.params f A B it o (ts:Int) (k:Int) (Ay L) ec++Au L) (n+310) (t+598) g (.ok .next) (Ui w.params f A B it o' y 0 (Ay L') ec'++Au L') (n'+310) (t'+598) g:=by
 induction k with
 |zero=>
  intro ts n t o L ec h1 h2 h3 h4 h5
  refine D8 (n+2) t o (ts:Int) L ec ⟨Er,by unfold Df;rw [List.append_nil],h4,Er,fun S=>?_⟩
  have X:=(Tf (w:=w) (os:=os) (S:=S) n t g f.L it (ts:Int) b1 b2 ⟨Ae (fun bl=>Bm (by decide)) (hn:=by simp),trivial⟩).frame ((f.L+310,F4 w.params f A B o)::(f.A+310,Aa (Ay L) ec)::((Cb w.params A++Cb w.params B)++Au L)) newer.same
  exact X.perm (List.Perm.swap ..) (List.Perm.swap ..)
 |succ k ih=>
  intro ts n t o L ec h1 h2 h3 h4 h5
  refine Af fun Gz hGz=>?_
  refine Mi (M9 (w:=w) (os:=os) b1 b2 n (t+2) g A CA ts (t+598) (V7 h1 h2) hA hzA) fun v1 u1 D1=>?_
  refine Mi (M9 (w:=w) (os:=os) b1 b2 (n+8) v1 g B CB ts (t+598) (V7 h1 h2) hB hzB) fun v2 u2 D2=>?_
  refine hGz ?_
  unfold Df
  by_cases hge:Bj CB B.b B.m ts≤Bj CA A.b A.m ts
  ·rw [if_pos hge]
   refine Af fun Gz hGz=>?_
   refine Mi (M9 (w:=w) (os:=os) b1 b2 (n+16) v2 g A CA ts (t+598) (V7 h1 h2) hA hzA) fun v3 u3 D3=>?_
   refine Mi (M9 (w:=w) (os:=os) b1 b2 (n+24) v3 g B CB ts (t+598) (V7 h1 h2) hB hzB) fun v4 u4 D4=>?_
   refine hGz ?_
   let e:TE:=⟨n+32,ts,t+598,Bj CA A.b A.m ts,u3,Bj CB B.b B.m ts,u4⟩
   refine Af fun Gz hGz=>?_
   obtain ⟨n',t',o',y,L',ec',z1,z2,z3,z4,D⟩:=ih (ts+1) (n+33) v4 (.s (o.key (t+599)) (.int (ts:Int) (t+598))) (L++[e]) (ec+1) F5 (E0 h2) (by rw [List.length_append,List.length_singleton];exact E0 h3) (fun x hx=>by
    rcases List.mem_append.mp hx with hx | hx
    ·exact h4 x hx
    ·rw [List.mem_singleton.mp hx];show n0≤n+32;exact Ey h5) (Ey h5)
   rw [Lq,List.append_assoc,List.singleton_append] at z2
   rw [List.length_append,List.length_singleton] at z4
   refine hGz ?_
   refine D8 n' t' o' y L' ec' ⟨C6 z1,z2,z3,by lia,fun S=>?_⟩
   have D:=D S
   unfold Ui at D ⊢
   rw [show ((ts+1:Nat):Int)=(ts:Int)+1 by exact Fq,Kv,Lw] at D
   have hz:(Ay L).size≤sizeLine:=by
    rw [Ev]
    exact Nat.le_trans (show _≤100 by exact C6 h3) (by decide)
   refine Tw (w:=w) (os:=os) (S:=S) n t g it f A B (ts:Int) ((k+1:Nat):Int) o (Ay L) ec (Bj CA A.b A.m ts:Nat) (Bj CB B.b B.m ts:Nat) u1 v1 u2 v2 u3 v3 u4 v4 (Au L) b1 b2
    ⟨Ae fun bl=>B1 Fl,Bb D1,Bb D2,Re (decide_eq_true (Int.ofNat_le.mpr hge)),Bb D3,Bb D4,Ae fun bl=>Dz hz,trivial⟩ ?_
   rw [show (((k+1:Nat):Int) - 1)=(k:Int) by exact Fh]
   refine D.perm ?_ (List.Perm.refl _)
   have P:([(f.L+310,F4 w.params f A B (.s (o.key (t+599)) (.int (ts:Int) (t+598)))),(it+310,Ac ((ts:Int)+1) (k:Int) 1),(f.A+310,Aa ((Ay L).push (.ref (n+342))) (ec+1))]++(Cb w.params A++Cb w.params B)++(Au L++[e.ob])).Perm (([(f.L+310,F4 w.params f A B (.s (o.key (t+599)) (.int (ts:Int) (t+598)))),(it+310,Ac ((ts:Int)+1) (k:Int) 1),(f.A+310,Aa ((Ay L).push (.ref (n+342))) (ec+1))]++(Cb w.params A++Cb w.params B)++[e.ob])++Au L):=by
    rw [List.append_assoc _ [e.ob] (Au L)]
    exact List.Perm.append_left _ List.perm_append_comm
   exact P
  ·rw [if_neg hge]
   refine Af fun Gz hGz=>?_
   obtain ⟨n',t',o',y,L',ec',z1,z2,z3,z4,D⟩:=ih (ts+1) (n+16) v2 (.s (o.key (t+599)) (.int (ts:Int) (t+598))) L ec F5 (E0 h2) (by lia) h4 (Ey h5)
   refine hGz ?_
   refine D8 n' t' o' y L' ec' ⟨C6 z1,z2,z3,Pa z4,fun S=>?_⟩
   have D:=D S
   unfold Ui at D ⊢
   rw [show ((ts+1:Nat):Int)=(ts:Int)+1 by exact Fq] at D
   refine Vb (w:=w) (os:=os) (S:=S) n t g it f A B (ts:Int) ((k+1:Nat):Int) o (Ay L) ec (Bj CA A.b A.m ts:Nat) (Bj CB B.b B.m ts:Nat) u1 v1 u2 v2 (Au L) b1 b2
    ⟨Ae fun bl=>B1 Fl,Bb D1,Bb D2,Re (decide_eq_false (fun h=>hge (Int.ofNat_le.mp h))),trivial⟩ ?_
   rw [show (((k+1:Nat):Int) - 1)=(k:Int) by exact Fh]
   exact D
end
section
variable {w:World}{os:OsState}(b1 b2:Bool)(n t g:Nat)(A B:LeadK)(CA CB:List Nat)
theorem Ul(hA:NatL A.cs CA)(hB:NatL B.cs CB)(hzA:1≤CA.length∧CA.length≤30)(hzB:1≤CB.length∧CB.length≤30)(hbA:A.b=0)(hbB:B.b=0):
  ∃(n' t':Nat) (L:List TE) (ec:Nat),n≤n'∧Cn L=Df (Bj CA 0 A.m) (Bj CB 0 B.m) (max (CA.length - 1) (CB.length - 1)+1) 1∧(∀e∈L,n+27≤e.y)∧L.length≤31 ∧
  ∀S,Does (Z w os b1 b2) (.call (.ref 80) ⟨[.ref (A.C+310),.ref (B.C+310)],[]⟩) (Ab [kF,kB] S 0) (Cb w.params A++Cb w.params B) (n+310) (t+598) g (.ok (.ret (.ref (n+334))))
   ((Cb w.params A++Cb w.params B++[(n+334,Aa (Ay L) ec)])++Au L) (n'+310) (t'+598) g:=by
 refine Af fun Gz hGz=>?_
 obtain ⟨u1,D1⟩:=Um (w:=w) (os:=os) b1 b2 (n+1) (t+2) g A CA hA (T8 hzA) hzA.1 hbA
 obtain ⟨u3,D3⟩:=Um (w:=w) (os:=os) b1 b2 (n+10) (t+10) g B CB hB (T8 hzB) hzB.1 hbB
 have gen:∀N:Nat,N=max (CA.length - 1) (CB.length - 1)→∃(n' t':Nat) (o':OV) (y:Int) (L':List TE) (ec':Nat),n+27≤n'∧Cn L'=Df (Bj CA A.b A.m) (Bj CB B.b B.m) (N+1) 1∧(∀e∈L',n+27≤e.y)∧L'.length≤N+1 ∧
   ∀S,Does (Z w os b1 b2) (J4 w.params n (n+26)) (Ab [kF,kF,kB] S 0) (Ui w.params (Yk n t (N:Int)) A B (n+26) .n 1 (Builtin.Range.rangeSize 1 ((N:Int)+1+1) 1) #[] 0++[]) (n+337) (t+624) g (.ok .next) (Ui w.params (Yk n t (N:Int)) A B (n+26) o' y 0 (Ay L') ec'++Au L') (n'+310) (t'+598) g:=by
  intro N hN
  refine X5 (A8o (w:=w) (os:=os) b1 b2 g (n+26) (Yk n t (N:Int)) A B CA CB hA hB (T8 hzA) (T8 hzB) (n+27) (N+1) 1 (n+27) (t+26) .n [] 0 (Nat.le_refl _) (by lia) (by simp;lia) (fun _ h=>nomatch h) (Nat.le_refl _)) fun n' t' o' y L' ec' z1 z2 z3 z4 D=>?_
  refine ⟨n',t',o',y,L',ec',z1,z2,z3,by simpa using z4,fun S=>?_⟩
  have hr:Builtin.Range.rangeSize 1 ((N:Int)+1+1) 1=((N+1:Nat):Int):=by rw [rangeSize_one,if_pos (by lia)];exact Fh
  rw [hr]
  exact D S
 have fin:∀(L':List TE) (m:Nat),(∀e∈L',n+27≤e.y)→∀q∈Au L',q.1∈([]:LO).map (·.1)∨n+337≤q.1:=by
  intro L' m h q hq
  obtain ⟨e,he,rfl⟩:=List.mem_map.mp hq
  have:=h e he
  exact .inr (show n+337≤e.y+310 by exact Sy this)
 refine hGz ?_
 by_cases hc:CA.length - 1 < CB.length - 1
 ·refine Af fun Gz hGz=>?_
  obtain ⟨n',t',o',y,L',ec',z1,z2,z3,z4,D⟩:=gen (CB.length - 1) (by lia)
  rw [hbA,hbB] at z2
  refine hGz ?_
  rw [show max (CA.length - 1) (CB.length - 1)=CB.length - 1 by lia]
  refine Ci n' t' L' ec' ⟨C6 z1,z2,z3,by lia,fun S=>?_⟩
  exact Ri (w:=w) (os:=os) (S:=S) n t g A B ((CA.length - 1:Nat):Int) ((CB.length - 1:Nat):Int) u1 u3 n' t' o' y (Ay L') ec' (Au L') b1 b2
   ⟨Bb D1,Bb D3,Eh (decide_eq_true (N8 hc)),Aw,Aw,Ae (fun bl=>Be (small_one (by lia) (by lia) (by lia) (by lia))) (hn:=by simp),B0 (fin L' 0 z3) D,trivial⟩
 ·refine Af fun Gz hGz=>?_
  obtain ⟨n',t',o',y,L',ec',z1,z2,z3,z4,D⟩:=gen (CA.length - 1) (by lia)
  rw [hbA,hbB] at z2
  refine hGz ?_
  rw [show max (CA.length - 1) (CB.length - 1)=CA.length - 1 by lia]
  refine Ci n' t' L' ec' ⟨C6 z1,z2,z3,by lia,fun S=>?_⟩
  exact T5 (w:=w) (os:=os) (S:=S) n t g A B ((CA.length - 1:Nat):Int) ((CB.length - 1:Nat):Int) u1 u3 n' t' o' y (Ay L') ec' (Au L') b1 b2
   ⟨Bb D1,Bb D3,Eh (decide_eq_false (by lia)),Aw,Aw,Ae (fun bl=>Be (small_one (by lia) (by lia) (by lia) (by lia))) (hn:=by simp),B0 (fin L' 0 z3) D,trivial⟩
end
end
def plF(P:Params):FuncData:=Fe (Wa P)
def J2(P:Params)(L it:Nat):Code:=Es (As (Bi (plF P)) 1) (.ref (it+310)) (C9 (plF P) 304 (L+310))
def Fs(P:Params)(L:Nat):Code:=Oc (As (Rr (As (Bi (plF P)) 1)) 1) (C9 (plF P) 304 (L+310))
structure PlK where
 L:Nat
 V:Nat
 N:Nat
 k1:Nat
 k2:Nat
 k3:Nat
 W:Int
 tw:Nat
inductive PO
 |n
 |s (kp:Nat) (vp:Value) (kl:Nat) (vl:Value)
noncomputable def PO.kp(o:PO)(t:Nat):Nat:=match o with
 |.n=>t
 |.s k _ _ _=>k
noncomputable def PO.kl(o:PO)(t:Nat):Nat:=match o with
 |.n=>t
 |.s _ _ k _=>k
def Ct(P:Params)(f:PlK)(o:PO):Obj:=match o with
 |.n=>B4 #[kv P "votes" f.k1 (.ref (f.V+310)),kv P "words" f.k2 (.int f.W f.tw),kv P "lines" f.k3 (.ref (f.N+310))] 3
 |.s k v k' v'=>B4 #[kv P "votes" f.k1 (.ref (f.V+310)),kv P "words" f.k2 (.int f.W f.tw),kv P "lines" f.k3 (.ref (f.N+310)),kv P "party" k v,kv P "left" k' v'] 5
abbrev Q25(f:PlK)(pp:Nat)(j:Nat)(tk:Nat)(ls:Array Value)(el:Nat)(n:Nat)(t2:Nat)(g:Nat):=(qC (.call (.builtin "list.append") ⟨[.ref (f.3+310),.str (C8 (97+pp) j) tk],[]⟩) [(f.3+310,Ax ls el)] (n+315) (t2+598) g (.ok (.ret (.none))) [1] [(Aa (ls.push (Value.str (C8 (97+pp) j) tk)) (el+1))] [] (n+315) (t2+598) g:Ah)
def Ke(w:World)(n t g:Nat)(f:PlK)(pp kp tp kl tl:Nat)(left:Int)(j t2 tk:Nat)(ls:Array Value)(el:Nat):List Ah:=[Rj left tl 0 (t+598) n 310 t 599 g (.bool true),
 qC (.call (.builtin "int.__lt__") ⟨[.int f.W f.8,.int left tl],[]⟩) [] (n+313) (t+603) g (.ok (.ret (.bool true))) [] [] [] (n+313) (t+603) g,
 qC (.call (.builtin "str.__mul__") ⟨[.str (⟨#[32,97+pp]⟩:Str) (t+602),.int f.W f.8],[]⟩) [] (n+315) (t+603) g (.ok (.ret (.str (C8 (97+pp) j) tk))) [] [] [] (n+315) (t2+598) g,
 Q25 f pp j tk ls el n t2 g,
 J5 left tl f.W f.8 (n+315) (t2+598) g]
noncomputable def Ael(w:World)(os:OsState)(S:Nat→Slot)(n:Nat)(t:Nat)(g:Nat)(f:PlK)(kp:Nat)(tp:Nat)(kl:Nat)(tl:Nat)(left:Int)(j:Nat)(t2:Nat)(tk:Nat)(ls:Array Value)(el:Nat)(pp:Nat)(b1 b2:Bool):Ao:=B7 (Ak (Z w os b1 b2) (Ab [kL,kF,kF,kB] S 0) 132 (Fs w.params f.L) ([(f.L+310,Ct w.params f (.s kp (.int (pp:Int) tp) kl (.int left tl))),(f.N+310,Aa ls el)]) (n+310) (t+598) g A2u (Ke w n t g f pp kp tp kl tl left j t2 tk ls el) []) [0,1] (Ke w n t g f pp kp tp kl tl left j t2 tk ls el)
noncomputable def Aap(w:World)(os:OsState)(S:Nat→Slot)(n:Nat)(t:Nat)(g:Nat)(f:PlK)(kp:Nat)(tp:Nat)(kl:Nat)(tl:Nat)(left:Int)(j:Nat)(t2:Nat)(tk:Nat)(ls:Array Value)(el:Nat)(pp:Nat)(b1 b2:Bool):Ao:=B6 (Ak (Z w os b1 b2) (Ab [kL,kF,kF,kB] S 0) 132 (Fs w.params f.L) ([(f.L+310,Ct w.params f (.s kp (.int (pp:Int) tp) kl (.int left tl))),(f.N+310,Aa ls el)]) (n+310) (t+598) g A2u (Ke w n t g f pp kp tp kl tl left j t2 tk ls el) []) (.again (Fs w.params f.L)) ([(f.L+310,Ct w.params f (.s kp (.int (pp:Int) tp) kl (.int (left - f.W) (t2+598)))),(f.N+310,Aa (ls.push (.str (C8 (97+pp) j) tk)) (el+1))]) ([]) (n+315) (t2+600) g (Ke w n t g f pp kp tp kl tl left j t2 tk ls el)
theorem Aie(w:World)(os:OsState)(S:Nat→Slot)(n:Nat)(t:Nat)(g:Nat)(f:PlK)(kp:Nat)(tp:Nat)(kl:Nat)(tl:Nat)(left:Int)(j:Nat)(t2:Nat)(tk:Nat)(ls:Array Value)(el:Nat)(pp:Nat)(hp:pp < 5):∀(b1 b2:Bool),Ael w os S n t g f kp tp kl tl left j t2 tk ls el pp b1 b2=Aap w os S n t g f kp tp kl tl left j t2 tk ls el pp b1 b2
 |false,_=>by obtain rfl |rfl |rfl |rfl |rfl:=Rm hp<;>kernel_rfl
 |true,_=>by obtain rfl |rfl |rfl |rfl |rfl:=Rm hp<;>kernel_rfl
theorem A0h(n t g:Nat)(f:PlK)(pp kp tp kl tl:Nat)(left:Int)(j t2 tk:Nat)(ls:Array Value)(el:Nat)(hp:pp < 5)(b1 b2:Bool) (hL:ObRs (Z w os b1 b2) (Ke w n t g f pp kp tp kl tl left j t2 tk ls el))
  (next:Does (Z w os b1 b2) (Fs w.params f.L) (Ab [kL,kF,kF,kB] S 0) ([(f.L+310,Ct w.params f (.s kp (.int (pp:Int) tp) kl (.int (left - f.W) (t2+598)))),(f.N+310,Aa (ls.push (.str (C8 (97+pp) j) tk)) (el+1))]) (n+315) (t2+600) g res l' n' t' g'):Does (Z w os b1 b2) (Fs w.params f.L) (Ab [kL,kF,kF,kB] S 0) ([(f.L+310,Ct w.params f (.s kp (.int (pp:Int) tp) kl (.int left tl))),(f.N+310,Aa ls el)]) (n+310) (t+598) g res l' n' t' g':=
 B2 132 A2u [0,1] hL next (by kernel_rfl) (by decide) (fun p=>congrFun (Aie w os S n t g f kp tp kl tl left j t2 tk ls el pp hp b1 b2) p)
abbrev Q27 x0_ (t:Nat) (x1_:Nat) x2_ x3_ (n:Nat) (x4_:Nat) (x5_:Nat) (g:Nat) x6_ x7_ (t2:Nat):=(qC (.call (.builtin "str.__mul__") ⟨[.str x0_ (t+x1_),.int x2_ x3_],[]⟩) [] (n+x4_) (t+x5_) g (.ok (.ret (.str x6_ x7_))) [] [] [] (n+x4_) (t2+598) g:Ah)
def Kg(w:World)(n t g:Nat)(f:PlK)(pp kp tp kl tl:Nat)(left:Int)(j t2 tk:Nat)(ls:Array Value)(el:Nat):List Ah:=[Rj left tl 0 (t+598) n 310 t 599 g (.bool true),
 qC (.call (.builtin "int.__lt__") ⟨[.int f.W f.8,.int left tl],[]⟩) [] (n+313) (t+603) g (.ok (.ret (.bool false))) [] [] [] (n+313) (t+603) g,
 Q27 (⟨#[32,97+pp]⟩:Str) t 602 left tl n 315 603 g (C8 (97+pp) j) tk t2,
 Q25 f pp j tk ls el n t2 g,
 J5 left tl f.W f.8 (n+315) (t2+598) g]
noncomputable def Aen(w:World)(os:OsState)(S:Nat→Slot)(n:Nat)(t:Nat)(g:Nat)(f:PlK)(kp:Nat)(tp:Nat)(kl:Nat)(tl:Nat)(left:Int)(j:Nat)(t2:Nat)(tk:Nat)(ls:Array Value)(el:Nat)(pp:Nat)(b1 b2:Bool):Ao:=B7 (Ak (Z w os b1 b2) (Ab [kL,kF,kF,kB] S 0) 129 (Fs w.params f.L) ([(f.L+310,Ct w.params f (.s kp (.int (pp:Int) tp) kl (.int left tl))),(f.N+310,Aa ls el)]) (n+310) (t+598) g A33 (Kg w n t g f pp kp tp kl tl left j t2 tk ls el) []) [0,1] (Kg w n t g f pp kp tp kl tl left j t2 tk ls el)
noncomputable def Ac7(w:World)(os:OsState)(S:Nat→Slot)(n:Nat)(t:Nat)(g:Nat)(f:PlK)(kp:Nat)(tp:Nat)(kl:Nat)(tl:Nat)(left:Int)(j:Nat)(t2:Nat)(tk:Nat)(ls:Array Value)(el:Nat)(pp:Nat)(b1 b2:Bool):Ao:=B6 (Ak (Z w os b1 b2) (Ab [kL,kF,kF,kB] S 0) 129 (Fs w.params f.L) ([(f.L+310,Ct w.params f (.s kp (.int (pp:Int) tp) kl (.int left tl))),(f.N+310,Aa ls el)]) (n+310) (t+598) g A33 (Kg w n t g f pp kp tp kl tl left j t2 tk ls el) []) (.again (Fs w.params f.L)) ([(f.L+310,Ct w.params f (.s kp (.int (pp:Int) tp) kl (.int (left - f.W) (t2+598)))),(f.N+310,Aa (ls.push (.str (C8 (97+pp) j) tk)) (el+1))]) ([]) (n+315) (t2+600) g (Kg w n t g f pp kp tp kl tl left j t2 tk ls el)
theorem Aj3(w:World)(os:OsState)(S:Nat→Slot)(n:Nat)(t:Nat)(g:Nat)(f:PlK)(kp:Nat)(tp:Nat)(kl:Nat)(tl:Nat)(left:Int)(j:Nat)(t2:Nat)(tk:Nat)(ls:Array Value)(el:Nat)(pp:Nat)(hp:pp < 5):∀(b1 b2:Bool),Aen w os S n t g f kp tp kl tl left j t2 tk ls el pp b1 b2=Ac7 w os S n t g f kp tp kl tl left j t2 tk ls el pp b1 b2
 |false,_=>by obtain rfl |rfl |rfl |rfl |rfl:=Rm hp<;>kernel_rfl
 |true,_=>by obtain rfl |rfl |rfl |rfl |rfl:=Rm hp<;>kernel_rfl
theorem Yn(n t g:Nat)(f:PlK)(pp kp tp kl tl:Nat)(left:Int)(j t2 tk:Nat)(ls:Array Value)(el:Nat)(hp:pp < 5)(b1 b2:Bool) (hL:ObRs (Z w os b1 b2) (Kg w n t g f pp kp tp kl tl left j t2 tk ls el))
  (next:Does (Z w os b1 b2) (Fs w.params f.L) (Ab [kL,kF,kF,kB] S 0) ([(f.L+310,Ct w.params f (.s kp (.int (pp:Int) tp) kl (.int (left - f.W) (t2+598)))),(f.N+310,Aa (ls.push (.str (C8 (97+pp) j) tk)) (el+1))]) (n+315) (t2+600) g res l' n' t' g'):Does (Z w os b1 b2) (Fs w.params f.L) (Ab [kL,kF,kF,kB] S 0) ([(f.L+310,Ct w.params f (.s kp (.int (pp:Int) tp) kl (.int left tl))),(f.N+310,Aa ls el)]) (n+310) (t+598) g res l' n' t' g':=
 B2 129 A33 [0,1] hL next (by kernel_rfl) (by decide) (fun p=>congrFun (Aj3 w os S n t g f kp tp kl tl left j t2 tk ls el pp hp b1 b2) p)
theorem Te(n t g:Nat)(f:PlK)(o:PO)(left:Int)(kp tp kl tl:Nat)(vp:Value)(b1 b2:Bool) (hL:ObRs (Z w os b1 b2) [Rj left tl 0 (t+598) n 310 t 599 g (.bool false)]):Does (Z w os b1 b2) (Fs w.params f.L) (Ab [kL,kF,kF,kB] S 0) ([(f.L+310,Ct w.params f (.s kp vp kl (.int left tl)))]) (n+310) (t+598) g (.ok .next) ([(f.L+310,Ct w.params f (.s kp vp kl (.int left tl)))]) (n+310) (t+599) g:=
 Ce 6 0x82 [0] hL
theorem Rp(n t g L it:Nat)(i:Int)(b1 b2:Bool) (hL:ObRs (Z w os b1 b2) [Q0 it i 0 n t g (.error (.ref (n+311))) 0 i 0 [(n+310,Cg #[]),(n+311,(At ((n+310).add 0)))] 312 598]):Does (Z w os b1 b2) (J2 w.params L it) (Ab [kF,kF,kB] S 0) ([(it+310,Ac i 0 1)]) (n+310) (t+598) g (.ok .next) ([(it+310,(Ac i 0 1))]) (n+312) (t+598) g:=
 Ce 5 0x10082 [0] hL
def Hf(w:World)(n t g it:Nat)(f:PlK)(o:PO)(i left:Int)(vs:Array Value)(ev:Nat)(v:Int)(tv:Nat)(l2:Int)(tl2:Nat)(ls ls2:Array Value)(el el2 n2 t2 g2:Nat):List Ah:=[Q0 it i left n t g (.ok (.ret (.int i (t+598)))) 1 (i+1) (left - 1) [] 310 599,
 qC (.call (.builtin "list.__getitem__") ⟨[.ref (f.2+310),.int i (t+598)],[]⟩) [(f.2+310,Ax vs ev)] (n+310) (t+600) g (.ok (.ret (.int v tv))) [2] [(Aa vs ev)] [] (n+310) (t+600) g,
 qK [kL,kF,kF,kB] (Fs w.params f.L) [(f.L+310,Ct w.params f (.s (o.kp (t+599)) (.int i (t+598)) (o.kl (t+600)) (.int v tv))),(f.N+310,Aa ls el)] (n+310) (t+601) g (.ok .next) [0,3] [Ct w.params f (.s (o.kp (t+599)) (.int i (t+598)) (o.kl (t+600)) (.int l2 tl2)),Aa ls2 el2] [] (n2+310) (t2+598) g2]
noncomputable def A2s(w:World)(os:OsState)(S:Nat→Slot)(n:Nat)(t:Nat)(g:Nat)(it:Nat)(f:PlK)(i:Int)(left:Int)(vs:Array Value)(ev:Nat)(v:Int)(tv:Nat)(l2:Int)(tl2:Nat)(ls:Array Value)(ls2:Array Value)(el:Nat)(el2:Nat)(n2:Nat)(t2:Nat)(g2:Nat)(o:PO)(b1 b2:Bool):Ao:=B7 (Ak (Z w os b1 b2) (Ab [kF,kF,kB] S 0) 29 (J2 w.params f.L it) ([(f.L+310,Ct w.params f o),(it+310,Ac i left 1),(f.V+310,Aa vs ev),(f.N+310,Aa ls el)]) (n+310) (t+598) g A4y (Hf w n t g it f o i left vs ev v tv l2 tl2 ls ls2 el el2 n2 t2 g2) []) [0,1,2,3] (Hf w n t g it f o i left vs ev v tv l2 tl2 ls ls2 el el2 n2 t2 g2)
noncomputable def A49(w:World)(os:OsState)(S:Nat→Slot)(n:Nat)(t:Nat)(g:Nat)(it:Nat)(f:PlK)(i:Int)(left:Int)(vs:Array Value)(ev:Nat)(v:Int)(tv:Nat)(l2:Int)(tl2:Nat)(ls:Array Value)(ls2:Array Value)(el:Nat)(el2:Nat)(n2:Nat)(t2:Nat)(g2:Nat)(o:PO)(b1 b2:Bool):Ao:=B6 (Ak (Z w os b1 b2) (Ab [kF,kF,kB] S 0) 29 (J2 w.params f.L it) ([(f.L+310,Ct w.params f o),(it+310,Ac i left 1),(f.V+310,Aa vs ev),(f.N+310,Aa ls el)]) (n+310) (t+598) g A4y (Hf w n t g it f o i left vs ev v tv l2 tl2 ls ls2 el el2 n2 t2 g2) []) (.again (J2 w.params f.L it)) ([(f.L+310,Ct w.params f (.s (o.kp (t+599)) (.int i (t+598)) (o.kl (t+600)) (.int l2 tl2))),(it+310,Ac (i+1) (left-1) 1),(f.V+310,Aa vs ev),(f.N+310,Aa ls2 el2)]) ([]) (n2+310) (t2+598) g2 (Hf w n t g it f o i left vs ev v tv l2 tl2 ls ls2 el el2 n2 t2 g2)
theorem Abi(w:World)(os:OsState)(S:Nat→Slot)(n:Nat)(t:Nat)(g:Nat)(it:Nat)(f:PlK)(i:Int)(left:Int)(vs:Array Value)(ev:Nat)(v:Int)(tv:Nat)(l2:Int)(tl2:Nat)(ls:Array Value)(ls2:Array Value)(el:Nat)(el2:Nat)(n2:Nat)(t2:Nat)(g2:Nat)(o:PO):∀(b1 b2:Bool),A2s w os S n t g it f i left vs ev v tv l2 tl2 ls ls2 el el2 n2 t2 g2 o b1 b2=A49 w os S n t g it f i left vs ev v tv l2 tl2 ls ls2 el el2 n2 t2 g2 o b1 b2
 |false,_=>by cases o<;>kernel_rfl
 |true,_=>by cases o<;>kernel_rfl
theorem Ti(n t g it:Nat)(f:PlK)(o:PO)(i left:Int)(vs:Array Value)(ev:Nat)(v:Int)(tv:Nat)(l2:Int)(tl2:Nat)(ls ls2:Array Value)(el el2 n2 t2 g2:Nat)(b1 b2:Bool) (hL:ObRs (Z w os b1 b2) (Hf w n t g it f o i left vs ev v tv l2 tl2 ls ls2 el el2 n2 t2 g2))
  (next:Does (Z w os b1 b2) (J2 w.params f.L it) (Ab [kF,kF,kB] S 0) ([(f.L+310,Ct w.params f (.s (o.kp (t+599)) (.int i (t+598)) (o.kl (t+600)) (.int l2 tl2))),(it+310,Ac (i+1) (left-1) 1),(f.V+310,Aa vs ev),(f.N+310,Aa ls2 el2)]) (n2+310) (t2+598) g2 res l' n' t' g'):Does (Z w os b1 b2) (J2 w.params f.L it) (Ab [kF,kF,kB] S 0) ([(f.L+310,Ct w.params f o),(it+310,Ac i left 1),(f.V+310,Aa vs ev),(f.N+310,Aa ls el)]) (n+310) (t+598) g res l' n' t' g':=
 B2 29 A4y [0,1,2,3] hL next (by kernel_rfl) (by decide) (fun p=>congrFun (Abi w os S n t g it f i left vs ev v tv l2 tl2 ls ls2 el el2 n2 t2 g2 o  b1 b2) p)
noncomputable abbrev plK(n t V:Nat)(W:Int)(tw:Nat):PlK:=⟨n,V,n+1,t+598,t+599,t+600,W,tw⟩
def Hb(w:World)(n t g:Nat)(V:Nat)(vs:Array Value)(ev:Nat)(W:Int)(tw:Nat)(o:PO)(x:Int)(ls:Array Value)(el n2 t2 g2:Nat):List Ah:=[Pt V (Ax vs ev) n 312 t 601 g vs 602 0 ev 603,
 Q9 n 312 (E3 "range" #[.int 0 (t+603),.int (↑vs.size) (t+602),.int 1 (t+604)]) n 313 t 605 g 3 0 t 603 vs 602 604 314,
 qK [kF,kF,kB] (J2 w.params n (n+3)) [(n+310,Ct w.params (plK n t V W tw) .n),(n+313,Ac 0 (Builtin.Range.rangeSize 0 (vs.size:Int) 1) 1),(V+310,Aa vs ev),(n+311,Aa #[] 0)] (n+314) (t+605) g (.ok .next) [1,4,0,2] [Ct w.params (plK n t V W tw) o,Ac x 0 1,Aa vs ev,Aa ls el] [] (n2+310) (t2+598) g2]
noncomputable def A1z(w:World)(os:OsState)(S:Nat→Slot)(n:Nat)(t:Nat)(g:Nat)(V:Nat)(vs:Array Value)(ev:Nat)(W:Int)(tw:Nat)(x:Int)(ls:Array Value)(el:Nat)(n2:Nat)(t2:Nat)(g2:Nat)(o:PO)(b1 b2:Bool):Ao:=B7 (Ak (Z w os b1 b2) (Ab [kF,kB] S 0) 66 (.call (.ref 304) ⟨[.ref (V+310),.int W tw],[]⟩) ([(V+310,Aa vs ev)]) (n+310) (t+598) g A1i (Hb w n t g V vs ev W tw o x ls el n2 t2 g2) []) [0,2] (Hb w n t g V vs ev W tw o x ls el n2 t2 g2)
noncomputable def A2x(w:World)(os:OsState)(S:Nat→Slot)(n:Nat)(t:Nat)(g:Nat)(V:Nat)(vs:Array Value)(ev:Nat)(W:Int)(tw:Nat)(x:Int)(ls:Array Value)(el:Nat)(n2:Nat)(t2:Nat)(g2:Nat)(o:PO)(b1 b2:Bool):Ao:=B6 (Ak (Z w os b1 b2) (Ab [kF,kB] S 0) 66 (.call (.ref 304) ⟨[.ref (V+310),.int W tw],[]⟩) ([(V+310,Aa vs ev)]) (n+310) (t+598) g A1i (Hb w n t g V vs ev W tw o x ls el n2 t2 g2) []) (.res (.ok (.ret (.ref (n+311))))) ([(V+310,Aa vs ev),(n+311,Aa ls el)]) ([]) (n2+310) (t2+598) g2 (Hb w n t g V vs ev W tw o x ls el n2 t2 g2)
theorem Aei(w:World)(os:OsState)(S:Nat→Slot)(n:Nat)(t:Nat)(g:Nat)(V:Nat)(vs:Array Value)(ev:Nat)(W:Int)(tw:Nat)(x:Int)(ls:Array Value)(el:Nat)(n2:Nat)(t2:Nat)(g2:Nat)(o:PO):∀(b1 b2:Bool),A1z w os S n t g V vs ev W tw x ls el n2 t2 g2 o b1 b2=A2x w os S n t g V vs ev W tw x ls el n2 t2 g2 o b1 b2
 |false,_=>by cases o<;>kernel_rfl
 |true,_=>by cases o<;>kernel_rfl
theorem Tx(n t g:Nat)(V:Nat)(vs:Array Value)(ev:Nat)(W:Int)(tw:Nat)(o:PO)(x:Int)(ls:Array Value)(el n2 t2 g2:Nat)(b1 b2:Bool) (hL:ObRs (Z w os b1 b2) (Hb w n t g V vs ev W tw o x ls el n2 t2 g2)):Does (Z w os b1 b2) (.call (.ref 304) ⟨[.ref (V+310),.int W tw],[]⟩) (Ab [kF,kB] S 0) ([(V+310,Aa vs ev)]) (n+310) (t+598) g (.ok (.ret (.ref (n+311)))) ([(V+310,Aa vs ev),(n+311,Aa ls el)]) (n2+310) (t2+598) g2:=
 Cc 66 A1i [0,2] hL (by decide) (fun p=>congrFun (Aei w os S n t g V vs ev W tw x ls el n2 t2 g2 o  b1 b2) p)
section
theorem StrsL.push{ls:Array Value}{L:List Str}(h:StrsL ls L)(x:Str)(tk:Nat):StrsL (ls.push (.str x tk)) (L++[x]):=by
 unfold StrsL at *
 rw [Array.toList_push,List.map_append,List.map_append,h];rfl
def V0(W:Nat)(x:Nat):Nat→Int→List Str→List Str
 |0,_,d=>d
 |k+1,l,d=>if 0 < l then V0 W x k (l - W) (d++[C8 x (if (W:Int) < l then (W:Int) else l).toNat]) else d
section
variable {w:World}{os:OsState}(b1 b2:Bool)(g:Nat)(W:Nat)(f:PlK)(pp kp tp:Nat)
theorem A9y(hpp:pp < 5)(hW:1≤W∧W≤6) (hf:f.W=(W:Int)) (k:Nat):∀(n t kl tl:Nat) (left:Int) (ls:Array Value) (el:Nat) (done:List Str),left≤k→k≤6→StrsL ls done→ls.size+k≤100 →
  ∃(n' t':Nat) (ls':Array Value) (el':Nat) (l2:Int) (tl2:Nat),n≤n'∧StrsL ls' (V0 W (97+pp) k left done)∧ls'.size≤ls.size+k ∧
  ∀S,Does (Z w os b1 b2) (Fs w.params f.L) (Ab [kL,kF,kF,kB] S 0) [(f.L+310,Ct w.params f (.s kp (.int (pp:Int) tp) kl (.int left tl))),(f.N+310,Aa ls el)] (n+310) (t+598) g (.ok .next)
   [(f.L+310,Ct w.params f (.s kp (.int (pp:Int) tp) kl (.int l2 tl2))),(f.N+310,Aa ls' el')] (n'+310) (t'+598) g:=by
 have fin:∀(n t kl tl:Nat) (left:Int) (ls:Array Value) (el:Nat),left≤0→∀S,Does (Z w os b1 b2) (Fs w.params f.L) (Ab [kL,kF,kF,kB] S 0) [(f.L+310,Ct w.params f (.s kp (.int (pp:Int) tp) kl (.int left tl))),(f.N+310,Aa ls el)] (n+310) (t+598) g (.ok .next)
   [(f.L+310,Ct w.params f (.s kp (.int (pp:Int) tp) kl (.int left tl))),(f.N+310,Aa ls el)] (n+310) (t+1+598) g:=fun n t kl tl left ls el h S=>
  (Te (w:=w) (os:=os) (S:=S) n t g f .n left kp tp kl tl (.int (pp:Int) tp) b1 b2 ⟨Eh (decide_eq_false (A3n h)),trivial⟩).frame [(f.N+310,Aa ls el)] newer.same
 induction k with
 |zero=>
  intro n t kl tl left ls el done h _ hL hz
  exact D8 n (t+1) ls el left tl ⟨Nat.le_refl _,hL,Er,fin n t kl tl left ls el h⟩
 |succ k ih=>
  intro n t kl tl left ls el done h h6 hL hz
  unfold V0
  by_cases hp:0 < left
  ·rw [if_pos hp]
   have hzz:ls.size≤sizeLine:=Nat.le_trans (show _≤100 by exact C6 hz) (by decide)
   by_cases hw:(W:Int) < left
   ·rw [if_pos hw,Int.toNat_natCast]
    refine Af fun Gz hGz=>?_
    obtain ⟨n',t',ls',el',l2,tl2,h1,h2,h3,D⟩:=ih (n+5) (t+5+Cj (W:Int)+2) kl (t+5+Cj (W:Int)+598) (left - W) (ls.push (.str (C8 (97+pp) W) (Fz (W:Int) (t+602) (t+603)))) (el+1) _ (by lia) (C6 h6) (hL.push _ _) (by rw [Array.size_push];exact E0 hz)
    refine hGz ?_
    refine D8 n' t' ls' el' l2 tl2 ⟨C6 h1,h2,by rw [Array.size_push] at h3;lia,fun S=>?_⟩
    refine A0h (w:=w) (os:=os) (S:=S) n t g f pp kp tp kl tl left W (t+5+Cj (W:Int)) (Fz (W:Int) (t+602) (t+603)) ls el hpp b1 b2
     ⟨Eh (decide_eq_true hp),Dm (by rw [hf];exact decide_eq_true hw),Ae fun bl=>?_,Ae fun bl=>Dz hzz,I8,trivial⟩ ?_
    ·have M:=Gu (z:=Z w os b1 b2) (bl:=bl) (x:=⟨#[32,97+pp]⟩) (ts:=t+602) (tn:=f.tw) (N:=n+315) (T:=t+603) (g:=g) (n:=(W:Int)) ⟨show 1≤2 by decide,show 2≤2 by decide⟩ Bs (by lia)
     rw [Int.toNat_natCast,Lg] at M
     rw [hf,show t+5+Cj (W:Int)+598=t+603+Cj (W:Int) by exact Dp]
     exact M
    ·rw [hf]
     exact D S
   ·rw [if_neg hw]
    refine Af fun Gz hGz=>?_
    obtain ⟨n',t',ls',el',l2,tl2,h1,h2,h3,D⟩:=ih (n+5) (t+5+Cj left+2) kl (t+5+Cj left+598) (left - W) (ls.push (.str (C8 (97+pp) left.toNat) (Fz left (t+602) (t+603)))) (el+1) _ (by lia) (C6 h6) (hL.push _ _) (by rw [Array.size_push];exact E0 hz)
    refine hGz ?_
    refine D8 n' t' ls' el' l2 tl2 ⟨C6 h1,h2,by rw [Array.size_push] at h3;lia,fun S=>?_⟩
    refine Yn (w:=w) (os:=os) (S:=S) n t g f pp kp tp kl tl left left.toNat (t+5+Cj left) (Fz left (t+602) (t+603)) ls el hpp b1 b2
     ⟨Eh (decide_eq_true hp),Dm (by rw [hf];exact decide_eq_false hw),Ae fun bl=>?_,Ae fun bl=>Dz hzz,I8,trivial⟩ ?_
    ·have M:=Gu (z:=Z w os b1 b2) (bl:=bl) (x:=⟨#[32,97+pp]⟩) (ts:=t+602) (tn:=tl) (N:=n+315) (T:=t+603) (g:=g) (n:=left) ⟨show 1≤2 by decide,show 2≤2 by decide⟩ (y_1 hp) (by lia)
     rw [Lg] at M
     rw [show t+5+Cj left+598=t+603+Cj left by exact Dp]
     exact M
    ·rw [hf]
     exact D S
  ·rw [if_neg hp]
   exact D8 n (t+1) ls el left tl ⟨Nat.le_refl _,hL,Er,fin n t kl tl left ls el (Abm hp)⟩
theorem Xv{W v:Nat}(x:Nat)(done:List Str)(hW:1≤W∧W≤6)(hv:1≤v∧v≤6):V0 W x 6 (v:Int) done=Fo W x v done:=by
 have h6:∀n,1≤n∧n≤6→n=1∨n=2∨n=3∨n=4∨n=5∨n=6:=by lia
 obtain rfl | rfl | rfl | rfl | rfl | rfl:=h6 W hW<;>obtain rfl | rfl | rfl | rfl | rfl | rfl:=h6 v hv<;>rfl
def plL(P:Params)(f:PlK)(it:Nat)(o:PO)(i left:Int)(vs:Array Value)(ev:Nat)(ls:Array Value)(el:Nat):LO:=[(f.L+310,Ct P f o),(it+310,Ac i left 1),(f.V+310,Aa vs ev),(f.N+310,Aa ls el)]
variable (it:Nat)(vs:Array Value)(ev:Nat)(V:List Nat)
theorem Vm(hW:1≤W∧W≤6) (hf:f.W=(W:Int)) (hI:IntsL vs (V.map Int.ofNat)) (hl:V.length≤5) (hV:∀v∈V,1≤v∧v≤6) (k:Nat):∀(i:Nat) (n t:Nat) (o:PO) (ls:Array Value) (el:Nat) (done:List Str),i+k=V.length→StrsL ls done→ls.size+6*k≤100 →
  ∃(n' t':Nat) (ls':Array Value) (el':Nat) (o':PO) (y:Int),n≤n'∧StrsL ls' (Dy W i (V.drop i) done)∧ls'.size≤ls.size+6*k ∧
  ∀S,Does (Z w os b1 b2) (J2 w.params f.L it) (Ab [kF,kF,kB] S 0) (plL w.params f it o (i:Int) (k:Int) vs ev ls el) (n+310) (t+598) g (.ok .next) (plL w.params f it o' y 0 vs ev ls' el') (n'+310) (t'+598) g:=by
 induction k with
 |zero=>
  intro i n t o ls el done hi hL hz
  rw [show V.drop i=[] from List.drop_eq_nil_of_le (by exact Mz hi)]
  refine D8 (n+2) t ls el o (i:Int) ⟨Er,hL,Er,fun S=>?_⟩
  have X:=(Rp (w:=w) (os:=os) (S:=S) n t g f.L it (i:Int) b1 b2 ⟨Ae (fun bl=>Bm (by decide)) (hn:=by simp),trivial⟩).frame [(f.L+310,Ct w.params f o),(f.V+310,Aa vs ev),(f.N+310,Aa ls el)] newer.same
  exact X.perm (List.Perm.swap ..) (List.Perm.swap ..)
 |succ k ih=>
  intro i n t o ls el done hi hL hz
  have hiv:i < V.length:=by exact E1 hi
  have hvm:=hV _ (List.getElem_mem hiv)
  have hdrop:V.drop i=V[i]::V.drop (i+1):=List.drop_eq_getElem_cons hiv
  refine Af fun Gz hGz=>?_
  obtain ⟨tv,htv⟩:=hI.nth (i:=i) (by rw [List.length_map];exact hiv)
  rw [List.getElem_map] at htv
  refine A71 (A9y (w:=w) (os:=os) b1 b2 g W f i (o.kp (t+599)) (t+598) (G8 hiv hl) hW hf 6 n (t+3) (o.kl (t+600)) tv (V[i]:Int) ls el done (La hvm) F5 hL (by lia)) fun n2 t2 ls2 el2 l2 tl2 h1 h2 h3 D=>?_
  rw [Xv _ _ hW hvm] at h2
  obtain ⟨n3,t3,ls3,el3,o3,y,h4,h5,h6,D3⟩:=ih (i+1) n2 t2 (.s (o.kp (t+599)) (.int (i:Int) (t+598)) (o.kl (t+600)) (.int l2 tl2)) ls2 el2 _ (E4 hi) h2 (by lia)
  refine hGz ?_
  rw [hdrop]
  refine D8 n3 t3 ls3 el3 o3 y ⟨G8 h1 h4,h5,by lia,fun S=>?_⟩
  have D3:=D3 S
  unfold plL at D3 ⊢
  rw [show ((i+1:Nat):Int)=(i:Int)+1 by exact Fq] at D3
  refine Ti (w:=w) (os:=os) (S:=S) n t g it f o (i:Int) ((k+1:Nat):Int) vs ev (V[i]:Int) tv l2 tl2 ls ls2 el el2 n2 t2 g b1 b2
   ⟨Ae fun bl=>B1 Fl,Ae fun bl=>Ba Bs (by lia) (by rw [Int.toNat_natCast];exact htv),Bb D,trivial⟩ ?_
  rw [show (((k+1:Nat):Int) - 1)=(k:Int) by exact Fh]
  exact D3
theorem Nx(n t Va tw:Nat)(hW:1≤W∧W≤6) (hI:IntsL vs (V.map Int.ofNat)) (hl:V.length≤5) (hV:∀v∈V,1≤v∧v≤6):
  ∃(n' t':Nat) (ls:Array Value) (el:Nat),n≤n'∧StrsL ls (Cf W V)∧ls.size≤30 ∧
  ∀S,Does (Z w os b1 b2) (.call (.ref 304) ⟨[.ref (Va+310),.int (W:Int) tw],[]⟩) (Ab [kF,kB] S 0) [(Va+310,Aa vs ev)] (n+310) (t+598) g (.ok (.ret (.ref (n+311)))) [(Va+310,Aa vs ev),(n+311,Aa ls el)] (n'+310) (t'+598) g:=by
 have hsz:vs.size=V.length:=by rw [hI.size,List.length_map]
 refine Af fun Gz hGz=>?_
 refine A71 (Vm (w:=w) (os:=os) b1 b2 g W (plK n t Va (W:Int) tw) (n+3) vs ev V hW rfl hI hl hV V.length 0 (n+4) (t+7) .n #[] 0 [] Ep rfl (by simp;lia)) fun n' t' ls el o y h1 h2 h3 D=>?_
 refine hGz ?_
 refine Ci n' t' ls el ⟨C6 h1,h2,by simp at h3;lia,fun S=>?_⟩
 have hr:Builtin.Range.rangeSize 0 (vs.size:Int) 1=(V.length:Int):=by rw [Eq (by exact Bs),hsz]
 refine Tx (w:=w) (os:=os) (S:=S) n t g Va vs ev (W:Int) tw o y ls el n' t' g b1 b2
  ⟨Ae fun bl=>Bw (by lia),Ae (fun bl=>Be (Dv Bs (by lia))) (hn:=by simp),Bb (fun S=>?_),trivial⟩
 have D:=D S
 rw [← hr] at D
 exact D
end
end
end Mine
namespace Mine
open PySem PySem.W PySem.W.X PyProof.Rows PySem.MeetsSeq PySem.SeqAt
variable {w:World}{os:OsState}{S:Nat→Slot}{res:Result}{l':LO}{n' t' g':Nat}
noncomputable def Xx(a x:Int):Int:=if a < x then x else a
def Ku(m:Int)(l:List Int):Int:=l.foldl Xx m
theorem Aa7{prog:Program}{w:World}{A:Around}{x m:Int}{t u:Nat}{s:Shared}{Q:Value→Shared→Prop}{E:Value→Shared→Prop} (hQ:Q (.bool (decide (m < x))) s):wpAny (model prog w) A (richCompare .Gt (.int x t) (.int m u)) Q E s:=by
 have h:=CmpOf.ints_gt (prog:=prog) (w:=w) (A:=A) (P:=fun i v=>if i=0 then v=.int m u else v=.int x t) (fun i=>if i=0 then m else x) (fun i v h=>by
  by_cases hi:i=0
  ·simp only [hi,if_true] at h ⊢;exact ⟨u,h⟩
  ·simp only [hi,if_false] at h ⊢;exact ⟨t,h⟩)
 exact h 1 0 _ _ s Q E (by simp) (by simp) hQ
theorem A2w{vs:Array Value}{L:List Int}(hI:IntsL vs L):
  ∀(k i:Nat) (m:Int) (tm:Nat),i+k=L.length→∃tk,∀(prog:Program) (w:World) (A:Around) (R:Result→Shared→Prop) (it b S:Addr) (ep e2:Nat) (s:Shared),A.handled=none→it≠b→it≠S→b≠S→s.heap.get? it=some (Ad b i)→s.heap.get? b=some (Aa vs ep)→s.heap.get? S=some (Aa #[.int m tm,.int m tm] e2) →
  (∀s',SumPost it S s s' 2 0→R (.ok (.ret (.int (Ku m (L.drop i)) tk))) s')→codeAny (model prog w) A (.builtin "max.loop" ⟨[.ref it,.none,.ref S],[]⟩) R s:=by
 have hname:(toString "max"++toString ".loop":String)="max.loop":=by decide
 intro k
 induction k with
 |zero=>
  intro i m tm hk
  refine ⟨tm,fun prog w A R it b S ep e2 s hh h1 h2 h3 hit hb hS hR=>?_⟩
  have hsz:=hI.size
  have hx:vs[i]?=none:=Array.getElem?_eq_none (by lia)
  refine codeAny_builtin F.entry_max_loop ?_
  rw [Around.under_plainId F.plain_max_loop _]
  show wpAny _ A.in1 (seqItems? (.ref S) >>= _) _ _ s
  refine wpAny_bind (wpAny_seqItems hS rfl ?_)
  show wpAny _ A.in1 (tryCatch (pyNext (.ref it)) _ >>= _) _ _ s
  have hs:Heap.SameBut it s.heap (s.heap.update it (Obj.mapFields fun v=>v.setIfInBounds 0 .none)):=Heap.SameBut.update ..
  refine wpAny_bind (wpAny_tryCatch (Np hh hit hb hx ?_))
  have hS':(((s.heap.update it (Obj.mapFields fun v=>v.setIfInBounds 0 .none)).push Br).push (At s.heap.objs.size)).get? S=some (Aa #[.int m tm,.int m tm] e2):=
   Heap.get?_push_of_some _ (Heap.get?_push_of_some _ ((hs.2 S fun w=>h2 w.symm).trans hS))
  show wpAny _ A.in1 (updateSeq S (fun _=>#[]) >>= _) _ _ _
  refine wpAny_bind (wpAny_updateSeq hS' rfl (wpAny_bind (wpAny_letGo (wpAny_pure ?_))))
  have R1:=hR {s with heap:=((((s.heap.update it (Obj.mapFields fun v=>v.setIfInBounds 0 .none)).push Br).push (At s.heap.objs.size)).update S (Obj.mapSeq fun _=>#[]))}
   ⟨by show (((((s.heap.update it (Obj.mapFields fun v=>v.setIfInBounds 0 .none)).push Br).push (At s.heap.objs.size)).update S (Obj.mapSeq fun _=>#[]))).objs.size=_
       rw [(Heap.SameBut.update ..).1,Heap.size_push,Heap.size_push,hs.1],rfl,rfl,rfl,fun x o e n1 n2=>(Heap.get?_update_other _ _ (Ne.symm n2)).trans (Heap.get?_push_of_some _ (Heap.get?_push_of_some _ ((hs.2 x n1).trans e)))⟩
  rw [List.drop_of_length_le (by exact Mz hk)] at R1
  exact R1
 |succ k ih=>
  intro i m tm hk
  have hsz:=hI.size
  have hi:i < L.length:=by exact E1 hk
  refine Af fun Gz hGz=>?_
  obtain ⟨t,hx⟩:=hI.nth hi
  obtain ⟨tk,IH⟩:=ih (i+1) (if m < L[i] then L[i] else m) (if m < L[i] then t else tm) (E4 hk)
  refine hGz ?_
  refine ⟨tk,fun prog w A R it b S ep e2 s hh h1 h2 h3 hit hb hS hR=>?_⟩
  have hs:Heap.SameBut it s.heap (s.heap.update it (Obj.mapFields fun v=>v.setIfInBounds 1 (rawInt ((i:Int)+1)))):=Heap.SameBut.update ..
  have hf:Obj.mapFields (fun v=>v.setIfInBounds 1 (rawInt ((i:Int)+1))) (Ad b i)=Ad b (i+1):=by
   show ({cls:=_,dict:=_,data:=.fields (#[Value.ref b,Value.int (i:Int) 0].setIfInBounds 1 (rawInt ((i:Int)+1))),slots:=_}:Obj)=_
   simp [Ad,rawInt]
  have hit':(s.heap.update it (Obj.mapFields fun v=>v.setIfInBounds 1 (rawInt ((i:Int)+1)))).get? it=some (Ad b (i+1)):=by
   have:=Heap.get?_update_self (Obj.mapFields fun v=>v.setIfInBounds 1 (rawInt ((i:Int)+1))) hit (by rw [hf];rfl)
   rw [hf] at this;exact this
  have hb':=(hs.2 b fun w=>h1 w.symm).trans hb
  have hS':=(hs.2 S fun w=>h2 w.symm).trans hS
  have hdrop:L.drop i=L[i]::L.drop (i+1):=List.drop_eq_getElem_cons hi
  refine codeAny_builtin F.entry_max_loop ?_
  rw [Around.under_plainId F.plain_max_loop _]
  show wpAny _ A.in1 (seqItems? (.ref S) >>= _) _ _ s
  refine wpAny_bind (wpAny_seqItems hS rfl ?_)
  show wpAny _ A.in1 (tryCatch (pyNext (.ref it)) _ >>= _) _ _ s
  refine wpAny_bind (wpAny_tryCatch (H9 hit hb hx ?_))
  show wpAny _ A.in1 (tryCatch (holding [Value.int L[i] t,Value.int L[i] t] (richCompare .Gt (.int L[i] t) (.int m tm) >>= _)) _ >>= _) _ _ _
  refine wpAny_bind (wpAny_tryCatch (wpAny_holding (wpAny_bind (Aa7 ?_))))
  refine wpAny_bind (wpAny_holding (wpAny_truthy_bool ?_))
  refine wpAny_bind (wpAny_letGo (wpAny_pure ?_))
  have go:∀(H:Heap) (m':Int) (tm':Nat),m'=(if m < L[i] then L[i] else m)→tm'=(if m < L[i] then t else tm)→H.objs.size=s.heap.objs.size→H.get? it=some (Ad b (i+1))→H.get? b=some (Aa vs ep)→H.get? S=some (Aa #[.int m' tm',.int m' tm'] e2)→(∀x o,s.heap.get? x=some o→x≠it→x≠S→H.get? x=some o) →
    codeAny (model prog w) A (.builtin "max.loop" ⟨[.ref it,.none,.ref S],[]⟩) R {s with heap:=H,toks:=s.toks+0}:=fun H m' tm' q0 q1 q2 q3 q4 q5 q6=>by
   subst q0 q1
   refine IH prog w A R it b S ep e2 {s with heap:=H,toks:=s.toks+0} hh h1 h2 h3 q3 q4 q5 fun s' P=>?_
   have P0:SumPost it S s {s with heap:=H,toks:=s.toks+0} 0 0:=⟨q2,rfl,rfl,rfl,q6⟩
   have PP:=P0.trans P
   have R1:=hR s' ⟨by have:=PP.size;exact this,by have:=PP.toks;exact this,PP.gens,PP.os,PP.keep⟩
   rw [hdrop] at R1
   exact R1
  cases hb2:decide (m < L[i]) with
  |true=>
   simp only [if_true]
   refine wpAny_bind ?_
   refine wpAny_updateSeq hS' rfl (wpAny_bind (wpAny_letGo ?_))
   rw [hname]
   refine wpAny_pure ⟨plainId_quiet F.plain_max_loop _,?_⟩
   have u1:=Heap.SameBut.update (a:=S) (f:=Obj.mapSeq fun _=>#[Value.int L[i] t,Value.int L[i] t]) (h:=s.heap.update it (Obj.mapFields fun v=>v.setIfInBounds 1 (rawInt ((i:Int)+1))))
   exact go _ L[i] t (by rw [if_pos (of_decide_eq_true hb2)]) (by rw [if_pos (of_decide_eq_true hb2)]) (u1.1.trans hs.1) ((u1.2 it h2).trans hit') ((u1.2 b h3).trans hb') (Heap.get?_update_self _ hS' rfl) fun x o e n1 n2=>(u1.2 x n2).trans ((hs.2 x n1).trans e)
  |false=>
   simp only [Bool.false_eq_true,if_false]
   refine wpAny_bind (wpAny_letGo ?_)
   rw [hname]
   refine wpAny_pure ⟨plainId_quiet F.plain_max_loop _,?_⟩
   exact go _ m tm (by rw [if_neg (of_decide_eq_false hb2)]) (by rw [if_neg (of_decide_eq_false hb2)]) hs.1 hit' hb' hS' fun x o e n1 n2=>(hs.2 x n1).trans e
theorem S6{vs:Array Value}{x:Int}{L:List Int} (hI:IntsL vs (x::L)):∃tk,∀(z:Zed) (bl:List (Code×Pos)) (b:Addr) (ep n t g:Nat),
  Does z (.call (.builtin "max") ⟨[.ref b],[]⟩) bl [(b,Aa vs ep)] n t g (.ok (.ret (.int (Ku x L) tk))) [(b,Aa vs ep)] (n+4) t g:=by
 refine Af fun Gz hGz=>?_
 obtain ⟨t0,hx⟩:=hI.nth (i:=0) (by simp)
 obtain ⟨tk,ML⟩:=A2w hI L.length 1 x t0 (by simp;exact Ep)
 refine hGz ?_
 refine ⟨tk,fun z bl b ep n t g=>?_⟩
 intro s p S
 have hb:s.heap.get? b=some (Aa vs ep):=S.knows _ (.head _)
 have hn:=S.hn
 have ht:=S.ht
 have hbn:b < s.heap.objs.size:=Heap.lt_size hb
 have hname:(toString "max"++toString ".loop":String)="max.loop":=by decide
 refine Ds (codeAny_call_builtin F.plain_max F.entry_max (wpAny_of_eq (F.args_max1 _) ?_))
 show wpAny _ _ (Builtin.Builtins.bindParams "max" ["key","default"] 0 ⟨[],[]⟩ >>= _) _ _ s
 refine wpAny_bind (wpAny_of_eq (show Builtin.Builtins.bindParams "max" ["key","default"] 0 ⟨[],[]⟩=pure [none,none] from rfl) ?_)
 refine wpAny_bind (wpAny_pure ?_)
 refine wpAny_bind (wpAny_pyIter_list (items:=vs) ⟨_,hb,rfl,_,rfl⟩ ?_)
 refine wpAny_bind (wpAny_newObj_type ?_)
 rw [hname]
 refine wpAny_pure ⟨plainId_quiet F.plain_max_loop _,?_⟩
 have e1:(s.heap.push (Ad b 0)).objs.size=s.heap.objs.size+1:=Heap.size_push ..
 have g1:(s.heap.push (Ad b 0)).get? s.heap.objs.size=some (Ad b 0):=Heap.get?_push_size _ rfl
 have g2:=Heap.get?_push_size (s.heap.push (Ad b 0)) (o:=Aa #[] 0) rfl
 show codeAny _ _ (.builtin "max.loop" ⟨[.ref s.heap.objs.size,.none,.ref (s.heap.push (Ad b 0)).objs.size],[]⟩) _ {s with heap:=(s.heap.push (Ad b 0)).push (Aa #[] 0)}
 generalize hH:(s.heap.push (Ad b 0)).push (Aa #[] 0)=H at g2
 have k1:H.get? s.heap.objs.size=some (Ad b 0):=by rw [← hH];exact Heap.get?_push_of_some _ g1
 have k2:H.get? b=some (Aa vs ep):=by rw [← hH];exact Heap.get?_push_of_some _ (Heap.get?_push_of_some _ hb)
 have k3:H.objs.size=s.heap.objs.size+2:=by rw [← hH,Heap.size_push,e1]
 have k4:∀x o,s.heap.get? x=some o→H.get? x=some o:=fun x o e=>by rw [← hH];exact Heap.get?_push_of_some _ (Heap.get?_push_of_some _ e)
 generalize hS:(s.heap.push (Ad b 0)).objs.size=sA at g2
 have nSI:s.heap.objs.size≠sA:=by rw [← hS,e1];exact Nat.ne_of_lt (Nat.lt_succ_self _)
 have nSb:b≠sA:=by rw [← hS,e1];exact Nat.ne_of_lt (Nat.lt_succ_of_lt hbn)
 have nIb:s.heap.objs.size≠b:=Nat.ne_of_gt hbn
 refine codeAny_builtin F.entry_max_loop ?_
 rw [Around.under_plainId F.plain_max_loop _]
 show wpAny _ _ (seqItems? (.ref sA) >>= _) _ _ _
 refine wpAny_bind (wpAny_seqItems (s:={s with heap:=H}) g2 rfl ?_)
 show wpAny _ _ (tryCatch (pyNext (.ref s.heap.objs.size)) _ >>= _) _ _ _
 have hs:Heap.SameBut s.heap.objs.size H (H.update s.heap.objs.size (Obj.mapFields fun v=>v.setIfInBounds 1 (rawInt ((0:Nat)+1)))):=Heap.SameBut.update ..
 have hf:Obj.mapFields (fun v=>v.setIfInBounds 1 (rawInt (((0:Nat):Int)+1))) (Ad b 0)=Ad b 1:=by
  show ({cls:=_,dict:=_,data:=.fields (#[Value.ref b,Value.int ((0:Nat):Int) 0].setIfInBounds 1 (rawInt (((0:Nat):Int)+1))),slots:=_}:Obj)=_
  simp [Ad,rawInt]
 have hit':(H.update s.heap.objs.size (Obj.mapFields fun v=>v.setIfInBounds 1 (rawInt (((0:Nat):Int)+1)))).get? s.heap.objs.size=some (Ad b 1):=by
  have:=Heap.get?_update_self (Obj.mapFields fun v=>v.setIfInBounds 1 (rawInt (((0:Nat):Int)+1))) k1 (by rw [hf];rfl)
  rw [hf] at this;exact this
 refine wpAny_bind (wpAny_tryCatch (H9 (s:={s with heap:=H}) k1 k2 hx ?_))
 have hS':=(hs.2 sA fun w=>nSI w.symm).trans g2
 show wpAny _ _ (updateSeq sA (fun _=>#[Value.int x t0,Value.int x t0]) >>= _) _ _ _
 refine wpAny_bind ?_
 refine wpAny_updateSeq hS' rfl ?_
 rw [hname]
 have u1:=Heap.SameBut.update (a:=sA) (f:=Obj.mapSeq fun _=>#[Value.int x t0,Value.int x t0]) (h:=H.update s.heap.objs.size (Obj.mapFields fun v=>v.setIfInBounds 1 (rawInt (((0:Nat):Int)+1))))
 have g5:((H.update s.heap.objs.size (Obj.mapFields fun v=>v.setIfInBounds 1 (rawInt (((0:Nat):Int)+1)))).update sA (Obj.mapSeq fun _=>#[Value.int x t0,Value.int x t0])).get? sA=some (Aa #[.int x t0,.int x t0] _):=Heap.get?_update_self (Obj.mapSeq fun _=>#[Value.int x t0,Value.int x t0]) hS' rfl
 refine wpAny_pure ⟨plainId_quiet F.plain_max_loop _,ML _ _ _ _ s.heap.objs.size b sA ep _ _ (by rfl) nIb nSI nSb ((u1.2 _ nSI).trans hit') ((u1.2 _ nSb).trans ((hs.2 b fun w=>nIb w.symm).trans k2)) g5 fun s' P=>?_⟩
 have size':s'.heap.objs.size=s.heap.objs.size+4:=by
  have:=P.size.trans (congrArg (·+2) (u1.1.trans (hs.1.trans k3)))
  exact this
 have keep':∀y o,s.heap.get? y=some o→s'.heap.get? y=some o:=fun y o e=>by
  have hy:=Heap.lt_size e
  have y1:y≠s.heap.objs.size:=Nat.ne_of_lt hy
  have y2:y≠sA:=by rw [← hS,e1];exact Nat.ne_of_lt (Nat.lt_succ_of_lt hy)
  exact P.keep y o ((u1.2 y y2).trans ((hs.2 y y1).trans (k4 y o e))) y1 y2
 have toks':s'.toks=s.toks:=P.toks
 refine ⟨rfl,⟨S.ok,fun q hq=>?_,S.nodup,S.fit,fun y o e q=>keep' y o (S.stat y o e q),?_,?_,P.os.trans S.os,?_,?_,?_⟩,⟨fun y o e _=>keep' y o e,fun j _=>by rw [P.gens],A4w size',by rw [P.gens];exact Nat.le_refl _⟩⟩
 ·rw [List.mem_singleton.mp hq];exact keep' _ _ hb
 ·have:=S.low;exact Ey this
 ·show AllBare s'.gens
  rw [P.gens];exact S.bare
 ·exact Ve hn size'
 ·lia
 ·rw [P.gens];exact S.hg
theorem A34{z:Zed} {bl:List (Code×Pos)} {a b:Addr} {vs ws:Array Value} {e e2 n t g:Nat} (hsz:vs.size=ws.size) (hv:∀j (h1:j < vs.size) (h2:j < ws.size),∃x t u,vs[j]=.str x t∧ws[j]=.str x u):
  Does z (.call (.builtin "list.__ne__") ⟨[.ref a,.ref b],[]⟩) bl [(a,Aa vs e),(b,Aa ws e2)] n t g (.ok (.ret (.bool false))) [(a,Aa vs e),(b,Aa ws e2)] n (t+0) g:=
 Iq fun A s R k _ hR=>by
  have ha:=k _ (.head _)
  have hb:=k _ (.tail _ (.head _))
  refine Al F.slot_list_ne ⟨_,ha,rfl⟩ F.entry_list_ne (F.args_list_ne_2 _ _) (list_neAt a b vs ws e e2 none none #[] #[] hsz (fun _=>true)) ⟨ha,hb,fun j h1 h2=>?_,?_⟩
  ·refine Af fun Gz hGz=>?_
   obtain ⟨x,t,u,e1,e2⟩:=hv j h1 h2
   refine hGz ?_
   rw [e1,e2]
   have h:(x == x)=true:=by simp
   rw [← h]
   exact EqAt.str_str x t x u
  ·have:(List.range vs.size).all (fun _=>true)=true:=by simp
   rw [this];exact hR
def lwF(P:Params):FuncData:=Fe (Wv P)
def Iy(P:Params)(n:Nat):Env:={C9 (lwF P) 309 (n+310) with cells:=[(Str.ofString "votes",n+315),(Str.ofString "bound",n+314),(Str.ofString "kept",n+313),(Str.ofString "held",n+312),(Str.ofString "seats",n+311)]}
noncomputable def Or(e:Expr):Expr:=match e with
 |.BinOp _ _ r _=>r
 |_=>default
def Nu(P:Params)(i:Nat):Expr:=Rg (As (Bi (lwF P)) i)
def vtE(P:Params):Expr:=Or (Nu P 0)
def vtV(P:Params)(n D:Nat):Env:=E6 (vtE P) (Iy P n) (D+310) []
def upE(P:Params):Expr:=Hr (Nu P 6) 0
def upV(P:Params)(n D:Nat):Env:=E6 (upE P) (Iy P n) (D+310) [(Str.ofString "votes",n+315),(Str.ofString "held",n+312)]
def loE(P:Params):Expr:=Hr (Nu P 7) 0
def loV(P:Params)(n D:Nat):Env:=E6 (loE P) (Iy P n) (D+310) [(Str.ofString "votes",n+315),(Str.ofString "kept",n+313)]
def wdE(P:Params):Expr:=Nu P 8
def wdV(P:Params)(n D:Nat):Env:=E6 (wdE P) (Iy P n) (D+310) []
theorem Acs{p:Nat}(h:p < 3):p=0∨p=1∨p=2:=(by decide +kernel:∀p,p < 3→p=0∨p=1∨p=2) p h
theorem Oo{p:Nat}(h:p < 6):p=0∨p=1∨p=2∨p=3∨p=4∨p=5:=(by decide +kernel:∀p,p < 6→p=0∨p=1∨p=2∨p=3∨p=4∨p=5) p h
def vtC(P:Params)(n it acc D:Nat):Code:=.compStart (vtE P) 0 (.ref (it+310)) (.ref (acc+310)) (vtV P n D)
def Qs(P:Params)(n it acc D:Nat):Code:=.compLoop (vtE P) 0 (.ref (it+310)) (.ref (acc+310)) (vtV P n D)
def upC(P:Params)(n it acc D:Nat):Code:=.compStart (upE P) 0 (.ref (it+310)) (.ref (acc+310)) (upV P n D)
def Pz(P:Params)(n it acc D:Nat):Code:=.compLoop (upE P) 0 (.ref (it+310)) (.ref (acc+310)) (upV P n D)
def loC(P:Params)(n it acc D:Nat):Code:=.compStart (loE P) 0 (.ref (it+310)) (.ref (acc+310)) (loV P n D)
def K5(P:Params)(n it acc D:Nat):Code:=.compLoop (loE P) 0 (.ref (it+310)) (.ref (acc+310)) (loV P n D)
def wdC(P:Params)(n it acc D:Nat):Code:=.compStart (wdE P) 0 (.ref (it+310)) (.ref (acc+310)) (wdV P n D)
def Qh(P:Params)(n it acc D:Nat):Code:=.compLoop (wdE P) 0 (.ref (it+310)) (.ref (acc+310)) (wdV P n D)
def Jw(w:World)(n t g c it acc D:Nat)(o:OV)(e:Nat)(Lx i:Nat)(ls:Array Value)(el:Nat)(xi:Int)(tx:Nat)(X:Nat→Value)(jj:Nat):List Ah:=[Q1 it Lx i ls el n t g (.ok (.ret (.int xi tx))) 3 (Ad (Lx+310) (i+1)) [] 310,
 Vf xi tx 6 (t+600) (n+310) (t+601) g,
 B5 1 (t+599) (xi.fmod 6) (t+601) (n+310) (t+602) g]
noncomputable def Aaz(w:World)(os:OsState)(S:Nat→Slot)(n:Nat)(t:Nat)(g:Nat)(c:Nat)(it:Nat)(acc:Nat)(D:Nat)(e:Nat)(Lx:Nat)(i:Nat)(ls:Array Value)(el:Nat)(xi:Int)(tx:Nat)(X:Nat→Value)(o:OV)(jj:Nat)(b1 b2:Bool):Ao:=B7 (Ak (Z w os b1 b2) (Ab [kF,kB] S 0) 25 (Qs w.params c it acc D) ([(it+310,Ad (Lx+310) i),(acc+310,Aa (Aq X jj) e),(D+310,Ai w.params "number" o),(Lx+310,Aa ls el)]) (n+310) (t+598) g A0z (Jw w n t g c it acc D o e Lx i ls el xi tx X jj) []) [0,1,2,3] (Jw w n t g c it acc D o e Lx i ls el xi tx X jj)
noncomputable def Aba(w:World)(os:OsState)(S:Nat→Slot)(n:Nat)(t:Nat)(g:Nat)(c:Nat)(it:Nat)(acc:Nat)(D:Nat)(e:Nat)(Lx:Nat)(i:Nat)(ls:Array Value)(el:Nat)(xi:Int)(tx:Nat)(X:Nat→Value)(o:OV)(jj:Nat)(b1 b2:Bool):Ao:=B6 (Ak (Z w os b1 b2) (Ab [kF,kB] S 0) 25 (Qs w.params c it acc D) ([(it+310,Ad (Lx+310) i),(acc+310,Aa (Aq X jj) e),(D+310,Ai w.params "number" o),(Lx+310,Aa ls el)]) (n+310) (t+598) g A0z (Jw w n t g c it acc D o e Lx i ls el xi tx X jj) []) (.again (Qs w.params c it acc D)) ([(it+310,Ad (Lx+310) (i+1)),(acc+310,Aa (Aq (Ck X jj (.int (1+xi.fmod 6) (t+602))) (jj+1)) (e+1)),(D+310,Ai w.params "number" (.s (o.key (t+598)) (.int xi tx))),(Lx+310,Aa ls el)]) ([]) (n+310) (t+603) g (Jw w n t g c it acc D o e Lx i ls el xi tx X jj)
theorem Ajf(w:World)(os:OsState)(S:Nat→Slot)(n:Nat)(t:Nat)(g:Nat)(c:Nat)(it:Nat)(acc:Nat)(D:Nat)(e:Nat)(Lx:Nat)(i:Nat)(ls:Array Value)(el:Nat)(xi:Int)(tx:Nat)(X:Nat→Value)(o:OV)(jj:Nat)(hj:jj < 3):∀(b1 b2:Bool),Aaz w os S n t g c it acc D e Lx i ls el xi tx X o jj b1 b2=Aba w os S n t g c it acc D e Lx i ls el xi tx X o jj b1 b2
 |false,_=>by obtain rfl |rfl |rfl:=Acs hj<;>cases o<;>kernel_rfl
 |true,_=>by obtain rfl |rfl |rfl:=Acs hj<;>cases o<;>kernel_rfl
theorem Zw(n t g c it acc D:Nat)(o:OV)(e:Nat)(Lx i:Nat)(ls:Array Value)(el:Nat)(xi:Int)(tx:Nat)(X:Nat→Value)(jj:Nat)(hj:jj < 3)(b1 b2:Bool) (hL:ObRs (Z w os b1 b2) (Jw w n t g c it acc D o e Lx i ls el xi tx X jj))
  (next:Does (Z w os b1 b2) (Qs w.params c it acc D) (Ab [kF,kB] S 0) ([(it+310,Ad (Lx+310) (i+1)),(acc+310,Aa (Aq (Ck X jj (.int (1+xi.fmod 6) (t+602))) (jj+1)) (e+1)),(D+310,Ai w.params "number" (.s (o.key (t+598)) (.int xi tx))),(Lx+310,Aa ls el)]) (n+310) (t+603) g res l' n' t' g'):Does (Z w os b1 b2) (Qs w.params c it acc D) (Ab [kF,kB] S 0) ([(it+310,Ad (Lx+310) i),(acc+310,Aa (Aq X jj) e),(D+310,Ai w.params "number" o),(Lx+310,Aa ls el)]) (n+310) (t+598) g res l' n' t' g':=
 B2 25 A0z [0,1,2,3] hL next (by kernel_rfl) (by decide) (fun p=>congrFun (Ajf w os S n t g c it acc D e Lx i ls el xi tx X o jj hj b1 b2) p)
noncomputable def Aas(b1 b2:Bool):Nat:=match b2 with
 |false=>11
 |true=>1
def Aea(b1 b2:Bool):Nat:=match b2 with
 |false=>Kb
 |true=>0
theorem A0o(n t g c it acc D:Nat)(Lx:Nat)(ls:Array Value)(el:Nat)(b1 b2:Bool) (hL:ObRs (Z w os b1 b2) [])
  (next:Does (Z w os b1 b2) (Qs w.params c it acc D) (Ab [kF,kB] S 0) ([(it+310,Ad (Lx+310) 0),(acc+310,Aa #[] 0),(D+310,An #[] 0),(Lx+310,Aa ls el)]) (n+310) (t+598) g res l' n' t' g'):Does (Z w os b1 b2) (vtC w.params c it acc D) (Ab [kF,kB] S 0) ([(it+310,Ad (Lx+310) 0),(acc+310,Aa #[] 0),(D+310,An #[] 0),(Lx+310,Aa ls el)]) (n+310) (t+598) g res l' n' t' g':=
 E5 Aas Aea [0,1,2,3] hL next
theorem Xk(n t g c it acc D Lx i:Nat)(ls:Array Value)(el:Nat)(b1 b2:Bool) (hL:ObRs (Z w os b1 b2) [Q1 it Lx i ls el n t g (.error (.ref (n+311))) 1 (Ar i) [(n+310,Cg #[]),(n+311,(At ((n+310).add 0)))] 312]):Does (Z w os b1 b2) (Qs w.params c it acc D) (Ab [kF,kB] S 0) ([(it+310,Ad (Lx+310) i),(Lx+310,Aa ls el)]) (n+310) (t+598) g (.ok .next) ([(it+310,(Ar i)),(Lx+310,(Aa ls el))]) (n+312) (t+598) g:=
 Ce 4 0x14082 [0,1] hL
abbrev Qg(x0_:Nat) x1_ x2_ (x3_:Nat) (x4_:Nat) (x5_:Nat) (x6_:Nat) (g:Nat) x7_ x8_ x9_ x10_ (x11_:Nat):=(qC (.call (.builtin "list.__getitem__") ⟨[.ref (x0_+310),x1_],[]⟩) x2_ (x3_+x4_) (x5_+x6_) g (.ok (.ret x7_)) x8_ x9_ x10_ (x3_+x11_) (x5_+x6_) g:Ah)
def Kj(w:World)(n t g c it acc D:Nat)(o:OV)(e:Nat)(i left:Int)(Va Ha:Nat)(vs hs:Array Value)(ev eh:Nat)(v h:Int)(tv th:Nat)(X:Nat→Value)(jj:Nat):List Ah:=[Q0 it i left n t g (.ok (.ret (.int i (t+598)))) 0 (i+1) (left - 1) [] 310 599,
 Qg Va (.int i (t+598)) [(Va+310,Ax vs ev)] n 310 t 600 g (.int v tv) [5] [(Aa vs ev)] [] 310,
 Ex v tv (n+310) (t+600) g,
 Qg Ha (.int i (t+598)) [(Ha+310,Ax hs eh)] n 310 t 601 g (.int h th) [6] [(Aa hs eh)] [] 310,
 C5 (-v) (t+600) h th (n+310) (t+601) g,
 Ex ((-v).fdiv h) (t+601) (n+310) (t+602) g]
noncomputable def Ac5(w:World)(os:OsState)(S:Nat→Slot)(n:Nat)(t:Nat)(g:Nat)(c:Nat)(it:Nat)(acc:Nat)(D:Nat)(e:Nat)(i:Int)(left:Int)(Va:Nat)(Ha:Nat)(vs:Array Value)(hs:Array Value)(ev:Nat)(eh:Nat)(v:Int)(h:Int)(tv:Nat)(th:Nat)(X:Nat→Value)(o:OV)(jj:Nat)(b1 b2:Bool):Ao:=B7 (Ak (Z w os b1 b2) (Ab [kF,kB] S 0) 41 (Pz w.params c it acc D) ([(it+310,Ac i left 1),(acc+310,Aa (Aq X jj) e),(D+310,Ai w.params "party" o),(c+312,Ag (.ref (Ha+310))),(c+315,Ag (.ref (Va+310))),(Va+310,Aa vs ev),(Ha+310,Aa hs eh)]) (n+310) (t+598) g A3u (Kj w n t g c it acc D o e i left Va Ha vs hs ev eh v h tv th X jj) []) [0,1,2,3,4,5,6] (Kj w n t g c it acc D o e i left Va Ha vs hs ev eh v h tv th X jj)
noncomputable def Af3(w:World)(os:OsState)(S:Nat→Slot)(n:Nat)(t:Nat)(g:Nat)(c:Nat)(it:Nat)(acc:Nat)(D:Nat)(e:Nat)(i:Int)(left:Int)(Va:Nat)(Ha:Nat)(vs:Array Value)(hs:Array Value)(ev:Nat)(eh:Nat)(v:Int)(h:Int)(tv:Nat)(th:Nat)(X:Nat→Value)(o:OV)(jj:Nat)(b1 b2:Bool):Ao:=B6 (Ak (Z w os b1 b2) (Ab [kF,kB] S 0) 41 (Pz w.params c it acc D) ([(it+310,Ac i left 1),(acc+310,Aa (Aq X jj) e),(D+310,Ai w.params "party" o),(c+312,Ag (.ref (Ha+310))),(c+315,Ag (.ref (Va+310))),(Va+310,Aa vs ev),(Ha+310,Aa hs eh)]) (n+310) (t+598) g A3u (Kj w n t g c it acc D o e i left Va Ha vs hs ev eh v h tv th X jj) []) (.again (Pz w.params c it acc D)) ([(it+310,Ac (i+1) (left-1) 1),(acc+310,Aa (Aq (Ck X jj (.int (-((-v).fdiv h)) (t+602))) (jj+1)) (e+1)),(D+310,Ai w.params "party" (.s (o.key (t+599)) (.int i (t+598)))),(c+312,Ag (.ref (Ha+310))),(c+315,Ag (.ref (Va+310))),(Va+310,Aa vs ev),(Ha+310,Aa hs eh)]) ([]) (n+310) (t+603) g (Kj w n t g c it acc D o e i left Va Ha vs hs ev eh v h tv th X jj)
theorem Ajl(w:World)(os:OsState)(S:Nat→Slot)(n:Nat)(t:Nat)(g:Nat)(c:Nat)(it:Nat)(acc:Nat)(D:Nat)(e:Nat)(i:Int)(left:Int)(Va:Nat)(Ha:Nat)(vs:Array Value)(hs:Array Value)(ev:Nat)(eh:Nat)(v:Int)(h:Int)(tv:Nat)(th:Nat)(X:Nat→Value)(o:OV)(jj:Nat)(hj:jj < 5):∀(b1 b2:Bool),Ac5 w os S n t g c it acc D e i left Va Ha vs hs ev eh v h tv th X o jj b1 b2=Af3 w os S n t g c it acc D e i left Va Ha vs hs ev eh v h tv th X o jj b1 b2
 |false,_=>by obtain rfl |rfl |rfl |rfl |rfl:=Ez hj<;>cases o<;>kernel_rfl
 |true,_=>by obtain rfl |rfl |rfl |rfl |rfl:=Ez hj<;>cases o<;>kernel_rfl
theorem Z2(n t g c it acc D:Nat)(o:OV)(e:Nat)(i left:Int)(Va Ha:Nat)(vs hs:Array Value)(ev eh:Nat)(v h:Int)(tv th:Nat)(X:Nat→Value)(jj:Nat)(hj:jj < 5)(b1 b2:Bool) (hL:ObRs (Z w os b1 b2) (Kj w n t g c it acc D o e i left Va Ha vs hs ev eh v h tv th X jj))
  (next:Does (Z w os b1 b2) (Pz w.params c it acc D) (Ab [kF,kB] S 0) ([(it+310,Ac (i+1) (left-1) 1),(acc+310,Aa (Aq (Ck X jj (.int (-((-v).fdiv h)) (t+602))) (jj+1)) (e+1)),(D+310,Ai w.params "party" (.s (o.key (t+599)) (.int i (t+598)))),(c+312,Ag (.ref (Ha+310))),(c+315,Ag (.ref (Va+310))),(Va+310,Aa vs ev),(Ha+310,Aa hs eh)]) (n+310) (t+603) g res l' n' t' g'):Does (Z w os b1 b2) (Pz w.params c it acc D) (Ab [kF,kB] S 0) ([(it+310,Ac i left 1),(acc+310,Aa (Aq X jj) e),(D+310,Ai w.params "party" o),(c+312,Ag (.ref (Ha+310))),(c+315,Ag (.ref (Va+310))),(Va+310,Aa vs ev),(Ha+310,Aa hs eh)]) (n+310) (t+598) g res l' n' t' g':=
 B2 41 A3u [0,1,2,3,4,5,6] hL next (by kernel_rfl) (by decide) (fun p=>congrFun (Ajl w os S n t g c it acc D e i left Va Ha vs hs ev eh v h tv th X o jj hj b1 b2) p)
noncomputable def Aag(b1 b2:Bool):Nat:=match b2 with
 |false=>11
 |true=>1
def Aaw(b1 b2:Bool):Nat:=match b2 with
 |false=>Kb
 |true=>0
theorem Y7(n t g c it acc D:Nat)(left:Int)(Va Ha:Nat)(vs hs:Array Value)(ev eh:Nat)(b1 b2:Bool) (hL:ObRs (Z w os b1 b2) [])
  (next:Does (Z w os b1 b2) (Pz w.params c it acc D) (Ab [kF,kB] S 0) ([(it+310,Ac 0 left 1),(acc+310,Aa #[] 0),(D+310,An #[] 0),(c+312,Ag (.ref (Ha+310))),(c+315,Ag (.ref (Va+310))),(Va+310,Aa vs ev),(Ha+310,Aa hs eh)]) (n+310) (t+598) g res l' n' t' g'):Does (Z w os b1 b2) (upC w.params c it acc D) (Ab [kF,kB] S 0) ([(it+310,Ac 0 left 1),(acc+310,Aa #[] 0),(D+310,An #[] 0),(c+312,Ag (.ref (Ha+310))),(c+315,Ag (.ref (Va+310))),(Va+310,Aa vs ev),(Ha+310,Aa hs eh)]) (n+310) (t+598) g res l' n' t' g':=
 E5 Aag Aaw [0,1,2,3,4,5,6] hL next
theorem Zm(n t g c it acc D:Nat)(i:Int)(b1 b2:Bool) (hL:ObRs (Z w os b1 b2) [Q0 it i 0 n t g (.error (.ref (n+311))) 0 i 0 [(n+310,Cg #[]),(n+311,(At ((n+310).add 0)))] 312 598]):Does (Z w os b1 b2) (Pz w.params c it acc D) (Ab [kF,kB] S 0) ([(it+310,Ac i 0 1)]) (n+310) (t+598) g (.ok .next) ([(it+310,(Ac i 0 1))]) (n+312) (t+598) g:=
 Ce 4 0x10082 [0] hL
def Jt(w:World)(n t g c it acc D:Nat)(o:OV)(e:Nat)(i left:Int)(Va Ha:Nat)(vs hs:Array Value)(ev eh:Nat)(v h:Int)(tv th:Nat)(X:Nat→Value)(jj:Nat):List Ah:=[Q0 it i left n t g (.ok (.ret (.int i (t+598)))) 0 (i+1) (left - 1) [] 310 599,
 Qg Ha (.int i (t+598)) [(Ha+310,Ax hs eh)] n 310 t 600 g (.int h th) [6] [(Aa hs eh)] [] 310,
 Rj h th 0 (t+600) n 310 t 601 g (.bool true),
 Qg Va (.int i (t+598)) [(Va+310,Ax vs ev)] n 310 t 601 g (.int v tv) [5] [(Aa vs ev)] [] 310,
 Qg Ha (.int i (t+598)) [(Ha+310,(Aa hs eh))] n 310 t 601 g (.int h th) [6] [(Aa hs eh)] [] 310,
 C5 v tv h th (n+310) (t+601) g]
noncomputable def Adj(w:World)(os:OsState)(S:Nat→Slot)(n:Nat)(t:Nat)(g:Nat)(c:Nat)(it:Nat)(acc:Nat)(D:Nat)(e:Nat)(i:Int)(left:Int)(Va:Nat)(Ha:Nat)(vs:Array Value)(hs:Array Value)(ev:Nat)(eh:Nat)(v:Int)(h:Int)(tv:Nat)(th:Nat)(X:Nat→Value)(o:OV)(jj:Nat)(b1 b2:Bool):Ao:=B7 (Ak (Z w os b1 b2) (Ab [kF,kB] S 0) 50 (K5 w.params c it acc D) ([(it+310,Ac i left 1),(acc+310,Aa (Aq X jj) e),(D+310,Ai w.params "party" o),(c+313,Ag (.ref (Ha+310))),(c+315,Ag (.ref (Va+310))),(Va+310,Aa vs ev),(Ha+310,Aa hs eh)]) (n+310) (t+598) g A1d (Jt w n t g c it acc D o e i left Va Ha vs hs ev eh v h tv th X jj) []) [0,1,2,3,4,5,6] (Jt w n t g c it acc D o e i left Va Ha vs hs ev eh v h tv th X jj)
noncomputable def Aed(w:World)(os:OsState)(S:Nat→Slot)(n:Nat)(t:Nat)(g:Nat)(c:Nat)(it:Nat)(acc:Nat)(D:Nat)(e:Nat)(i:Int)(left:Int)(Va:Nat)(Ha:Nat)(vs:Array Value)(hs:Array Value)(ev:Nat)(eh:Nat)(v:Int)(h:Int)(tv:Nat)(th:Nat)(X:Nat→Value)(o:OV)(jj:Nat)(b1 b2:Bool):Ao:=B6 (Ak (Z w os b1 b2) (Ab [kF,kB] S 0) 50 (K5 w.params c it acc D) ([(it+310,Ac i left 1),(acc+310,Aa (Aq X jj) e),(D+310,Ai w.params "party" o),(c+313,Ag (.ref (Ha+310))),(c+315,Ag (.ref (Va+310))),(Va+310,Aa vs ev),(Ha+310,Aa hs eh)]) (n+310) (t+598) g A1d (Jt w n t g c it acc D o e i left Va Ha vs hs ev eh v h tv th X jj) []) (.again (K5 w.params c it acc D)) ([(it+310,Ac (i+1) (left-1) 1),(acc+310,Aa (Aq (Ck X jj (.int (v.fdiv h) (t+601))) (jj+1)) (e+1)),(D+310,Ai w.params "party" (.s (o.key (t+599)) (.int i (t+598)))),(c+313,Ag (.ref (Ha+310))),(c+315,Ag (.ref (Va+310))),(Va+310,Aa vs ev),(Ha+310,Aa hs eh)]) ([]) (n+310) (t+602) g (Jt w n t g c it acc D o e i left Va Ha vs hs ev eh v h tv th X jj)
theorem Air(w:World)(os:OsState)(S:Nat→Slot)(n:Nat)(t:Nat)(g:Nat)(c:Nat)(it:Nat)(acc:Nat)(D:Nat)(e:Nat)(i:Int)(left:Int)(Va:Nat)(Ha:Nat)(vs:Array Value)(hs:Array Value)(ev:Nat)(eh:Nat)(v:Int)(h:Int)(tv:Nat)(th:Nat)(X:Nat→Value)(o:OV)(jj:Nat)(hj:jj < 5):∀(b1 b2:Bool),Adj w os S n t g c it acc D e i left Va Ha vs hs ev eh v h tv th X o jj b1 b2=Aed w os S n t g c it acc D e i left Va Ha vs hs ev eh v h tv th X o jj b1 b2
 |false,_=>by obtain rfl |rfl |rfl |rfl |rfl:=Ez hj<;>cases o<;>kernel_rfl
 |true,_=>by obtain rfl |rfl |rfl |rfl |rfl:=Ez hj<;>cases o<;>kernel_rfl
theorem Z7(n t g c it acc D:Nat)(o:OV)(e:Nat)(i left:Int)(Va Ha:Nat)(vs hs:Array Value)(ev eh:Nat)(v h:Int)(tv th:Nat)(X:Nat→Value)(jj:Nat)(hj:jj < 5)(b1 b2:Bool) (hL:ObRs (Z w os b1 b2) (Jt w n t g c it acc D o e i left Va Ha vs hs ev eh v h tv th X jj))
  (next:Does (Z w os b1 b2) (K5 w.params c it acc D) (Ab [kF,kB] S 0) ([(it+310,Ac (i+1) (left-1) 1),(acc+310,Aa (Aq (Ck X jj (.int (v.fdiv h) (t+601))) (jj+1)) (e+1)),(D+310,Ai w.params "party" (.s (o.key (t+599)) (.int i (t+598)))),(c+313,Ag (.ref (Ha+310))),(c+315,Ag (.ref (Va+310))),(Va+310,Aa vs ev),(Ha+310,Aa hs eh)]) (n+310) (t+602) g res l' n' t' g'):Does (Z w os b1 b2) (K5 w.params c it acc D) (Ab [kF,kB] S 0) ([(it+310,Ac i left 1),(acc+310,Aa (Aq X jj) e),(D+310,Ai w.params "party" o),(c+313,Ag (.ref (Ha+310))),(c+315,Ag (.ref (Va+310))),(Va+310,Aa vs ev),(Ha+310,Aa hs eh)]) (n+310) (t+598) g res l' n' t' g':=
 B2 50 A1d [0,1,2,3,4,5,6] hL next (by kernel_rfl) (by decide) (fun p=>congrFun (Air w os S n t g c it acc D e i left Va Ha vs hs ev eh v h tv th X o jj hj b1 b2) p)
def Jq(w:World)(n t g c it acc D:Nat)(o:OV)(e:Nat)(i left:Int)(Va Ha:Nat)(vs hs:Array Value)(ev eh:Nat)(v h:Int)(tv th:Nat)(rs:Array Value):List Ah:=[Q0 it i left n t g (.ok (.ret (.int i (t+598)))) 0 (i+1) (left - 1) [] 310 599,
 Qg Ha (.int i (t+598)) [(Ha+310,Ax hs eh)] n 310 t 600 g (.int h th) [6] [(Aa hs eh)] [] 310,
 Rj h th 0 (t+600) n 310 t 601 g (.bool false)]
noncomputable def Aeg(w:World)(os:OsState)(S:Nat→Slot)(n:Nat)(t:Nat)(g:Nat)(c:Nat)(it:Nat)(acc:Nat)(D:Nat)(e:Nat)(i:Int)(left:Int)(Va:Nat)(Ha:Nat)(vs:Array Value)(hs:Array Value)(ev:Nat)(eh:Nat)(v:Int)(h:Int)(tv:Nat)(th:Nat)(rs:Array Value)(o:OV)(b1 b2:Bool):Ao:=B7 (Ak (Z w os b1 b2) (Ab [kF,kB] S 0) 23 (K5 w.params c it acc D) ([(it+310,Ac i left 1),(acc+310,Aa rs e),(D+310,Ai w.params "party" o),(c+313,Ag (.ref (Ha+310))),(c+315,Ag (.ref (Va+310))),(Va+310,Aa vs ev),(Ha+310,Aa hs eh)]) (n+310) (t+598) g A4v (Jq w n t g c it acc D o e i left Va Ha vs hs ev eh v h tv th rs) []) [0,1,2,3,4,5,6] (Jq w n t g c it acc D o e i left Va Ha vs hs ev eh v h tv th rs)
noncomputable def Afe(w:World)(os:OsState)(S:Nat→Slot)(n:Nat)(t:Nat)(g:Nat)(c:Nat)(it:Nat)(acc:Nat)(D:Nat)(e:Nat)(i:Int)(left:Int)(Va:Nat)(Ha:Nat)(vs:Array Value)(hs:Array Value)(ev:Nat)(eh:Nat)(v:Int)(h:Int)(tv:Nat)(th:Nat)(rs:Array Value)(o:OV)(b1 b2:Bool):Ao:=B6 (Ak (Z w os b1 b2) (Ab [kF,kB] S 0) 23 (K5 w.params c it acc D) ([(it+310,Ac i left 1),(acc+310,Aa rs e),(D+310,Ai w.params "party" o),(c+313,Ag (.ref (Ha+310))),(c+315,Ag (.ref (Va+310))),(Va+310,Aa vs ev),(Ha+310,Aa hs eh)]) (n+310) (t+598) g A4v (Jq w n t g c it acc D o e i left Va Ha vs hs ev eh v h tv th rs) []) (.again (K5 w.params c it acc D)) ([(it+310,Ac (i+1) (left-1) 1),(acc+310,Aa rs e),(D+310,Ai w.params "party" (.s (o.key (t+599)) (.int i (t+598)))),(c+313,Ag (.ref (Ha+310))),(c+315,Ag (.ref (Va+310))),(Va+310,Aa vs ev),(Ha+310,Aa hs eh)]) ([]) (n+310) (t+601) g (Jq w n t g c it acc D o e i left Va Ha vs hs ev eh v h tv th rs)
theorem Aio(w:World)(os:OsState)(S:Nat→Slot)(n:Nat)(t:Nat)(g:Nat)(c:Nat)(it:Nat)(acc:Nat)(D:Nat)(e:Nat)(i:Int)(left:Int)(Va:Nat)(Ha:Nat)(vs:Array Value)(hs:Array Value)(ev:Nat)(eh:Nat)(v:Int)(h:Int)(tv:Nat)(th:Nat)(rs:Array Value)(o:OV):∀(b1 b2:Bool),Aeg w os S n t g c it acc D e i left Va Ha vs hs ev eh v h tv th rs o b1 b2=Afe w os S n t g c it acc D e i left Va Ha vs hs ev eh v h tv th rs o b1 b2
 |false,_=>by cases o<;>kernel_rfl
 |true,_=>by cases o<;>kernel_rfl
theorem A0j(n t g c it acc D:Nat)(o:OV)(e:Nat)(i left:Int)(Va Ha:Nat)(vs hs:Array Value)(ev eh:Nat)(v h:Int)(tv th:Nat)(rs:Array Value)(b1 b2:Bool) (hL:ObRs (Z w os b1 b2) (Jq w n t g c it acc D o e i left Va Ha vs hs ev eh v h tv th rs))
  (next:Does (Z w os b1 b2) (K5 w.params c it acc D) (Ab [kF,kB] S 0) ([(it+310,Ac (i+1) (left-1) 1),(acc+310,Aa rs e),(D+310,Ai w.params "party" (.s (o.key (t+599)) (.int i (t+598)))),(c+313,Ag (.ref (Ha+310))),(c+315,Ag (.ref (Va+310))),(Va+310,Aa vs ev),(Ha+310,Aa hs eh)]) (n+310) (t+601) g res l' n' t' g'):Does (Z w os b1 b2) (K5 w.params c it acc D) (Ab [kF,kB] S 0) ([(it+310,Ac i left 1),(acc+310,Aa rs e),(D+310,Ai w.params "party" o),(c+313,Ag (.ref (Ha+310))),(c+315,Ag (.ref (Va+310))),(Va+310,Aa vs ev),(Ha+310,Aa hs eh)]) (n+310) (t+598) g res l' n' t' g':=
 B2 23 A4v [0,1,2,3,4,5,6] hL next (by kernel_rfl) (by decide) (fun p=>congrFun (Aio w os S n t g c it acc D e i left Va Ha vs hs ev eh v h tv th rs o  b1 b2) p)
noncomputable def Ad5(b1 b2:Bool):Nat:=match b2 with
 |false=>11
 |true=>1
def Ady(b1 b2:Bool):Nat:=match b2 with
 |false=>Kb
 |true=>0
theorem Y9(n t g c it acc D:Nat)(left:Int)(Va Ha:Nat)(vs hs:Array Value)(ev eh:Nat)(b1 b2:Bool) (hL:ObRs (Z w os b1 b2) [])
  (next:Does (Z w os b1 b2) (K5 w.params c it acc D) (Ab [kF,kB] S 0) ([(it+310,Ac 0 left 1),(acc+310,Aa #[] 0),(D+310,An #[] 0),(c+313,Ag (.ref (Ha+310))),(c+315,Ag (.ref (Va+310))),(Va+310,Aa vs ev),(Ha+310,Aa hs eh)]) (n+310) (t+598) g res l' n' t' g'):Does (Z w os b1 b2) (loC w.params c it acc D) (Ab [kF,kB] S 0) ([(it+310,Ac 0 left 1),(acc+310,Aa #[] 0),(D+310,An #[] 0),(c+313,Ag (.ref (Ha+310))),(c+315,Ag (.ref (Va+310))),(Va+310,Aa vs ev),(Ha+310,Aa hs eh)]) (n+310) (t+598) g res l' n' t' g':=
 E5 Ad5 Ady [0,1,2,3,4,5,6] hL next
theorem A0b(n t g c it acc D:Nat)(i:Int)(b1 b2:Bool) (hL:ObRs (Z w os b1 b2) [Q0 it i 0 n t g (.error (.ref (n+311))) 0 i 0 [(n+310,Cg #[]),(n+311,(At ((n+310).add 0)))] 312 598]):Does (Z w os b1 b2) (K5 w.params c it acc D) (Ab [kF,kB] S 0) ([(it+310,Ac i 0 1)]) (n+310) (t+598) g (.ok .next) ([(it+310,(Ac i 0 1))]) (n+312) (t+598) g:=
 Ce 4 0x10082 [0] hL
def Js(w:World)(n t g c it acc D:Nat)(o:OV)(e:Nat)(i left:Int)(X:Nat→Value)(jj:Nat):List Ah:=[Q0 it i left n t g (.ok (.ret (.int i (t+598)))) 0 (i+1) (left - 1) [] 310 599]
noncomputable def Aep(w:World)(os:OsState)(S:Nat→Slot)(n:Nat)(t:Nat)(g:Nat)(c:Nat)(it:Nat)(acc:Nat)(D:Nat)(e:Nat)(i:Int)(left:Int)(X:Nat→Value)(o:OV)(jj:Nat)(b1 b2:Bool):Ao:=B7 (Ak (Z w os b1 b2) (Ab [kF,kB] S 0) 19 (Qh w.params c it acc D) ([(it+310,Ac i left 1),(acc+310,Aa (Aq X jj) e),(D+310,Ai w.params "words" o)]) (n+310) (t+598) g A1x (Js w n t g c it acc D o e i left X jj) []) [0,1,2] (Js w n t g c it acc D o e i left X jj)
noncomputable def Abu(w:World)(os:OsState)(S:Nat→Slot)(n:Nat)(t:Nat)(g:Nat)(c:Nat)(it:Nat)(acc:Nat)(D:Nat)(e:Nat)(i:Int)(left:Int)(X:Nat→Value)(o:OV)(jj:Nat)(b1 b2:Bool):Ao:=B6 (Ak (Z w os b1 b2) (Ab [kF,kB] S 0) 19 (Qh w.params c it acc D) ([(it+310,Ac i left 1),(acc+310,Aa (Aq X jj) e),(D+310,Ai w.params "words" o)]) (n+310) (t+598) g A1x (Js w n t g c it acc D o e i left X jj) []) (.again (Qh w.params c it acc D)) ([(it+310,Ac (i+1) (left-1) 1),(acc+310,Aa (Aq (Ck X jj (.int i (t+598))) (jj+1)) (e+1)),(D+310,Ai w.params "words" (.s (o.key (t+599)) (.int i (t+598))))]) ([]) (n+310) (t+600) g (Js w n t g c it acc D o e i left X jj)
theorem Ajd(w:World)(os:OsState)(S:Nat→Slot)(n:Nat)(t:Nat)(g:Nat)(c:Nat)(it:Nat)(acc:Nat)(D:Nat)(e:Nat)(i:Int)(left:Int)(X:Nat→Value)(o:OV)(jj:Nat)(hj:jj < 6):∀(b1 b2:Bool),Aep w os S n t g c it acc D e i left X o jj b1 b2=Abu w os S n t g c it acc D e i left X o jj b1 b2
 |false,_=>by obtain rfl |rfl |rfl |rfl |rfl |rfl:=Oo hj<;>cases o<;>kernel_rfl
 |true,_=>by obtain rfl |rfl |rfl |rfl |rfl |rfl:=Oo hj<;>cases o<;>kernel_rfl
theorem Xg(n t g c it acc D:Nat)(o:OV)(e:Nat)(i left:Int)(X:Nat→Value)(jj:Nat)(hj:jj < 6)(b1 b2:Bool) (hL:ObRs (Z w os b1 b2) (Js w n t g c it acc D o e i left X jj))
  (next:Does (Z w os b1 b2) (Qh w.params c it acc D) (Ab [kF,kB] S 0) ([(it+310,Ac (i+1) (left-1) 1),(acc+310,Aa (Aq (Ck X jj (.int i (t+598))) (jj+1)) (e+1)),(D+310,Ai w.params "words" (.s (o.key (t+599)) (.int i (t+598))))]) (n+310) (t+600) g res l' n' t' g'):Does (Z w os b1 b2) (Qh w.params c it acc D) (Ab [kF,kB] S 0) ([(it+310,Ac i left 1),(acc+310,Aa (Aq X jj) e),(D+310,Ai w.params "words" o)]) (n+310) (t+598) g res l' n' t' g':=
 B2 19 A1x [0,1,2] hL next (by kernel_rfl) (by decide) (fun p=>congrFun (Ajd w os S n t g c it acc D e i left X o jj hj b1 b2) p)
noncomputable def Afa(b1 b2:Bool):Nat:=match b2 with
 |false=>11
 |true=>1
def Ae3(b1 b2:Bool):Nat:=match b2 with
 |false=>Kb
 |true=>0
theorem Zf(n t g c it acc D:Nat)(left:Int)(b1 b2:Bool) (hL:ObRs (Z w os b1 b2) [])
  (next:Does (Z w os b1 b2) (Qh w.params c it acc D) (Ab [kF,kB] S 0) ([(it+310,Ac 1 left 1),(acc+310,Aa #[] 0),(D+310,An #[] 0)]) (n+310) (t+598) g res l' n' t' g'):Does (Z w os b1 b2) (wdC w.params c it acc D) (Ab [kF,kB] S 0) ([(it+310,Ac 1 left 1),(acc+310,Aa #[] 0),(D+310,An #[] 0)]) (n+310) (t+598) g res l' n' t' g':=
 E5 Afa Ae3 [0,1,2] hL next
theorem Y6(n t g c it acc D:Nat)(i:Int)(b1 b2:Bool) (hL:ObRs (Z w os b1 b2) [Q0 it i 0 n t g (.error (.ref (n+311))) 0 i 0 [(n+310,Cg #[]),(n+311,(At ((n+310).add 0)))] 312 598]):Does (Z w os b1 b2) (Qh w.params c it acc D) (Ab [kF,kB] S 0) ([(it+310,Ac i 0 1)]) (n+310) (t+598) g (.ok .next) ([(it+310,(Ac i 0 1))]) (n+312) (t+598) g:=
 Ce 4 0x10082 [0] hL
noncomputable def Afm(e:Expr):Expr:=match e with
 |.Call _ _ ks _=>(match ks with
  |k::_=>k.value
  |[]=>e)
 |_=>e
noncomputable def Aif(e:Expr):Expr:=match e with
 |.Compare l _ _ _=>l
 |_=>default
noncomputable def Ag5(e:Expr)(X co ct:Nat):FuncData:=match e with
 |.Lambda a b sc _=>{name:=Str.ofString "<lambda>",qualname:=Str.ofString "law.<locals>.<lambda>",params:=a,body:=.expr b,scope:=sc,globals:=3,closure:=[(Str.ofString "votes",X+310)],defaults:=.none,kwdefaults:=.none,pyModule:=.str (Str.ofString "law_rl0134_01") 550,code:=.ref (co+310),closureTuple:=.ref (ct+310),builtins:=0}
 |_=>default
def Bn(P:Params)(i X co ct:Nat):Obj:={cls:=.type "function",data:=.func (Ag5 (Afm (Aif (Nu P i))) X co ct)}
structure LamK where
 a1:Nat
 a2:Nat
 a3:Nat
 a4:Nat
 a5:Nat
 t1:Nat
 t2:Nat
 t3:Nat
 t4:Nat
 t5:Int
def B3(line:Int)(k:LamK):Obj:=E3 "code" #[.str (Str.ofString "<lambda>") k.t1,.str (Str.ofString "law.<locals>.<lambda>") k.t2,.str (Str.ofString "/claim/cut.py") k.t3,.int line 0,.int 1 0,.int 0 0,.int 0 0,.int 19 0,.ref (k.a1+310),.bool true,.int 181 0,.ref (k.a2+310),.none,.ref (k.a3+310),.ref (k.a4+310),.ref (k.a5+310),.int k.t5 0,.int line 0,.str (Str.ofString "/claim/cut.py") k.t4]
abbrev Kt:List Kd:=[kW,kF,kF,kB]
abbrev Cv:List Kd:=[kF,kF,kB]
structure KeyK where
 F:Nat
 co:Nat
 ct:Nat
 X:Nat
 V:Nat
 vs:Array Value
 ev:Nat
 k:LamK
theorem Yh(n t g:Nat)(f:KeyK)(wv:Int)(tw:Nat)(R z:Nat)(ls:Array Value)(el n2 t2 g2:Nat)(ps ps1:LO)(b1 b2:Bool) (hL:ObRs (Z w os b1 b2) [qP (some (kE::Kt)) (.call (.ref 292) ⟨[.ref (f.V+310),.int wv tw],[]⟩) [(f.5+310,Ax f.vs f.7)] ps ps1 (n+311) (t+599) g (.ok (.ret (.ref (n+315)))) [3] [(Aa f.vs f.ev)] [(n+315,(Aa ls el))] (n2+310) (t2+598) g2,qC (.call (.builtin "len") ⟨[.ref (n+315)],[]⟩) [(n+315,Ax ls el)] (n2+310) (t2+598) g2 (.ok (.ret (.int (↑ls.size) (t2+599)))) [5] [(Aa ls el)] [] (n2+310) (t2+600) g2,Ex (↑ls.size) (t2+599) (n2+310) (t2+600) g2]):Does (Z w os b1 b2) (.call (.ref (f.F+310)) ⟨[.int wv tw],[]⟩) (Ab Kt S 0) (([(f.F+310,Bn w.params 9 f.X f.co f.ct),(f.co+310,B3 268 f.k),(f.X+310,Ag (.ref (f.V+310))),(f.V+310,Aa f.vs f.ev)])++ps) (n+310) (t+598) g (.ok (.ret (.int (-↑ls.size) (t2+600)))) (([(f.F+310,Bn w.params 9 f.X f.co f.ct),(f.co+310,B3 268 f.k),(f.X+310,Ag (.ref (f.V+310))),(f.V+310,Aa f.vs f.ev)])++ps1) (n2+310) (t2+601) g2:=
 L4 29 0x4081021820102040010c18182 [0,1,2,3] hL
theorem V8(n t g:Nat)(f:KeyK)(wv:Int)(tw:Nat)(R z:Nat)(ls:Array Value)(el n2 t2 g2:Nat)(ps ps1:LO)(b1 b2:Bool) (hL:ObRs (Z w os b1 b2) [qP (some (kE::Kt)) (.call (.ref 297) ⟨[.ref (f.V+310),.int wv tw],[]⟩) [(f.5+310,Ax f.vs f.7)] ps ps1 (n+311) (t+599) g (.ok (.ret (.int (↑z) R))) [3] [(Aa f.vs f.ev)] [] (n2+310) (t2+598) g2,Ex (↑z) R (n2+310) (t2+598) g2]):Does (Z w os b1 b2) (.call (.ref (f.F+310)) ⟨[.int wv tw],[]⟩) (Ab Kt S 0) (([(f.F+310,Bn w.params 10 f.X f.co f.ct),(f.co+310,B3 270 f.k),(f.X+310,Ag (.ref (f.V+310))),(f.V+310,Aa f.vs f.ev)])++ps) (n+310) (t+598) g (.ok (.ret (.int (-↑z) (t2+598)))) (([(f.F+310,Bn w.params 10 f.X f.co f.ct),(f.co+310,B3 270 f.k),(f.X+310,Ag (.ref (f.V+310))),(f.V+310,Aa f.vs f.ev)])++ps1) (n2+310) (t2+599) g2:=
 L4 23 0x20408608040010c18182 [0,1,2,3] hL
def biF(P:Params):Bool→FuncData
 |true=>Fe (V6 P)
 |false=>Fe (Rh P)
def I2(P:Params)(L:Nat):Code:=Oc (As (Xb (As (Bi (biF P true)) 2)) 0) (C9 (biF P true) 114 (L+310))
def Fg(P:Params)(L:Nat):Code:=Oc (As (Xb (As (Bi (biF P false)) 2)) 0) (C9 (biF P false) 105 (L+310))
structure BQ where
 L:Nat
 A:Nat
 F:Nat
 k1:Nat
 k2:Nat
 k3:Nat
 k4:Nat
 k5:Nat
 x:Int
 tx:Nat
def C2(P:Params)(f:BQ)(lo:Int)(tl:Nat)(hi:Int)(th:Nat)(o:OV):Obj:=match o with
 |.n=>B4 #[kv P "a" f.k1 (.ref (f.A+310)),kv P "x" f.k2 (.int f.x f.tx),kv P "lo" f.k3 (.int lo tl),kv P "hi" f.k4 (.int hi th),kv P "key" f.k5 (.ref (f.F+310))] 5
 |.s k v=>B4 #[kv P "a" f.k1 (.ref (f.A+310)),kv P "x" f.k2 (.int f.x f.tx),kv P "lo" f.k3 (.int lo tl),kv P "hi" f.k4 (.int hi th),kv P "key" f.k5 (.ref (f.F+310)),kv P "mid" k v] 6
abbrev Q11(f:BQ)(wv:Int)(tw:Nat)(w:World) x0_ (h:KeyK) x1_ (ps:LO) (ps1:LO) (n:Nat) (t:Nat) (g:Nat) (kv:Int) (tk:Nat) (n2:Nat) (t2:Nat) (g2:Nat):=(qP (some Kt) (.call (.ref (f.F+310)) ⟨[.int wv tw],[]⟩) [(f.F+310,Bn w.params x0_ h.X h.co h.ct),(h.co+310,B3 x1_ h.k),(h.X+310,Ag (.ref (h.V+310))),(h.V+310,Aa h.vs h.ev)] ps ps1 (n+310) (t+602) g (.ok (.ret (.int kv tk))) [2,3,4,5] [Bn w.params x0_ h.X h.co h.ct,B3 x1_ h.k,Ag (.ref (h.V+310)),Aa h.vs h.ev] [] (n2+310) (t2+598) g2:Ah)
abbrev Q17(f:BQ)(lo:Int)(hi:Int)(t:Nat)(ws:Array Value)(ew:Nat)(n:Nat)(g:Nat)(wv:Int)(tw:Nat):=(qC (.call (.builtin "list.__getitem__") ⟨[.ref (f.2+310),.int ((lo+hi).fdiv 2) (t+600)],[]⟩) [(f.2+310,Ax ws ew)] (n+310) (t+602) g (.ok (.ret (.int wv tw))) [1] [(Aa ws ew)] [] (n+310) (t+602) g:Ah)
abbrev Q20 x0_ x1_ x2_ x3_ (n2:Nat) (t2:Nat) (g2:Nat) x4_:=(qC (.call (.builtin "int.__lt__") ⟨[.int x0_ x1_,.int x2_ x3_],[]⟩) [] (n2+310) (t2+598) g2 (.ok (.ret x4_)) [] [] [] (n2+310) (t2+598) g2:Ah)
def K2(w:World)(n t g:Nat)(f:BQ)(h:KeyK)(lo hi:Int)(tl th:Nat)(o:OV)(ws:Array Value)(ew:Nat)(wv:Int)(tw:Nat)(kv:Int)(tk n2 t2 g2:Nat)(ps ps1:LO):List Ah:=[Q8 lo tl hi th n t g (.bool true),
 B5 lo tl hi th (n+310) (t+598) g,
 C5 (lo+hi) (t+598) 2 (t+599) (n+310) (t+600) g,
 Q17 f lo hi t ws ew n g wv tw,
 Q11 f wv tw w 9 h 268 ps ps1 n t g kv tk n2 t2 g2,
 Q20 kv tk f.x f.10 n2 t2 g2 (.bool true),
 B5 ((lo+hi).fdiv 2) (t+600) 1 (t2+598) (n2+310) (t2+599) g2]
noncomputable def Ado(w:World)(os:OsState)(S:Nat→Slot)(n:Nat)(t:Nat)(g:Nat)(f:BQ)(h:KeyK)(lo:Int)(hi:Int)(tl:Nat)(th:Nat)(ws:Array Value)(ew:Nat)(wv:Int)(tw:Nat)(kv:Int)(tk:Nat)(n2:Nat)(t2:Nat)(g2:Nat)(ps:LO)(ps1:LO)(o:OV)(b1 b2:Bool):Ao:=B7 (Ak (Z w os b1 b2) (Ab Cv S 0) 58 (I2 w.params f.L) ([(f.L+310,C2 w.params f lo tl hi th o),(f.A+310,Aa ws ew),(f.F+310,Bn w.params 9 h.X h.co h.ct),(h.co+310,B3 268 h.k),(h.X+310,Ag (.ref (h.V+310))),(h.V+310,Aa h.vs h.ev)]) (n+310) (t+598) g A1f (K2 w n t g f h lo hi tl th o ws ew wv tw kv tk n2 t2 g2 ps ps1) ps) [0,1,2,3,4,5] (K2 w n t g f h lo hi tl th o ws ew wv tw kv tk n2 t2 g2 ps ps1)
noncomputable def Ads(w:World)(os:OsState)(S:Nat→Slot)(n:Nat)(t:Nat)(g:Nat)(f:BQ)(h:KeyK)(lo:Int)(hi:Int)(tl:Nat)(th:Nat)(ws:Array Value)(ew:Nat)(wv:Int)(tw:Nat)(kv:Int)(tk:Nat)(n2:Nat)(t2:Nat)(g2:Nat)(ps:LO)(ps1:LO)(o:OV)(b1 b2:Bool):Ao:=B6 (Ak (Z w os b1 b2) (Ab Cv S 0) 58 (I2 w.params f.L) ([(f.L+310,C2 w.params f lo tl hi th o),(f.A+310,Aa ws ew),(f.F+310,Bn w.params 9 h.X h.co h.ct),(h.co+310,B3 268 h.k),(h.X+310,Ag (.ref (h.V+310))),(h.V+310,Aa h.vs h.ev)]) (n+310) (t+598) g A1f (K2 w n t g f h lo hi tl th o ws ew wv tw kv tk n2 t2 g2 ps ps1) ps) (.again (I2 w.params f.L)) ([(f.L+310,C2 w.params f (((lo+hi).fdiv 2)+1) (t2+599) hi th (.s (o.key (t+601)) (.int ((lo+hi).fdiv 2) (t+600)))),(f.A+310,Aa ws ew),(f.F+310,Bn w.params 9 h.X h.co h.ct),(h.co+310,B3 268 h.k),(h.X+310,Ag (.ref (h.V+310))),(h.V+310,Aa h.vs h.ev)]) ps1 (n2+310) (t2+601) g2 (K2 w n t g f h lo hi tl th o ws ew wv tw kv tk n2 t2 g2 ps ps1)
theorem Ajt(w:World)(os:OsState)(S:Nat→Slot)(n:Nat)(t:Nat)(g:Nat)(f:BQ)(h:KeyK)(lo:Int)(hi:Int)(tl:Nat)(th:Nat)(ws:Array Value)(ew:Nat)(wv:Int)(tw:Nat)(kv:Int)(tk:Nat)(n2:Nat)(t2:Nat)(g2:Nat)(ps:LO)(ps1:LO)(o:OV):∀(b1 b2:Bool),Ado w os S n t g f h lo hi tl th ws ew wv tw kv tk n2 t2 g2 ps ps1 o b1 b2=Ads w os S n t g f h lo hi tl th ws ew wv tw kv tk n2 t2 g2 ps ps1 o b1 b2
 |false,_=>by cases o<;>kernel_rfl
 |true,_=>by cases o<;>kernel_rfl
theorem Yz(n t g:Nat)(f:BQ)(h:KeyK)(lo hi:Int)(tl th:Nat)(o:OV)(ws:Array Value)(ew:Nat)(wv:Int)(tw:Nat)(kv:Int)(tk n2 t2 g2:Nat)(ps ps1:LO)(b1 b2:Bool) (hL:ObRs (Z w os b1 b2) (K2 w n t g f h lo hi tl th o ws ew wv tw kv tk n2 t2 g2 ps ps1))
  (next:Does (Z w os b1 b2) (I2 w.params f.L) (Ab Cv S 0) (([(f.L+310,C2 w.params f (((lo+hi).fdiv 2)+1) (t2+599) hi th (.s (o.key (t+601)) (.int ((lo+hi).fdiv 2) (t+600)))),(f.A+310,Aa ws ew),(f.F+310,Bn w.params 9 h.X h.co h.ct),(h.co+310,B3 268 h.k),(h.X+310,Ag (.ref (h.V+310))),(h.V+310,Aa h.vs h.ev)])++ps1) (n2+310) (t2+601) g2 res l' n' t' g'):Does (Z w os b1 b2) (I2 w.params f.L) (Ab Cv S 0) (([(f.L+310,C2 w.params f lo tl hi th o),(f.A+310,Aa ws ew),(f.F+310,Bn w.params 9 h.X h.co h.ct),(h.co+310,B3 268 h.k),(h.X+310,Ag (.ref (h.V+310))),(h.V+310,Aa h.vs h.ev)])++ps) (n+310) (t+598) g res l' n' t' g':=
 Bz 58 A1f [0,1,2,3,4,5] hL next (by kernel_rfl) (by decide) (fun p=>congrFun (Ajt w os S n t g f h lo hi tl th ws ew wv tw kv tk n2 t2 g2 ps ps1 o  b1 b2) p)
def Jn(w:World)(n t g:Nat)(f:BQ)(h:KeyK)(lo hi:Int)(tl th:Nat)(o:OV)(ws:Array Value)(ew:Nat)(wv:Int)(tw:Nat)(kv:Int)(tk n2 t2 g2:Nat)(ps ps1:LO):List Ah:=[Q8 lo tl hi th n t g (.bool true),
 B5 lo tl hi th (n+310) (t+598) g,
 C5 (lo+hi) (t+598) 2 (t+599) (n+310) (t+600) g,
 Q17 f lo hi t ws ew n g wv tw,
 Q11 f wv tw w 9 h 268 ps ps1 n t g kv tk n2 t2 g2,
 Q20 kv tk f.x f.10 n2 t2 g2 (.bool false)]
noncomputable def Aal(w:World)(os:OsState)(S:Nat→Slot)(n:Nat)(t:Nat)(g:Nat)(f:BQ)(h:KeyK)(lo:Int)(hi:Int)(tl:Nat)(th:Nat)(ws:Array Value)(ew:Nat)(wv:Int)(tw:Nat)(kv:Int)(tk:Nat)(n2:Nat)(t2:Nat)(g2:Nat)(ps:LO)(ps1:LO)(o:OV)(b1 b2:Bool):Ao:=B7 (Ak (Z w os b1 b2) (Ab Cv S 0) 55 (I2 w.params f.L) ([(f.L+310,C2 w.params f lo tl hi th o),(f.A+310,Aa ws ew),(f.F+310,Bn w.params 9 h.X h.co h.ct),(h.co+310,B3 268 h.k),(h.X+310,Ag (.ref (h.V+310))),(h.V+310,Aa h.vs h.ev)]) (n+310) (t+598) g A17 (Jn w n t g f h lo hi tl th o ws ew wv tw kv tk n2 t2 g2 ps ps1) ps) [0,1,2,3,4,5] (Jn w n t g f h lo hi tl th o ws ew wv tw kv tk n2 t2 g2 ps ps1)
noncomputable def Af5(w:World)(os:OsState)(S:Nat→Slot)(n:Nat)(t:Nat)(g:Nat)(f:BQ)(h:KeyK)(lo:Int)(hi:Int)(tl:Nat)(th:Nat)(ws:Array Value)(ew:Nat)(wv:Int)(tw:Nat)(kv:Int)(tk:Nat)(n2:Nat)(t2:Nat)(g2:Nat)(ps:LO)(ps1:LO)(o:OV)(b1 b2:Bool):Ao:=B6 (Ak (Z w os b1 b2) (Ab Cv S 0) 55 (I2 w.params f.L) ([(f.L+310,C2 w.params f lo tl hi th o),(f.A+310,Aa ws ew),(f.F+310,Bn w.params 9 h.X h.co h.ct),(h.co+310,B3 268 h.k),(h.X+310,Ag (.ref (h.V+310))),(h.V+310,Aa h.vs h.ev)]) (n+310) (t+598) g A17 (Jn w n t g f h lo hi tl th o ws ew wv tw kv tk n2 t2 g2 ps ps1) ps) (.again (I2 w.params f.L)) ([(f.L+310,C2 w.params f lo tl ((lo+hi).fdiv 2) (t+600) (.s (o.key (t+601)) (.int ((lo+hi).fdiv 2) (t+600)))),(f.A+310,Aa ws ew),(f.F+310,Bn w.params 9 h.X h.co h.ct),(h.co+310,B3 268 h.k),(h.X+310,Ag (.ref (h.V+310))),(h.V+310,Aa h.vs h.ev)]) ps1 (n2+310) (t2+599) g2 (Jn w n t g f h lo hi tl th o ws ew wv tw kv tk n2 t2 g2 ps ps1)
theorem Aip(w:World)(os:OsState)(S:Nat→Slot)(n:Nat)(t:Nat)(g:Nat)(f:BQ)(h:KeyK)(lo:Int)(hi:Int)(tl:Nat)(th:Nat)(ws:Array Value)(ew:Nat)(wv:Int)(tw:Nat)(kv:Int)(tk:Nat)(n2:Nat)(t2:Nat)(g2:Nat)(ps:LO)(ps1:LO)(o:OV):∀(b1 b2:Bool),Aal w os S n t g f h lo hi tl th ws ew wv tw kv tk n2 t2 g2 ps ps1 o b1 b2=Af5 w os S n t g f h lo hi tl th ws ew wv tw kv tk n2 t2 g2 ps ps1 o b1 b2
 |false,_=>by cases o<;>kernel_rfl
 |true,_=>by cases o<;>kernel_rfl
theorem A0d(n t g:Nat)(f:BQ)(h:KeyK)(lo hi:Int)(tl th:Nat)(o:OV)(ws:Array Value)(ew:Nat)(wv:Int)(tw:Nat)(kv:Int)(tk n2 t2 g2:Nat)(ps ps1:LO)(b1 b2:Bool) (hL:ObRs (Z w os b1 b2) (Jn w n t g f h lo hi tl th o ws ew wv tw kv tk n2 t2 g2 ps ps1))
  (next:Does (Z w os b1 b2) (I2 w.params f.L) (Ab Cv S 0) (([(f.L+310,C2 w.params f lo tl ((lo+hi).fdiv 2) (t+600) (.s (o.key (t+601)) (.int ((lo+hi).fdiv 2) (t+600)))),(f.A+310,Aa ws ew),(f.F+310,Bn w.params 9 h.X h.co h.ct),(h.co+310,B3 268 h.k),(h.X+310,Ag (.ref (h.V+310))),(h.V+310,Aa h.vs h.ev)])++ps1) (n2+310) (t2+599) g2 res l' n' t' g'):Does (Z w os b1 b2) (I2 w.params f.L) (Ab Cv S 0) (([(f.L+310,C2 w.params f lo tl hi th o),(f.A+310,Aa ws ew),(f.F+310,Bn w.params 9 h.X h.co h.ct),(h.co+310,B3 268 h.k),(h.X+310,Ag (.ref (h.V+310))),(h.V+310,Aa h.vs h.ev)])++ps) (n+310) (t+598) g res l' n' t' g':=
 Bz 55 A17 [0,1,2,3,4,5] hL next (by kernel_rfl) (by decide) (fun p=>congrFun (Aip w os S n t g f h lo hi tl th ws ew wv tw kv tk n2 t2 g2 ps ps1 o  b1 b2) p)
def Jk(w:World)(n t g:Nat)(f:BQ)(lo hi:Int)(tl th:Nat)(o:OV)(ps:LO):List Ah:=[Q8 lo tl hi th n t g (.bool false)]
noncomputable def Aby(w:World)(os:OsState)(S:Nat→Slot)(n:Nat)(t:Nat)(g:Nat)(f:BQ)(lo:Int)(hi:Int)(tl:Nat)(th:Nat)(ps:LO)(o:OV)(b1 b2:Bool):Ao:=B7 (Ak (Z w os b1 b2) (Ab Cv S 0) 7 (I2 w.params f.L) ([(f.L+310,C2 w.params f lo tl hi th o)]) (n+310) (t+598) g 0x4102 (Jk w n t g f lo hi tl th o ps) ps) [0] (Jk w n t g f lo hi tl th o ps)
noncomputable def Aa5(w:World)(os:OsState)(S:Nat→Slot)(n:Nat)(t:Nat)(g:Nat)(f:BQ)(lo:Int)(hi:Int)(tl:Nat)(th:Nat)(ps:LO)(o:OV)(b1 b2:Bool):Ao:=B6 (Ak (Z w os b1 b2) (Ab Cv S 0) 7 (I2 w.params f.L) ([(f.L+310,C2 w.params f lo tl hi th o)]) (n+310) (t+598) g 0x4102 (Jk w n t g f lo hi tl th o ps) ps) (.res (.ok .next)) ([(f.L+310,C2 w.params f lo tl hi th o)]) ps (n+310) (t+598) g (Jk w n t g f lo hi tl th o ps)
theorem Aix(w:World)(os:OsState)(S:Nat→Slot)(n:Nat)(t:Nat)(g:Nat)(f:BQ)(lo:Int)(hi:Int)(tl:Nat)(th:Nat)(ps:LO)(o:OV):∀(b1 b2:Bool),Aby w os S n t g f lo hi tl th ps o b1 b2=Aa5 w os S n t g f lo hi tl th ps o b1 b2
 |false,_=>by cases o<;>kernel_rfl
 |true,_=>by cases o<;>kernel_rfl
theorem Ph(n t g:Nat)(f:BQ)(lo hi:Int)(tl th:Nat)(o:OV)(ps:LO)(b1 b2:Bool) (hL:ObRs (Z w os b1 b2) (Jk w n t g f lo hi tl th o ps)):Does (Z w os b1 b2) (I2 w.params f.L) (Ab Cv S 0) (([(f.L+310,C2 w.params f lo tl hi th o)])++ps) (n+310) (t+598) g (.ok .next) (([(f.L+310,C2 w.params f lo tl hi th o)])++ps) (n+310) (t+598) g:=
 Bo 7 0x4102 [0] hL (by decide) (fun p=>congrFun (Aix w os S n t g f lo hi tl th ps o  b1 b2) p)
abbrev Q29(A:Nat)(ws:Array Value)(ew:Nat)(n:Nat)(t:Nat)(g:Nat):=(qC (.call (.builtin "len") ⟨[.ref (A+310)],[]⟩) [(A+310,Ax ws ew)] (n+311) (t+604) g (.ok (.ret (.int (↑ ws.size) (t+605)))) [0] [(Aa ws ew)] [] (n+311) (t+606) g:Ah)
def H8(w:World)(n t g A:Nat)(x:Int)(tx:Nat)(h:KeyK)(ws:Array Value)(ew:Nat)(r hi:Int)(tl th n2 t2 g2:Nat)(o:OV)(ps ps1:LO):List Ah:=[Q29 A ws ew n t g,
 qP (some Cv) (I2 w.params n) [(n+310,C2 w.params (⟨n,A,h.F,t+598,t+599,t+600,t+601,t+602,x,tx⟩:BQ) 0 326 (ws.size:Int) (t+605) .n),(A+310,Aa ws ew),(h.F+310,Bn w.params 9 h.X h.co h.ct),(h.co+310,B3 268 h.k),(h.X+310,Ag (.ref (h.V+310))),(h.V+310,Aa h.vs h.ev)] ps ps1 (n+311) (t+607) g (.ok .next) [5,0,1,2,3,4] [C2 w.params (⟨n,A,h.F,t+598,t+599,t+600,t+601,t+602,x,tx⟩:BQ) r tl hi th o,Aa ws ew,Bn w.params 9 h.X h.co h.ct,B3 268 h.k,Ag (.ref (h.V+310)),Aa h.vs h.ev] [] (n2+310) (t2+598) g2]
noncomputable def A4z(w:World)(os:OsState)(S:Nat→Slot)(n:Nat)(t:Nat)(g:Nat)(A:Nat)(x:Int)(tx:Nat)(h:KeyK)(ws:Array Value)(ew:Nat)(r:Int)(hi:Int)(tl:Nat)(th:Nat)(n2:Nat)(t2:Nat)(g2:Nat)(ps:LO)(ps1:LO)(o:OV)(b1 b2:Bool):Ao:=B7 (Ak (Z w os b1 b2) (Ab [kF,kB] S 0) 66 (.call (.ref 114) ⟨[.ref (A+310),.int x tx],[(Str.ofString "key",.ref (h.F+310))]⟩) ([(A+310,Aa ws ew),(h.F+310,Bn w.params 9 h.X h.co h.ct),(h.co+310,B3 268 h.k),(h.X+310,Ag (.ref (h.V+310))),(h.V+310,Aa h.vs h.ev)]) (n+310) (t+598) g Uz (H8 w n t g A x tx h ws ew r hi tl th n2 t2 g2 o ps ps1) ps) [0,1,2,3,4] (H8 w n t g A x tx h ws ew r hi tl th n2 t2 g2 o ps ps1)
noncomputable def A1l(w:World)(os:OsState)(S:Nat→Slot)(n:Nat)(t:Nat)(g:Nat)(A:Nat)(x:Int)(tx:Nat)(h:KeyK)(ws:Array Value)(ew:Nat)(r:Int)(hi:Int)(tl:Nat)(th:Nat)(n2:Nat)(t2:Nat)(g2:Nat)(ps:LO)(ps1:LO)(o:OV)(b1 b2:Bool):Ao:=B6 (Ak (Z w os b1 b2) (Ab [kF,kB] S 0) 66 (.call (.ref 114) ⟨[.ref (A+310),.int x tx],[(Str.ofString "key",.ref (h.F+310))]⟩) ([(A+310,Aa ws ew),(h.F+310,Bn w.params 9 h.X h.co h.ct),(h.co+310,B3 268 h.k),(h.X+310,Ag (.ref (h.V+310))),(h.V+310,Aa h.vs h.ev)]) (n+310) (t+598) g Uz (H8 w n t g A x tx h ws ew r hi tl th n2 t2 g2 o ps ps1) ps) (.res (.ok (.ret (.int r tl)))) ([(A+310,Aa ws ew),(h.F+310,Bn w.params 9 h.X h.co h.ct),(h.co+310,B3 268 h.k),(h.X+310,Ag (.ref (h.V+310))),(h.V+310,Aa h.vs h.ev)]) ps1 (n2+310) (t2+598) g2 (H8 w n t g A x tx h ws ew r hi tl th n2 t2 g2 o ps ps1)
theorem Ab8(w:World)(os:OsState)(S:Nat→Slot)(n:Nat)(t:Nat)(g:Nat)(A:Nat)(x:Int)(tx:Nat)(h:KeyK)(ws:Array Value)(ew:Nat)(r:Int)(hi:Int)(tl:Nat)(th:Nat)(n2:Nat)(t2:Nat)(g2:Nat)(ps:LO)(ps1:LO)(o:OV):∀(b1 b2:Bool),A4z w os S n t g A x tx h ws ew r hi tl th n2 t2 g2 ps ps1 o b1 b2=A1l w os S n t g A x tx h ws ew r hi tl th n2 t2 g2 ps ps1 o b1 b2
 |false,_=>by cases o<;>kernel_rfl
 |true,_=>by cases o<;>kernel_rfl
theorem Td(n t g A:Nat)(x:Int)(tx:Nat)(h:KeyK)(ws:Array Value)(ew:Nat)(r hi:Int)(tl th n2 t2 g2:Nat)(o:OV)(ps ps1:LO)(b1 b2:Bool) (hL:ObRs (Z w os b1 b2) (H8 w n t g A x tx h ws ew r hi tl th n2 t2 g2 o ps ps1)):Does (Z w os b1 b2) (.call (.ref 114) ⟨[.ref (A+310),.int x tx],[(Str.ofString "key",.ref (h.F+310))]⟩) (Ab [kF,kB] S 0) (([(A+310,Aa ws ew),(h.F+310,Bn w.params 9 h.X h.co h.ct),(h.co+310,B3 268 h.k),(h.X+310,Ag (.ref (h.V+310))),(h.V+310,Aa h.vs h.ev)])++ps) (n+310) (t+598) g (.ok (.ret (.int r tl))) (([(A+310,Aa ws ew),(h.F+310,Bn w.params 9 h.X h.co h.ct),(h.co+310,B3 268 h.k),(h.X+310,Ag (.ref (h.V+310))),(h.V+310,Aa h.vs h.ev)])++ps1) (n2+310) (t2+598) g2:=
 Bo 66 Uz [0,1,2,3,4] hL (by decide) (fun p=>congrFun (Ab8 w os S n t g A x tx h ws ew r hi tl th n2 t2 g2 ps ps1 o  b1 b2) p)
def K6(w:World)(n t g:Nat)(f:BQ)(h:KeyK)(lo hi:Int)(tl th:Nat)(o:OV)(ws:Array Value)(ew:Nat)(wv:Int)(tw:Nat)(kv:Int)(tk n2 t2 g2:Nat)(ps ps1:LO):List Ah:=[Q8 lo tl hi th n t g (.bool true),
 B5 lo tl hi th (n+310) (t+598) g,
 C5 (lo+hi) (t+598) 2 (t+599) (n+310) (t+600) g,
 Q17 f lo hi t ws ew n g wv tw,
 Q11 f wv tw w 10 h 270 ps ps1 n t g kv tk n2 t2 g2,
 Q20 f.x f.10 kv tk n2 t2 g2 (.bool true)]
noncomputable def Adp(w:World)(os:OsState)(S:Nat→Slot)(n:Nat)(t:Nat)(g:Nat)(f:BQ)(h:KeyK)(lo:Int)(hi:Int)(tl:Nat)(th:Nat)(ws:Array Value)(ew:Nat)(wv:Int)(tw:Nat)(kv:Int)(tk:Nat)(n2:Nat)(t2:Nat)(g2:Nat)(ps:LO)(ps1:LO)(o:OV)(b1 b2:Bool):Ao:=B7 (Ak (Z w os b1 b2) (Ab Cv S 0) 55 (Fg w.params f.L) ([(f.L+310,C2 w.params f lo tl hi th o),(f.A+310,Aa ws ew),(f.F+310,Bn w.params 10 h.X h.co h.ct),(h.co+310,B3 270 h.k),(h.X+310,Ag (.ref (h.V+310))),(h.V+310,Aa h.vs h.ev)]) (n+310) (t+598) g A15 (K6 w n t g f h lo hi tl th o ws ew wv tw kv tk n2 t2 g2 ps ps1) ps) [0,1,2,3,4,5] (K6 w n t g f h lo hi tl th o ws ew wv tw kv tk n2 t2 g2 ps ps1)
noncomputable def Ac4(w:World)(os:OsState)(S:Nat→Slot)(n:Nat)(t:Nat)(g:Nat)(f:BQ)(h:KeyK)(lo:Int)(hi:Int)(tl:Nat)(th:Nat)(ws:Array Value)(ew:Nat)(wv:Int)(tw:Nat)(kv:Int)(tk:Nat)(n2:Nat)(t2:Nat)(g2:Nat)(ps:LO)(ps1:LO)(o:OV)(b1 b2:Bool):Ao:=B6 (Ak (Z w os b1 b2) (Ab Cv S 0) 55 (Fg w.params f.L) ([(f.L+310,C2 w.params f lo tl hi th o),(f.A+310,Aa ws ew),(f.F+310,Bn w.params 10 h.X h.co h.ct),(h.co+310,B3 270 h.k),(h.X+310,Ag (.ref (h.V+310))),(h.V+310,Aa h.vs h.ev)]) (n+310) (t+598) g A15 (K6 w n t g f h lo hi tl th o ws ew wv tw kv tk n2 t2 g2 ps ps1) ps) (.again (Fg w.params f.L)) ([(f.L+310,C2 w.params f lo tl ((lo+hi).fdiv 2) (t+600) (.s (o.key (t+601)) (.int ((lo+hi).fdiv 2) (t+600)))),(f.A+310,Aa ws ew),(f.F+310,Bn w.params 10 h.X h.co h.ct),(h.co+310,B3 270 h.k),(h.X+310,Ag (.ref (h.V+310))),(h.V+310,Aa h.vs h.ev)]) ps1 (n2+310) (t2+599) g2 (K6 w n t g f h lo hi tl th o ws ew wv tw kv tk n2 t2 g2 ps ps1)
theorem Ajq(w:World)(os:OsState)(S:Nat→Slot)(n:Nat)(t:Nat)(g:Nat)(f:BQ)(h:KeyK)(lo:Int)(hi:Int)(tl:Nat)(th:Nat)(ws:Array Value)(ew:Nat)(wv:Int)(tw:Nat)(kv:Int)(tk:Nat)(n2:Nat)(t2:Nat)(g2:Nat)(ps:LO)(ps1:LO)(o:OV):∀(b1 b2:Bool),Adp w os S n t g f h lo hi tl th ws ew wv tw kv tk n2 t2 g2 ps ps1 o b1 b2=Ac4 w os S n t g f h lo hi tl th ws ew wv tw kv tk n2 t2 g2 ps ps1 o b1 b2
 |false,_=>by cases o<;>kernel_rfl
 |true,_=>by cases o<;>kernel_rfl
theorem Xe(n t g:Nat)(f:BQ)(h:KeyK)(lo hi:Int)(tl th:Nat)(o:OV)(ws:Array Value)(ew:Nat)(wv:Int)(tw:Nat)(kv:Int)(tk n2 t2 g2:Nat)(ps ps1:LO)(b1 b2:Bool) (hL:ObRs (Z w os b1 b2) (K6 w n t g f h lo hi tl th o ws ew wv tw kv tk n2 t2 g2 ps ps1))
  (next:Does (Z w os b1 b2) (Fg w.params f.L) (Ab Cv S 0) (([(f.L+310,C2 w.params f lo tl ((lo+hi).fdiv 2) (t+600) (.s (o.key (t+601)) (.int ((lo+hi).fdiv 2) (t+600)))),(f.A+310,Aa ws ew),(f.F+310,Bn w.params 10 h.X h.co h.ct),(h.co+310,B3 270 h.k),(h.X+310,Ag (.ref (h.V+310))),(h.V+310,Aa h.vs h.ev)])++ps1) (n2+310) (t2+599) g2 res l' n' t' g'):Does (Z w os b1 b2) (Fg w.params f.L) (Ab Cv S 0) (([(f.L+310,C2 w.params f lo tl hi th o),(f.A+310,Aa ws ew),(f.F+310,Bn w.params 10 h.X h.co h.ct),(h.co+310,B3 270 h.k),(h.X+310,Ag (.ref (h.V+310))),(h.V+310,Aa h.vs h.ev)])++ps) (n+310) (t+598) g res l' n' t' g':=
 Bz 55 A15 [0,1,2,3,4,5] hL next (by kernel_rfl) (by decide) (fun p=>congrFun (Ajq w os S n t g f h lo hi tl th ws ew wv tw kv tk n2 t2 g2 ps ps1 o  b1 b2) p)
def K4(w:World)(n t g:Nat)(f:BQ)(h:KeyK)(lo hi:Int)(tl th:Nat)(o:OV)(ws:Array Value)(ew:Nat)(wv:Int)(tw:Nat)(kv:Int)(tk n2 t2 g2:Nat)(ps ps1:LO):List Ah:=[Q8 lo tl hi th n t g (.bool true),
 B5 lo tl hi th (n+310) (t+598) g,
 C5 (lo+hi) (t+598) 2 (t+599) (n+310) (t+600) g,
 Q17 f lo hi t ws ew n g wv tw,
 Q11 f wv tw w 10 h 270 ps ps1 n t g kv tk n2 t2 g2,
 Q20 f.x f.10 kv tk n2 t2 g2 (.bool false),
 B5 ((lo+hi).fdiv 2) (t+600) 1 (t2+598) (n2+310) (t2+599) g2]
noncomputable def Aax(w:World)(os:OsState)(S:Nat→Slot)(n:Nat)(t:Nat)(g:Nat)(f:BQ)(h:KeyK)(lo:Int)(hi:Int)(tl:Nat)(th:Nat)(ws:Array Value)(ew:Nat)(wv:Int)(tw:Nat)(kv:Int)(tk:Nat)(n2:Nat)(t2:Nat)(g2:Nat)(ps:LO)(ps1:LO)(o:OV)(b1 b2:Bool):Ao:=B7 (Ak (Z w os b1 b2) (Ab Cv S 0) 58 (Fg w.params f.L) ([(f.L+310,C2 w.params f lo tl hi th o),(f.A+310,Aa ws ew),(f.F+310,Bn w.params 10 h.X h.co h.ct),(h.co+310,B3 270 h.k),(h.X+310,Ag (.ref (h.V+310))),(h.V+310,Aa h.vs h.ev)]) (n+310) (t+598) g A3l (K4 w n t g f h lo hi tl th o ws ew wv tw kv tk n2 t2 g2 ps ps1) ps) [0,1,2,3,4,5] (K4 w n t g f h lo hi tl th o ws ew wv tw kv tk n2 t2 g2 ps ps1)
noncomputable def Aew(w:World)(os:OsState)(S:Nat→Slot)(n:Nat)(t:Nat)(g:Nat)(f:BQ)(h:KeyK)(lo:Int)(hi:Int)(tl:Nat)(th:Nat)(ws:Array Value)(ew:Nat)(wv:Int)(tw:Nat)(kv:Int)(tk:Nat)(n2:Nat)(t2:Nat)(g2:Nat)(ps:LO)(ps1:LO)(o:OV)(b1 b2:Bool):Ao:=B6 (Ak (Z w os b1 b2) (Ab Cv S 0) 58 (Fg w.params f.L) ([(f.L+310,C2 w.params f lo tl hi th o),(f.A+310,Aa ws ew),(f.F+310,Bn w.params 10 h.X h.co h.ct),(h.co+310,B3 270 h.k),(h.X+310,Ag (.ref (h.V+310))),(h.V+310,Aa h.vs h.ev)]) (n+310) (t+598) g A3l (K4 w n t g f h lo hi tl th o ws ew wv tw kv tk n2 t2 g2 ps ps1) ps) (.again (Fg w.params f.L)) ([(f.L+310,C2 w.params f (((lo+hi).fdiv 2)+1) (t2+599) hi th (.s (o.key (t+601)) (.int ((lo+hi).fdiv 2) (t+600)))),(f.A+310,Aa ws ew),(f.F+310,Bn w.params 10 h.X h.co h.ct),(h.co+310,B3 270 h.k),(h.X+310,Ag (.ref (h.V+310))),(h.V+310,Aa h.vs h.ev)]) ps1 (n2+310) (t2+601) g2 (K4 w n t g f h lo hi tl th o ws ew wv tw kv tk n2 t2 g2 ps ps1)
theorem Ait(w:World)(os:OsState)(S:Nat→Slot)(n:Nat)(t:Nat)(g:Nat)(f:BQ)(h:KeyK)(lo:Int)(hi:Int)(tl:Nat)(th:Nat)(ws:Array Value)(ew:Nat)(wv:Int)(tw:Nat)(kv:Int)(tk:Nat)(n2:Nat)(t2:Nat)(g2:Nat)(ps:LO)(ps1:LO)(o:OV):∀(b1 b2:Bool),Aax w os S n t g f h lo hi tl th ws ew wv tw kv tk n2 t2 g2 ps ps1 o b1 b2=Aew w os S n t g f h lo hi tl th ws ew wv tw kv tk n2 t2 g2 ps ps1 o b1 b2
 |false,_=>by cases o<;>kernel_rfl
 |true,_=>by cases o<;>kernel_rfl
theorem Zz(n t g:Nat)(f:BQ)(h:KeyK)(lo hi:Int)(tl th:Nat)(o:OV)(ws:Array Value)(ew:Nat)(wv:Int)(tw:Nat)(kv:Int)(tk n2 t2 g2:Nat)(ps ps1:LO)(b1 b2:Bool) (hL:ObRs (Z w os b1 b2) (K4 w n t g f h lo hi tl th o ws ew wv tw kv tk n2 t2 g2 ps ps1))
  (next:Does (Z w os b1 b2) (Fg w.params f.L) (Ab Cv S 0) (([(f.L+310,C2 w.params f (((lo+hi).fdiv 2)+1) (t2+599) hi th (.s (o.key (t+601)) (.int ((lo+hi).fdiv 2) (t+600)))),(f.A+310,Aa ws ew),(f.F+310,Bn w.params 10 h.X h.co h.ct),(h.co+310,B3 270 h.k),(h.X+310,Ag (.ref (h.V+310))),(h.V+310,Aa h.vs h.ev)])++ps1) (n2+310) (t2+601) g2 res l' n' t' g'):Does (Z w os b1 b2) (Fg w.params f.L) (Ab Cv S 0) (([(f.L+310,C2 w.params f lo tl hi th o),(f.A+310,Aa ws ew),(f.F+310,Bn w.params 10 h.X h.co h.ct),(h.co+310,B3 270 h.k),(h.X+310,Ag (.ref (h.V+310))),(h.V+310,Aa h.vs h.ev)])++ps) (n+310) (t+598) g res l' n' t' g':=
 Bz 58 A3l [0,1,2,3,4,5] hL next (by kernel_rfl) (by decide) (fun p=>congrFun (Ait w os S n t g f h lo hi tl th ws ew wv tw kv tk n2 t2 g2 ps ps1 o  b1 b2) p)
def Jx(w:World)(n t g:Nat)(f:BQ)(lo hi:Int)(tl th:Nat)(o:OV)(ps:LO):List Ah:=[Q8 lo tl hi th n t g (.bool false)]
noncomputable def Adv(w:World)(os:OsState)(S:Nat→Slot)(n:Nat)(t:Nat)(g:Nat)(f:BQ)(lo:Int)(hi:Int)(tl:Nat)(th:Nat)(ps:LO)(o:OV)(b1 b2:Bool):Ao:=B7 (Ak (Z w os b1 b2) (Ab Cv S 0) 7 (Fg w.params f.L) ([(f.L+310,C2 w.params f lo tl hi th o)]) (n+310) (t+598) g 0x4102 (Jx w n t g f lo hi tl th o ps) ps) [0] (Jx w n t g f lo hi tl th o ps)
noncomputable def Aai(w:World)(os:OsState)(S:Nat→Slot)(n:Nat)(t:Nat)(g:Nat)(f:BQ)(lo:Int)(hi:Int)(tl:Nat)(th:Nat)(ps:LO)(o:OV)(b1 b2:Bool):Ao:=B6 (Ak (Z w os b1 b2) (Ab Cv S 0) 7 (Fg w.params f.L) ([(f.L+310,C2 w.params f lo tl hi th o)]) (n+310) (t+598) g 0x4102 (Jx w n t g f lo hi tl th o ps) ps) (.res (.ok .next)) ([(f.L+310,C2 w.params f lo tl hi th o)]) ps (n+310) (t+598) g (Jx w n t g f lo hi tl th o ps)
theorem Aj7(w:World)(os:OsState)(S:Nat→Slot)(n:Nat)(t:Nat)(g:Nat)(f:BQ)(lo:Int)(hi:Int)(tl:Nat)(th:Nat)(ps:LO)(o:OV):∀(b1 b2:Bool),Adv w os S n t g f lo hi tl th ps o b1 b2=Aai w os S n t g f lo hi tl th ps o b1 b2
 |false,_=>by cases o<;>kernel_rfl
 |true,_=>by cases o<;>kernel_rfl
theorem Px(n t g:Nat)(f:BQ)(lo hi:Int)(tl th:Nat)(o:OV)(ps:LO)(b1 b2:Bool) (hL:ObRs (Z w os b1 b2) (Jx w n t g f lo hi tl th o ps)):Does (Z w os b1 b2) (Fg w.params f.L) (Ab Cv S 0) (([(f.L+310,C2 w.params f lo tl hi th o)])++ps) (n+310) (t+598) g (.ok .next) (([(f.L+310,C2 w.params f lo tl hi th o)])++ps) (n+310) (t+598) g:=
 Bo 7 0x4102 [0] hL (by decide) (fun p=>congrFun (Aj7 w os S n t g f lo hi tl th ps o  b1 b2) p)
def H6(w:World)(n t g A:Nat)(x:Int)(tx:Nat)(h:KeyK)(ws:Array Value)(ew:Nat)(r hi:Int)(tl th n2 t2 g2:Nat)(o:OV)(ps ps1:LO):List Ah:=[Q29 A ws ew n t g,
 qP (some Cv) (Fg w.params n) [(n+310,C2 w.params (⟨n,A,h.F,t+598,t+599,t+600,t+601,t+602,x,tx⟩:BQ) 0 312 (ws.size:Int) (t+605) .n),(A+310,Aa ws ew),(h.F+310,Bn w.params 10 h.X h.co h.ct),(h.co+310,B3 270 h.k),(h.X+310,Ag (.ref (h.V+310))),(h.V+310,Aa h.vs h.ev)] ps ps1 (n+311) (t+607) g (.ok .next) [5,0,1,2,3,4] [C2 w.params (⟨n,A,h.F,t+598,t+599,t+600,t+601,t+602,x,tx⟩:BQ) r tl hi th o,Aa ws ew,Bn w.params 10 h.X h.co h.ct,B3 270 h.k,Ag (.ref (h.V+310)),Aa h.vs h.ev] [] (n2+310) (t2+598) g2]
noncomputable def A4k(w:World)(os:OsState)(S:Nat→Slot)(n:Nat)(t:Nat)(g:Nat)(A:Nat)(x:Int)(tx:Nat)(h:KeyK)(ws:Array Value)(ew:Nat)(r:Int)(hi:Int)(tl:Nat)(th:Nat)(n2:Nat)(t2:Nat)(g2:Nat)(ps:LO)(ps1:LO)(o:OV)(b1 b2:Bool):Ao:=B7 (Ak (Z w os b1 b2) (Ab [kF,kB] S 0) 66 (.call (.ref 105) ⟨[.ref (A+310),.int x tx],[(Str.ofString "key",.ref (h.F+310))]⟩) ([(A+310,Aa ws ew),(h.F+310,Bn w.params 10 h.X h.co h.ct),(h.co+310,B3 270 h.k),(h.X+310,Ag (.ref (h.V+310))),(h.V+310,Aa h.vs h.ev)]) (n+310) (t+598) g Uz (H6 w n t g A x tx h ws ew r hi tl th n2 t2 g2 o ps ps1) ps) [0,1,2,3,4] (H6 w n t g A x tx h ws ew r hi tl th n2 t2 g2 o ps ps1)
noncomputable def A16(w:World)(os:OsState)(S:Nat→Slot)(n:Nat)(t:Nat)(g:Nat)(A:Nat)(x:Int)(tx:Nat)(h:KeyK)(ws:Array Value)(ew:Nat)(r:Int)(hi:Int)(tl:Nat)(th:Nat)(n2:Nat)(t2:Nat)(g2:Nat)(ps:LO)(ps1:LO)(o:OV)(b1 b2:Bool):Ao:=B6 (Ak (Z w os b1 b2) (Ab [kF,kB] S 0) 66 (.call (.ref 105) ⟨[.ref (A+310),.int x tx],[(Str.ofString "key",.ref (h.F+310))]⟩) ([(A+310,Aa ws ew),(h.F+310,Bn w.params 10 h.X h.co h.ct),(h.co+310,B3 270 h.k),(h.X+310,Ag (.ref (h.V+310))),(h.V+310,Aa h.vs h.ev)]) (n+310) (t+598) g Uz (H6 w n t g A x tx h ws ew r hi tl th n2 t2 g2 o ps ps1) ps) (.res (.ok (.ret (.int r tl)))) ([(A+310,Aa ws ew),(h.F+310,Bn w.params 10 h.X h.co h.ct),(h.co+310,B3 270 h.k),(h.X+310,Ag (.ref (h.V+310))),(h.V+310,Aa h.vs h.ev)]) ps1 (n2+310) (t2+598) g2 (H6 w n t g A x tx h ws ew r hi tl th n2 t2 g2 o ps ps1)
theorem Adg(w:World)(os:OsState)(S:Nat→Slot)(n:Nat)(t:Nat)(g:Nat)(A:Nat)(x:Int)(tx:Nat)(h:KeyK)(ws:Array Value)(ew:Nat)(r:Int)(hi:Int)(tl:Nat)(th:Nat)(n2:Nat)(t2:Nat)(g2:Nat)(ps:LO)(ps1:LO)(o:OV):∀(b1 b2:Bool),A4k w os S n t g A x tx h ws ew r hi tl th n2 t2 g2 ps ps1 o b1 b2=A16 w os S n t g A x tx h ws ew r hi tl th n2 t2 g2 ps ps1 o b1 b2
 |false,_=>by cases o<;>kernel_rfl
 |true,_=>by cases o<;>kernel_rfl
theorem Tg(n t g A:Nat)(x:Int)(tx:Nat)(h:KeyK)(ws:Array Value)(ew:Nat)(r hi:Int)(tl th n2 t2 g2:Nat)(o:OV)(ps ps1:LO)(b1 b2:Bool) (hL:ObRs (Z w os b1 b2) (H6 w n t g A x tx h ws ew r hi tl th n2 t2 g2 o ps ps1)):Does (Z w os b1 b2) (.call (.ref 105) ⟨[.ref (A+310),.int x tx],[(Str.ofString "key",.ref (h.F+310))]⟩) (Ab [kF,kB] S 0) (([(A+310,Aa ws ew),(h.F+310,Bn w.params 10 h.X h.co h.ct),(h.co+310,B3 270 h.k),(h.X+310,Ag (.ref (h.V+310))),(h.V+310,Aa h.vs h.ev)])++ps) (n+310) (t+598) g (.ok (.ret (.int r tl))) (([(A+310,Aa ws ew),(h.F+310,Bn w.params 10 h.X h.co h.ct),(h.co+310,B3 270 h.k),(h.X+310,Ag (.ref (h.V+310))),(h.V+310,Aa h.vs h.ev)])++ps1) (n2+310) (t2+598) g2:=
 Bo 66 Uz [0,1,2,3,4] hL (by decide) (fun p=>congrFun (Adg w os S n t g A x tx h ws ew r hi tl th n2 t2 g2 ps ps1 o  b1 b2) p)
section
def G5(P:Params)(i:Nat)(line:Int)(F:Nat)(h:KeyK):LO:=[(F+310,Bn P i h.X h.co h.ct),(h.co+310,B3 line h.k),(h.X+310,Ag (.ref (h.V+310))),(h.V+310,Aa h.vs h.ev)]
noncomputable def six:List Nat:=[1,2,3,4,5,6]
theorem U9{ws:Array Value}(h:NatL ws six){m:Int}(h0:0≤m)(h6:m < 6):∃tk,ws[m.toNat]?=some (.int ((m.toNat+1:Nat):Int) tk):=by
 obtain ⟨i,rfl⟩:=Int.eq_ofNat_of_zero_le h0
 rw [Int.toNat_natCast]
 have hi:i < 6:=A14 h6
 obtain ⟨tk,e⟩:=h.nth (i:=i) hi
 refine ⟨tk,?_⟩
 rw [e]
 have:∀j,j < 6→six.getD j 0=j+1:=by decide
 rw [this i hi]
section
variable {w:World}{os:OsState}(b1 b2:Bool)(V:List Nat)(h:KeyK)
theorem Xn(n t g:Nat)(W tw:Nat)(T:TB)(hW:1≤W∧W≤6)(hI:NatL h.vs V)(hl:V.length≤5)(hV:∀v∈V,1≤v∧v≤6) (hF:T.isF∨(W=4∧T=.e∧∃v∈V[0]?,5≤v)):
  ∃(n' t' g' tk:Nat) (T':TB),n≤n'∧T'.isF∧newer T.obs T'.obs (n+310)∧∀S,Does (Z w os b1 b2) (.call (.ref (h.F+310)) ⟨[.int (W:Int) tw],[]⟩) (Ab Kt S 0) (G5 w.params 9 268 h.F h++T.obs) (n+310) (t+598) g (.ok (.ret (.int (-((Cf W V).length:Int)) tk))) (G5 w.params 9 268 h.F h++T'.obs) (n'+310) (t'+598) g':=by
 refine Af fun Gz hGz=>?_
 refine O6 (J1 (w:=w) (os:=os) b1 b2 .l (n+1) (t+1) g h.V h.ev tw h.vs V W T hW hI hl hV (hF.imp id fun x=>⟨rfl,x⟩)) fun n2 t2 g2 ls el T2 h1 h2 h3 h4 h5 D=>?_
 refine hGz ?_
 refine Ca n2 (t2+3) g2 (t2+600) T2 ⟨C6 h1,h4,h5.mono Dr,fun S=>?_⟩
 have X:=Yh (w:=w) (os:=os) (S:=S) n t g h (W:Int) tw 0 0 ls el n2 t2 g2 T.obs T2.obs b1 b2
  ⟨B0 h5 D (hn:=?_),Ae fun bl=>Bw (by lia),Ef,trivial⟩
 ·rw [h2.size] at X
  exact X
 ·intro u hu
  rw [List.mem_singleton.mp hu]
  show n+311≤n+315
  exact Dr
theorem We(n t g:Nat)(W tw:Nat)(T:TB)(hW:1≤W∧W≤6)(hI:NatL h.vs V)(hl:V.length≤5)(hV:∀v∈V,1≤v∧v≤6)(hF:T.isF) (hne:1≤(Cf W V).length):
  ∃(n' t' g' tk:Nat) (T':TB),n≤n'∧T'.isF∧newer T.obs T'.obs (n+310)∧∀S,Does (Z w os b1 b2) (.call (.ref (h.F+310)) ⟨[.int (W:Int) tw],[]⟩) (Ab Kt S 0) (G5 w.params 10 270 h.F h++T.obs) (n+310) (t+598) g (.ok (.ret (.int (-(D0 W (Cf W V):Int)) tk))) (G5 w.params 10 270 h.F h++T'.obs) (n'+310) (t'+598) g':=by
 refine Af fun Gz hGz=>?_
 refine Kn (Ys (w:=w) (os:=os) b1 b2 (n+1) (t+1) g h.V h.ev tw h.vs V W T hW hI hl hV hF hne) fun n2 t2 g2 tk T2 h1 h4 h5 D=>?_
 refine hGz ?_
 refine Ca n2 (t2+1) g2 (t2+598) T2 ⟨C6 h1,h4,h5.mono Dr,fun S=>?_⟩
 exact V8 (w:=w) (os:=os) (S:=S) n t g h (W:Int) tw tk (D0 W (Cf W V)) #[] 0 n2 t2 g2 T.obs T2.obs b1 b2
  ⟨B0 h5 D,Ef,trivial⟩
def Og(V:List Nat)(x m:Int):Bool:=decide (-((Cf (m.toNat+1) V).length:Int) < x)
def Ms(V:List Nat)(x m:Int):Bool:=!decide (x < -(D0 (m.toNat+1) (Cf (m.toNat+1) V):Int))
def bqL(P:Params)(i:Nat)(line:Int)(f:BQ)(h:KeyK)(lo:Int)(tl:Nat)(hi:Int)(th:Nat)(o:OV)(ws:Array Value)(ew:Nat):LO:=[(f.L+310,C2 P f lo tl hi th o),(f.A+310,Aa ws ew)]++G5 P i line f.F h
theorem A78(f:BQ)(ws:Array Value)(ew:Nat)(hf:f.F=h.F)(hw:NatL ws six)(hI:NatL h.vs V)(hl:V.length≤5)(hV:∀v∈V,1≤v∧v≤6)(k:Nat):∀(n t g:Nat) (lo hi:Int) (tl th:Nat) (o:OV) (T:TB),0≤lo→hi≤6→hi - lo≤k→(T.isF∨(lo=0∧hi=6∧T=.e∧∃v∈V[0]?,5≤v)) →
  ∃(n' t' g' tl':Nat) (hi':Int) (th':Nat) (o':OV) (T':TB),n≤n'∧T'.isF∧newer T.obs T'.obs (n+310) ∧
  ∀S,Does (Z w os b1 b2) (I2 w.params f.L) (Ab Cv S 0) (bqL w.params 9 268 f h lo tl hi th o ws ew++T.obs) (n+310) (t+598) g (.ok .next)
   (bqL w.params 9 268 f h (Cz (Og V f.x) k lo hi) tl' hi' th' o' ws ew++T'.obs) (n'+310) (t'+598) g':=by
 induction k with
 |zero=>
  intro n t g lo hi tl th o T h0 h1 h2 hF
  have hF:T.isF:=hF.resolve_right fun ⟨a,b,_⟩=>by lia
  refine G7 n t g tl hi th o T ⟨Nat.le_refl _,hF,newer.same,fun S=>?_⟩
  exact Ph n t g f lo hi tl th o (((f.A+310,Aa ws ew)::G5 w.params 9 268 f.F h)++T.obs) b1 b2 ⟨Dm (decide_eq_false (A1t h2)),trivial⟩
 |succ k ih=>
  intro n t g lo hi tl th o T h0 h1 h2 hF
  unfold Cz
  by_cases hlt:lo < hi
  ·rw [if_pos hlt]
   refine Af fun Gz hGz=>?_
   obtain ⟨m1,m2⟩:=Lo hlt
   have hm3:lo=0→hi=6→(lo+hi).fdiv 2=3:=by rintro rfl rfl;decide
   generalize hm:(lo+hi).fdiv 2=m at *
   obtain ⟨tw,hx⟩:=U9 hw (m:=m) (J9 h0 m1) (J9 m2 h1)
   refine Kn (Xn (w:=w) (os:=os) b1 b2 V h n (t+4) g (m.toNat+1) tw T (by lia) hI hl hV (hF.imp id fun ⟨a,b,c,d⟩=>⟨by rw [hm3 a b];rfl,c,d⟩)) fun n2 t2 g2 tk T2 z1 z2 z3 DK=>?_
   rw [← hf] at DK
   have ob:Ed (Z w os b1 b2) (qC (Ww (f.A+310) m (t+600)) [(f.A+310,Aa ws ew)] (n+310) (t+602) g (.ok (.ret (.int ((m.toNat+1:Nat):Int) tw))) [1] [Aa ws ew] [] (n+310) (t+602) g):=
    Ae fun bl=>Ba (J9 h0 m1) (by lia) hx
   refine hGz ?_
   by_cases hc:-((Cf (m.toNat+1) V).length:Int) < f.x
   ·rw [if_pos (show Og V f.x m=true from decide_eq_true hc)]
    refine Af fun Gz hGz=>?_
    obtain ⟨n',t',g',tl',hi',th',o',T',y1,y2,y3,D⟩:=ih n2 (t2+3) g2 (m+1) hi (t2+599) th (.s (o.key (t+601)) (.int m (t+600))) T2 (A2l h0 m1) h1 (Wk h2 m1) (.inl z2)
    refine hGz ?_
    refine G7 n' t' g' tl' hi' th' o' T' ⟨G8 z1 y1,y2,z3.trans (y3.mono (G2 z1)),fun S=>?_⟩
    have D:=D S
    subst hm
    exact Yz (w:=w) (os:=os) (S:=S) n t g f h lo hi tl th o ws ew _ tw _ tk n2 t2 g2 T.obs T2.obs b1 b2 ⟨Dm (decide_eq_true hlt),Aw,C4 rfl (Fi _),ob,B0 z3 DK,Dm (decide_eq_true hc),Aw,trivial⟩ D
   ·rw [if_neg (show ¬ Og V f.x m=true by unfold Og;rw [decide_eq_false hc];decide)]
    refine Af fun Gz hGz=>?_
    obtain ⟨n',t',g',tl',hi',th',o',T',y1,y2,y3,D⟩:=ih n2 (t2+1) g2 lo m tl (t+600) (.s (o.key (t+601)) (.int m (t+600))) T2 h0 (A1u h1 m2) (A4r h2 m2) (.inl z2)
    refine hGz ?_
    refine G7 n' t' g' tl' hi' th' o' T' ⟨G8 z1 y1,y2,z3.trans (y3.mono (G2 z1)),fun S=>?_⟩
    have D:=D S
    subst hm
    exact A0d (w:=w) (os:=os) (S:=S) n t g f h lo hi tl th o ws ew _ tw _ tk n2 t2 g2 T.obs T2.obs b1 b2 ⟨Dm (decide_eq_true hlt),Aw,C4 rfl (Fi _),ob,B0 z3 DK,Dm (decide_eq_false hc),trivial⟩ D
  ·rw [if_neg hlt]
   have hF:T.isF:=hF.resolve_right fun ⟨a,b,_⟩=>by lia
   refine G7 n t g tl hi th o T ⟨Nat.le_refl _,hF,newer.same,fun S=>?_⟩
   exact Ph n t g f lo hi tl th o (((f.A+310,Aa ws ew)::G5 w.params 9 268 f.F h)++T.obs) b1 b2 ⟨Dm (decide_eq_false hlt),trivial⟩
theorem A7p(f:BQ)(ws:Array Value)(ew:Nat)(hf:f.F=h.F)(hw:NatL ws six)(hI:NatL h.vs V)(hl:V.length≤5)(hV:∀v∈V,1≤v∧v≤6) (hne:∀W,1≤W→W≤6→1≤(Cf W V).length) (k:Nat):∀(n t g:Nat) (lo hi:Int) (tl th:Nat) (o:OV) (T:TB),0≤lo→hi≤6→hi - lo≤k→T.isF →
  ∃(n' t' g' tl':Nat) (hi':Int) (th':Nat) (o':OV) (T':TB),n≤n'∧T'.isF∧newer T.obs T'.obs (n+310) ∧
  ∀S,Does (Z w os b1 b2) (Fg w.params f.L) (Ab Cv S 0) (bqL w.params 10 270 f h lo tl hi th o ws ew++T.obs) (n+310) (t+598) g (.ok .next)
   (bqL w.params 10 270 f h (Cz (Ms V f.x) k lo hi) tl' hi' th' o' ws ew++T'.obs) (n'+310) (t'+598) g':=by
 induction k with
 |zero=>
  intro n t g lo hi tl th o T h0 h1 h2 hF
  refine G7 n t g tl hi th o T ⟨Nat.le_refl _,hF,newer.same,fun S=>?_⟩
  exact Px n t g f lo hi tl th o (((f.A+310,Aa ws ew)::G5 w.params 10 270 f.F h)++T.obs) b1 b2 ⟨Dm (decide_eq_false (A1t h2)),trivial⟩
 |succ k ih=>
  intro n t g lo hi tl th o T h0 h1 h2 hF
  unfold Cz
  by_cases hlt:lo < hi
  ·rw [if_pos hlt]
   refine Af fun Gz hGz=>?_
   obtain ⟨m1,m2⟩:=Lo hlt
   generalize hm:(lo+hi).fdiv 2=m at *
   obtain ⟨tw,hx⟩:=U9 hw (m:=m) (J9 h0 m1) (J9 m2 h1)
   refine Kn (We (w:=w) (os:=os) b1 b2 V h n (t+4) g (m.toNat+1) tw T (by lia) hI hl hV hF (hne _ F5 (by lia))) fun n2 t2 g2 tk T2 z1 z2 z3 DK=>?_
   rw [← hf] at DK
   have ob:Ed (Z w os b1 b2) (qC (Ww (f.A+310) m (t+600)) [(f.A+310,Aa ws ew)] (n+310) (t+602) g (.ok (.ret (.int ((m.toNat+1:Nat):Int) tw))) [1] [Aa ws ew] [] (n+310) (t+602) g):=
    Ae fun bl=>Ba (J9 h0 m1) (by lia) hx
   refine hGz ?_
   by_cases hc:f.x < -(D0 (m.toNat+1) (Cf (m.toNat+1) V):Int)
   ·rw [if_neg (show ¬ Ms V f.x m=true by unfold Ms;rw [decide_eq_true hc];decide)]
    refine Af fun Gz hGz=>?_
    obtain ⟨n',t',g',tl',hi',th',o',T',y1,y2,y3,D⟩:=ih n2 (t2+1) g2 lo m tl (t+600) (.s (o.key (t+601)) (.int m (t+600))) T2 h0 (A1u h1 m2) (A4r h2 m2) z2
    refine hGz ?_
    refine G7 n' t' g' tl' hi' th' o' T' ⟨G8 z1 y1,y2,z3.trans (y3.mono (G2 z1)),fun S=>?_⟩
    have D:=D S
    subst hm
    exact Xe (w:=w) (os:=os) (S:=S) n t g f h lo hi tl th o ws ew _ tw _ tk n2 t2 g2 T.obs T2.obs b1 b2 ⟨Dm (decide_eq_true hlt),Aw,C4 rfl (Fi _),ob,B0 z3 DK,Dm (decide_eq_true hc),trivial⟩ D
   ·rw [if_pos (show Ms V f.x m=true by unfold Ms;rw [decide_eq_false hc];decide)]
    refine Af fun Gz hGz=>?_
    obtain ⟨n',t',g',tl',hi',th',o',T',y1,y2,y3,D⟩:=ih n2 (t2+3) g2 (m+1) hi (t2+599) th (.s (o.key (t+601)) (.int m (t+600))) T2 (A2l h0 m1) h1 (Wk h2 m1) z2
    refine hGz ?_
    refine G7 n' t' g' tl' hi' th' o' T' ⟨G8 z1 y1,y2,z3.trans (y3.mono (G2 z1)),fun S=>?_⟩
    have D:=D S
    subst hm
    exact Zz (w:=w) (os:=os) (S:=S) n t g f h lo hi tl th o ws ew _ tw _ tk n2 t2 g2 T.obs T2.obs b1 b2 ⟨Dm (decide_eq_true hlt),Aw,C4 rfl (Fi _),ob,B0 z3 DK,Dm (decide_eq_false hc),Aw,trivial⟩ D
  ·rw [if_neg hlt]
   refine G7 n t g tl hi th o T ⟨Nat.le_refl _,hF,newer.same,fun S=>?_⟩
   exact Px n t g f lo hi tl th o (((f.A+310,Aa ws ew)::G5 w.params 10 270 f.F h)++T.obs) b1 b2 ⟨Dm (decide_eq_false hlt),trivial⟩
theorem A9l(n t g A:Nat)(x:Int)(tx:Nat)(ws:Array Value)(ew:Nat)(T:TB)(hw:NatL ws six)(hI:NatL h.vs V)(hl:V.length≤5)(hV:∀v∈V,1≤v∧v≤6) (hF:T.isF∨(T=.e∧∃v∈V[0]?,5≤v)):
  ∃(n' t' g' tk:Nat) (T':TB),n≤n'∧T'.isF∧newer T.obs T'.obs (n+310) ∧
  ∀S,Does (Z w os b1 b2) (.call (.ref 114) ⟨[.ref (A+310),.int x tx],[(Str.ofString "key",.ref (h.F+310))]⟩) (Ab [kF,kB] S 0) ([(A+310,Aa ws ew)]++G5 w.params 9 268 h.F h++T.obs) (n+310) (t+598) g (.ok (.ret (.int (Dh (Og V x) 6) tk))) ([(A+310,Aa ws ew)]++G5 w.params 9 268 h.F h++T'.obs) (n'+310) (t'+598) g':=by
 have hs:ws.size=6:=hw.size
 refine Af fun Gz hGz=>?_
 refine Oe (A78 (w:=w) (os:=os) b1 b2 V h ⟨n,A,h.F,t+598,t+599,t+600,t+601,t+602,x,tx⟩ ws ew rfl hw hI hl hV 6 (n+1) (t+9) g 0 6 326 (t+605) .n T (by decide) (by decide) (by decide) (hF.imp id fun ⟨a,b⟩=>⟨rfl,rfl,a,b⟩)) fun n2 t2 g2 tl hi th o T2 z1 z2 z3 D=>?_
 refine hGz ?_
 refine Ca n2 t2 g2 tl T2 ⟨C6 z1,z2,z3.mono Dr,fun S=>?_⟩
 exact Td (w:=w) (os:=os) (S:=S) n t g A x tx h ws ew (Dh (Og V x) 6) hi tl th n2 t2 g2 o T.obs T2.obs b1 b2
  ⟨Ae fun bl=>Bw (by lia),B0 z3 (fun S=>by rw [hs];exact D S),trivial⟩
theorem A7u(n t g A:Nat)(x:Int)(tx:Nat)(ws:Array Value)(ew:Nat)(T:TB)(hw:NatL ws six)(hI:NatL h.vs V)(hl:V.length≤5)(hV:∀v∈V,1≤v∧v≤6) (hne:∀W,1≤W→W≤6→1≤(Cf W V).length) (hF:T.isF):
  ∃(n' t' g' tk:Nat) (T':TB),n≤n'∧T'.isF∧newer T.obs T'.obs (n+310) ∧
  ∀S,Does (Z w os b1 b2) (.call (.ref 105) ⟨[.ref (A+310),.int x tx],[(Str.ofString "key",.ref (h.F+310))]⟩) (Ab [kF,kB] S 0) ([(A+310,Aa ws ew)]++G5 w.params 10 270 h.F h++T.obs) (n+310) (t+598) g (.ok (.ret (.int (Dh (Ms V x) 6) tk))) ([(A+310,Aa ws ew)]++G5 w.params 10 270 h.F h++T'.obs) (n'+310) (t'+598) g':=by
 have hs:ws.size=6:=hw.size
 refine Af fun Gz hGz=>?_
 refine Oe (A7p (w:=w) (os:=os) b1 b2 V h ⟨n,A,h.F,t+598,t+599,t+600,t+601,t+602,x,tx⟩ ws ew rfl hw hI hl hV hne 6 (n+1) (t+9) g 0 6 312 (t+605) .n T (by decide) (by decide) (by decide) hF) fun n2 t2 g2 tl hi th o T2 z1 z2 z3 D=>?_
 refine hGz ?_
 refine Ca n2 t2 g2 tl T2 ⟨C6 z1,z2,z3.mono Dr,fun S=>?_⟩
 exact Tg (w:=w) (os:=os) (S:=S) n t g A x tx h ws ew (Dh (Ms V x) 6) hi tl th n2 t2 g2 o T.obs T2.obs b1 b2
  ⟨Ae fun bl=>Bw (by lia),B0 z3 (fun S=>by rw [hs];exact D S),trivial⟩
end
end
end Mine
namespace Mine
open PySem PySem.W PySem.W.X PyProof.Rows PySem.MeetsSeq PySem.SeqAt
variable {w:World}{os:OsState}{S:Nat→Slot}{res:Result}{l':LO}{n' t' g':Nat}
theorem Lp{n:Nat}:((List.range n).all fun _=>true)=true:=by simp
theorem Pw{z:Zed} {bl:List (Code×Pos)} {a b:Addr} {vs ws:Array Value} {L:List Nat} {e e2 n t g:Nat} (hv:NatL vs L) (hw:NatL ws L):
  Does z (.call (.builtin "list.__ne__") ⟨[.ref a,.ref b],[]⟩) bl [(a,Aa vs e),(b,Aa ws e2)] n t g (.ok (.ret (.bool false))) [(a,Aa vs e),(b,Aa ws e2)] n (t+0) g:=
 Iq fun A s R k _ hR=>by
  have ha:=k _ (.head _)
  have hb:=k _ (.tail _ (.head _))
  have hsz:vs.size=ws.size:=hv.size.trans hw.size.symm
  refine Al F.slot_list_ne ⟨_,ha,rfl⟩ F.entry_list_ne (F.args_list_ne_2 _ _) (list_neAt a b vs ws e e2 none none #[] #[] hsz (fun _=>true)) ⟨ha,hb,fun j h1 h2=>?_,?_⟩
  ·refine Af fun Gz hGz=>?_
   obtain ⟨t1,e1⟩:=hv.nth (i:=j) (by rw [← hv.size];exact h1)
   obtain ⟨t2,e2⟩:=hw.nth (i:=j) (by rw [← hw.size];exact h2)
   rw [Array.getElem?_eq_getElem h1] at e1
   rw [Array.getElem?_eq_getElem h2] at e2
   refine hGz ?_
   rw [Option.some.inj e1,Option.some.inj e2]
   have h:(((L.getD j 0:Nat):Int) == ((L.getD j 0:Nat):Int))=true:=by simp
   rw [← h]
   exact EqAt.int_int _ t1 _ t2
  ·rw [Lp];exact hR
theorem Aav{A:Around}{s:Shared}{l b:Addr}{x y z:Int}{t1 t2 t3 t4 t5 t6:Nat} (hl:s.heap.get? l=some (Ix x t1 y t2 z t3)) (hb:s.heap.get? b=some (Ix x t4 y t5 z t6)) (hu:A.units < cLine):EqAt A s (.ref l) (.ref b) true:=by
 by_cases h:l=b
 ·rw [h];exact EqAt.same _
 ·refine EqAt.of_refs h ?_
  have:=RcAt.tuples (A:=A) (s:=s) (l:=l) (b:=b) (items:=#[.int x t1,.int y t2,.int z t3]) (items2:=#[.int x t4,.int y t5,.int z t6]) (e:=fun _=>true) ⟨_,hl,rfl,_,rfl⟩ ⟨_,hb,rfl,_,rfl⟩ hu fun j h1 h2=>by
   match j,h1,h2 with
   |0,_,_=>have:=EqAt.int_int (A:=A.in1) (s:=s) x t1 x t4;rw [beq_self_eq_true] at this;exact this
   |1,_,_=>have:=EqAt.int_int (A:=A.in1) (s:=s) y t2 y t5;rw [beq_self_eq_true] at this;exact this
   |2,_,_=>have:=EqAt.int_int (A:=A.in1) (s:=s) z t3 z t6;rw [beq_self_eq_true] at this;exact this
   |j+3,h1,_=>exact absurd h1 (by simp)
  exact this
theorem Uk{L:List TE}{s:Shared}(k:∀q∈Au L,s.heap.get? q.1=some q.2)(j:Nat) (h:j < (Ay L).size):∃e:TE,(Cn L)[j]?=some (e.a,e.b,e.c)∧(Ay L)[j]=.ref (e.y+310)∧s.heap.get? (e.y+310)=some (Ix (e.a:Int) e.ta (e.b:Int) e.tb (e.c:Int) e.tc):=by
 have hj:j < L.length:=by rw [← Ev];exact h
 refine ⟨L[j],?_,?_,?_⟩
 ·simp [Cn,hj]
 ·simp [Ay]
 ·exact k (L[j].ob) (List.mem_map.mpr ⟨L[j],List.getElem_mem hj,rfl⟩)
theorem Un{A:Around}{L M:List TE}{s:Shared}(hv:Cn L=Cn M)(kL:∀q∈Au L,s.heap.get? q.1=some q.2)(kM:∀q∈Au M,s.heap.get? q.1=some q.2)(hu:A.units < cLine)(j:Nat) (h1:j < (Ay L).size) (h2:j < (Ay M).size):EqAt A s (Ay L)[j] (Ay M)[j] true:=by
 refine Af fun Gz hGz=>?_
 obtain ⟨e,v1,r1,g1⟩:=Uk kL j h1
 obtain ⟨f,v2,r2,g2⟩:=Uk kM j h2
 rw [hv,v2] at v1
 have:=Option.some.inj v1
 refine hGz ?_
 rw [r1,r2]
 have a1:f.a=e.a:=congrArg (·.1) this
 have a2:f.b=e.b:=congrArg (·.2.1) this
 have a3:f.c=e.c:=congrArg (·.2.2) this
 rw [a1,a2,a3] at g2
 exact Aav g1 g2 hu
theorem Ql{L M:List TE}(hv:Cn L=Cn M):(Ay L).size=(Ay M).size:=by
 rw [Ev,Ev]
 have:=congrArg List.length hv
 simpa [Cn] using this
theorem Z1{z:Zed}{S:Nat→Slot}{a b:Addr}{L M:List TE}{e e2 n t g:Nat}(hv:Cn L=Cn M):
  Does z (.call (.builtin "list.__ne__") ⟨[.ref a,.ref b],[]⟩) (Ab [kF,kB] S 0) ([(a,Aa (Ay L) e),(b,Aa (Ay M) e2)]++(Au L++Au M)) n t g (.ok (.ret (.bool false))) ([(a,Aa (Ay L) e),(b,Aa (Ay M) e2)]++(Au L++Au M)) n t g:=by
 intro s p St
 have k:=St.knows
 have ha:=k _ (.head _)
 have hb:=k _ (.tail _ (.head _))
 have kL:∀q∈Au L,s.heap.get? q.1=some q.2:=fun q hq=>k q (List.mem_append_right _ (List.mem_append_left _ hq))
 have kM:∀q∈Au M,s.heap.get? q.1=some q.2:=fun q hq=>k q (List.mem_append_right _ (List.mem_append_right _ hq))
 refine Ds (Al F.slot_list_ne ⟨_,ha,rfl⟩ F.entry_list_ne (F.args_list_ne_2 _ _) (list_neAt a b _ _ e e2 none none #[] #[] (Ql hv) (fun _=>true)) ⟨ha,hb,fun j h1 h2=>Un hv kL kM ?_ j h1 h2,?_⟩)
 ·show unitsOf (Ab [kF,kB] S 0)+_ < cLine
  exact Nat.le_of_ble_eq_true (by kernel_rfl)
 ·rw [Lp]
  exact ⟨rfl,St,⟨fun _ _ e _=>e,fun _ _=>rfl,Nat.le_refl _,Nat.le_refl _⟩⟩
noncomputable def A6e(e:Expr):Expr:=match e with
 |.ListComp x _ _ _=>x
 |_=>default
def Ac2(e:Expr)(i:Nat):Expr:=match e with
 |.Tuple l _ _=>A51 l i
 |_=>default
def bjE(P:Params):Expr:=Hr (Hr (Nu P 12) 0) 0
def bjV(P:Params)(n D:Nat):Env:=E6 (bjE P) (Iy P n) (D+310) []
def wjE(P:Params):Expr:=Hr (Hr (Nu P 15) 0) 0
def wjV(P:Params)(n D:Nat):Env:=E6 (wjE P) (Iy P n) (D+310) []
def duE(P:Params):Expr:=Nu P 13
def duV(P:Params)(n D zc:Nat):Env:=E6 (duE P) (Iy P n) (D+310) [(Str.ofString "size",zc+310),(Str.ofString "votes",n+315),(Str.ofString "seats",n+311)]
def owE(P:Params):Expr:=Nu P 17
def owV(P:Params)(n D zc:Nat):Env:=E6 (owE P) (Iy P n) (D+310) [(Str.ofString "size",zc+310),(Str.ofString "votes",n+315),(Str.ofString "bound",n+314)]
def diE(P:Params):Expr:=Hr (Or (Ac2 (A6e (duE P)) 2)) 0
def diV(P:Params)(n D zc d:Nat):Env:=E6 (diE P) (duV P n D zc) (d+310) [(Str.ofString "size",zc+310)]
def oiE(P:Params):Expr:=Hr (Or (Ac2 (A6e (owE P)) 1)) 0
def oiV(P:Params)(n D zc d:Nat):Env:=E6 (oiE P) (owV P n D zc) (d+310) [(Str.ofString "size",zc+310)]
def bjC(P:Params)(n it acc D:Nat):Code:=.compStart (bjE P) 0 (.ref (it+310)) (.ref (acc+310)) (bjV P n D)
def Qi(P:Params)(n it acc D:Nat):Code:=.compLoop (bjE P) 0 (.ref (it+310)) (.ref (acc+310)) (bjV P n D)
def wjC(P:Params)(n it acc D:Nat):Code:=.compStart (wjE P) 0 (.ref (it+310)) (.ref (acc+310)) (wjV P n D)
def Qn(P:Params)(n it acc D:Nat):Code:=.compLoop (wjE P) 0 (.ref (it+310)) (.ref (acc+310)) (wjV P n D)
def duC(P:Params)(n it acc D zc:Nat):Code:=.compStart (duE P) 0 (.ref (it+310)) (.ref (acc+310)) (duV P n D zc)
def Pj(P:Params)(n it acc D zc:Nat):Code:=.compLoop (duE P) 0 (.ref (it+310)) (.ref (acc+310)) (duV P n D zc)
def owC(P:Params)(n it acc D zc:Nat):Code:=.compStart (owE P) 0 (.ref (it+310)) (.ref (acc+310)) (owV P n D zc)
def Po(P:Params)(n it acc D zc:Nat):Code:=.compLoop (owE P) 0 (.ref (it+310)) (.ref (acc+310)) (owV P n D zc)
def diC(P:Params)(n D zc it acc d:Nat):Code:=.compStart (diE P) 0 (.ref (it+310)) (.ref (acc+310)) (diV P n D zc d)
def Pm(P:Params)(n D zc it acc d:Nat):Code:=.compLoop (diE P) 0 (.ref (it+310)) (.ref (acc+310)) (diV P n D zc d)
def oiC(P:Params)(n D zc it acc d:Nat):Code:=.compStart (oiE P) 0 (.ref (it+310)) (.ref (acc+310)) (oiV P n D zc d)
def Qr(P:Params)(n D zc it acc d:Nat):Code:=.compLoop (oiE P) 0 (.ref (it+310)) (.ref (acc+310)) (oiV P n D zc d)
abbrev Q38(s1:Str)(u1:Nat)(t2:Nat)(n:Nat)(g:Nat)(s2:Str)(u2:Nat)(t3:Nat):=(qC (.call (.builtin "str.__add__") ⟨[.str s1 u1,.str (⟨#[9]⟩:Str) (t2+598)],[]⟩) [] (n+310) (t2+599) g (.ok (.ret (.str s2 u2))) [] [] [] (n+310) (t3+598) g:Ah)
def Jf(w:World)(n t g c it acc D:Nat)(o:OV)(e:Nat)(Lx i:Nat)(ls:Array Value)(el:Nat)(xi:Int)(tx:Nat)(s1 s2:Str)(u1 u2 t2 t3:Nat)(X:Nat→Value)(jj:Nat):List Ah:=[Q1 it Lx i ls el n t g (.ok (.ret (.int xi tx))) 3 (Ad (Lx+310) (i+1)) [] 310,
 J5 xi tx 1 (t+600) (n+310) (t+601) g,
 Q27 (Str.ofString " ") t 599 (xi - 1) (t+601) n 310 602 g s1 u1 t2,
 Q38 s1 u1 t2 n g s2 u2 t3]
noncomputable def Acp(w:World)(os:OsState)(S:Nat→Slot)(n:Nat)(t:Nat)(g:Nat)(c:Nat)(it:Nat)(acc:Nat)(D:Nat)(e:Nat)(Lx:Nat)(i:Nat)(ls:Array Value)(el:Nat)(xi:Int)(tx:Nat)(s1:Str)(s2:Str)(u1:Nat)(u2:Nat)(t2:Nat)(t3:Nat)(X:Nat→Value)(o:OV)(jj:Nat)(b1 b2:Bool):Ao:=B7 (Ak (Z w os b1 b2) (Ab [kF,kB] S 0) 34 (Qi w.params c it acc D) ([(it+310,Ad (Lx+310) i),(acc+310,Aa (Aq X jj) e),(D+310,Ai w.params "vote" o),(Lx+310,Aa ls el)]) (n+310) (t+598) g A3q (Jf w n t g c it acc D o e Lx i ls el xi tx s1 s2 u1 u2 t2 t3 X jj) []) [0,1,2,3] (Jf w n t g c it acc D o e Lx i ls el xi tx s1 s2 u1 u2 t2 t3 X jj)
noncomputable def Abc(w:World)(os:OsState)(S:Nat→Slot)(n:Nat)(t:Nat)(g:Nat)(c:Nat)(it:Nat)(acc:Nat)(D:Nat)(e:Nat)(Lx:Nat)(i:Nat)(ls:Array Value)(el:Nat)(xi:Int)(tx:Nat)(s1:Str)(s2:Str)(u1:Nat)(u2:Nat)(t2:Nat)(t3:Nat)(X:Nat→Value)(o:OV)(jj:Nat)(b1 b2:Bool):Ao:=B6 (Ak (Z w os b1 b2) (Ab [kF,kB] S 0) 34 (Qi w.params c it acc D) ([(it+310,Ad (Lx+310) i),(acc+310,Aa (Aq X jj) e),(D+310,Ai w.params "vote" o),(Lx+310,Aa ls el)]) (n+310) (t+598) g A3q (Jf w n t g c it acc D o e Lx i ls el xi tx s1 s2 u1 u2 t2 t3 X jj) []) (.again (Qi w.params c it acc D)) ([(it+310,Ad (Lx+310) (i+1)),(acc+310,Aa (Aq (Ck X jj (.str s2 u2)) (jj+1)) (e+1)),(D+310,Ai w.params "vote" (.s (o.key (t+598)) (.int xi tx))),(Lx+310,Aa ls el)]) ([]) (n+310) (t3+598) g (Jf w n t g c it acc D o e Lx i ls el xi tx s1 s2 u1 u2 t2 t3 X jj)
theorem Ajm(w:World)(os:OsState)(S:Nat→Slot)(n:Nat)(t:Nat)(g:Nat)(c:Nat)(it:Nat)(acc:Nat)(D:Nat)(e:Nat)(Lx:Nat)(i:Nat)(ls:Array Value)(el:Nat)(xi:Int)(tx:Nat)(s1:Str)(s2:Str)(u1:Nat)(u2:Nat)(t2:Nat)(t3:Nat)(X:Nat→Value)(o:OV)(jj:Nat)(hj:jj < 5):∀(b1 b2:Bool),Acp w os S n t g c it acc D e Lx i ls el xi tx s1 s2 u1 u2 t2 t3 X o jj b1 b2=Abc w os S n t g c it acc D e Lx i ls el xi tx s1 s2 u1 u2 t2 t3 X o jj b1 b2
 |false,_=>by obtain rfl |rfl |rfl |rfl |rfl:=Ez hj<;>cases o<;>kernel_rfl
 |true,_=>by obtain rfl |rfl |rfl |rfl |rfl:=Ez hj<;>cases o<;>kernel_rfl
theorem A03(n t g c it acc D:Nat)(o:OV)(e:Nat)(Lx i:Nat)(ls:Array Value)(el:Nat)(xi:Int)(tx:Nat)(s1 s2:Str)(u1 u2 t2 t3:Nat)(X:Nat→Value)(jj:Nat)(hj:jj < 5)(b1 b2:Bool) (hL:ObRs (Z w os b1 b2) (Jf w n t g c it acc D o e Lx i ls el xi tx s1 s2 u1 u2 t2 t3 X jj))
  (next:Does (Z w os b1 b2) (Qi w.params c it acc D) (Ab [kF,kB] S 0) ([(it+310,Ad (Lx+310) (i+1)),(acc+310,Aa (Aq (Ck X jj (.str s2 u2)) (jj+1)) (e+1)),(D+310,Ai w.params "vote" (.s (o.key (t+598)) (.int xi tx))),(Lx+310,Aa ls el)]) (n+310) (t3+598) g res l' n' t' g'):Does (Z w os b1 b2) (Qi w.params c it acc D) (Ab [kF,kB] S 0) ([(it+310,Ad (Lx+310) i),(acc+310,Aa (Aq X jj) e),(D+310,Ai w.params "vote" o),(Lx+310,Aa ls el)]) (n+310) (t+598) g res l' n' t' g':=
 B2 34 A3q [0,1,2,3] hL next (by kernel_rfl) (by decide) (fun p=>congrFun (Ajm w os S n t g c it acc D e Lx i ls el xi tx s1 s2 u1 u2 t2 t3 X o jj hj b1 b2) p)
noncomputable def Aek(b1 b2:Bool):Nat:=match b2 with
 |false=>11
 |true=>1
def Adh(b1 b2:Bool):Nat:=match b2 with
 |false=>Kb
 |true=>0
theorem A07(n t g c it acc D:Nat)(Lx:Nat)(ls:Array Value)(el:Nat)(b1 b2:Bool) (hL:ObRs (Z w os b1 b2) [])
  (next:Does (Z w os b1 b2) (Qi w.params c it acc D) (Ab [kF,kB] S 0) ([(it+310,Ad (Lx+310) 0),(acc+310,Aa #[] 0),(D+310,An #[] 0),(Lx+310,Aa ls el)]) (n+310) (t+598) g res l' n' t' g'):Does (Z w os b1 b2) (bjC w.params c it acc D) (Ab [kF,kB] S 0) ([(it+310,Ad (Lx+310) 0),(acc+310,Aa #[] 0),(D+310,An #[] 0),(Lx+310,Aa ls el)]) (n+310) (t+598) g res l' n' t' g':=
 E5 Aek Adh [0,1,2,3] hL next
theorem Xi(n t g c it acc D Lx i:Nat)(ls:Array Value)(el:Nat)(b1 b2:Bool) (hL:ObRs (Z w os b1 b2) [Q1 it Lx i ls el n t g (.error (.ref (n+311))) 1 (Ar i) [(n+310,Cg #[]),(n+311,(At ((n+310).add 0)))] 312]):Does (Z w os b1 b2) (Qi w.params c it acc D) (Ab [kF,kB] S 0) ([(it+310,Ad (Lx+310) i),(Lx+310,Aa ls el)]) (n+310) (t+598) g (.ok .next) ([(it+310,(Ar i)),(Lx+310,(Aa ls el))]) (n+312) (t+598) g:=
 Ce 4 0x14082 [0,1] hL
def K1(w:World)(n t g c it acc D:Nat)(o:OV)(e:Nat)(Lx i:Nat)(ls:Array Value)(el:Nat)(xi:Int)(tx:Nat)(s1 s2:Str)(u1 u2 t2 t3:Nat)(X:Nat→Value)(jj:Nat):List Ah:=[Q1 it Lx i ls el n t g (.ok (.ret (.int xi tx))) 3 (Ad (Lx+310) (i+1)) [] 310,
 Q27 (Str.ofString " ") t 599 xi tx n 310 600 g s1 u1 t2,
 Q38 s1 u1 t2 n g s2 u2 t3]
noncomputable def Ac9(w:World)(os:OsState)(S:Nat→Slot)(n:Nat)(t:Nat)(g:Nat)(c:Nat)(it:Nat)(acc:Nat)(D:Nat)(e:Nat)(Lx:Nat)(i:Nat)(ls:Array Value)(el:Nat)(xi:Int)(tx:Nat)(s1:Str)(s2:Str)(u1:Nat)(u2:Nat)(t2:Nat)(t3:Nat)(X:Nat→Value)(o:OV)(jj:Nat)(b1 b2:Bool):Ao:=B7 (Ak (Z w os b1 b2) (Ab [kF,kB] S 0) 31 (Qn w.params c it acc D) ([(it+310,Ad (Lx+310) i),(acc+310,Aa (Aq X jj) e),(D+310,Ai w.params "vote" o),(Lx+310,Aa ls el)]) (n+310) (t+598) g A4b (K1 w n t g c it acc D o e Lx i ls el xi tx s1 s2 u1 u2 t2 t3 X jj) []) [0,1,2,3] (K1 w n t g c it acc D o e Lx i ls el xi tx s1 s2 u1 u2 t2 t3 X jj)
noncomputable def Aeh(w:World)(os:OsState)(S:Nat→Slot)(n:Nat)(t:Nat)(g:Nat)(c:Nat)(it:Nat)(acc:Nat)(D:Nat)(e:Nat)(Lx:Nat)(i:Nat)(ls:Array Value)(el:Nat)(xi:Int)(tx:Nat)(s1:Str)(s2:Str)(u1:Nat)(u2:Nat)(t2:Nat)(t3:Nat)(X:Nat→Value)(o:OV)(jj:Nat)(b1 b2:Bool):Ao:=B6 (Ak (Z w os b1 b2) (Ab [kF,kB] S 0) 31 (Qn w.params c it acc D) ([(it+310,Ad (Lx+310) i),(acc+310,Aa (Aq X jj) e),(D+310,Ai w.params "vote" o),(Lx+310,Aa ls el)]) (n+310) (t+598) g A4b (K1 w n t g c it acc D o e Lx i ls el xi tx s1 s2 u1 u2 t2 t3 X jj) []) (.again (Qn w.params c it acc D)) ([(it+310,Ad (Lx+310) (i+1)),(acc+310,Aa (Aq (Ck X jj (.str s2 u2)) (jj+1)) (e+1)),(D+310,Ai w.params "vote" (.s (o.key (t+598)) (.int xi tx))),(Lx+310,Aa ls el)]) ([]) (n+310) (t3+598) g (K1 w n t g c it acc D o e Lx i ls el xi tx s1 s2 u1 u2 t2 t3 X jj)
theorem Aim(w:World)(os:OsState)(S:Nat→Slot)(n:Nat)(t:Nat)(g:Nat)(c:Nat)(it:Nat)(acc:Nat)(D:Nat)(e:Nat)(Lx:Nat)(i:Nat)(ls:Array Value)(el:Nat)(xi:Int)(tx:Nat)(s1:Str)(s2:Str)(u1:Nat)(u2:Nat)(t2:Nat)(t3:Nat)(X:Nat→Value)(o:OV)(jj:Nat)(hj:jj < 5):∀(b1 b2:Bool),Ac9 w os S n t g c it acc D e Lx i ls el xi tx s1 s2 u1 u2 t2 t3 X o jj b1 b2=Aeh w os S n t g c it acc D e Lx i ls el xi tx s1 s2 u1 u2 t2 t3 X o jj b1 b2
 |false,_=>by obtain rfl |rfl |rfl |rfl |rfl:=Ez hj<;>cases o<;>kernel_rfl
 |true,_=>by obtain rfl |rfl |rfl |rfl |rfl:=Ez hj<;>cases o<;>kernel_rfl
theorem A0k(n t g c it acc D:Nat)(o:OV)(e:Nat)(Lx i:Nat)(ls:Array Value)(el:Nat)(xi:Int)(tx:Nat)(s1 s2:Str)(u1 u2 t2 t3:Nat)(X:Nat→Value)(jj:Nat)(hj:jj < 5)(b1 b2:Bool) (hL:ObRs (Z w os b1 b2) (K1 w n t g c it acc D o e Lx i ls el xi tx s1 s2 u1 u2 t2 t3 X jj))
  (next:Does (Z w os b1 b2) (Qn w.params c it acc D) (Ab [kF,kB] S 0) ([(it+310,Ad (Lx+310) (i+1)),(acc+310,Aa (Aq (Ck X jj (.str s2 u2)) (jj+1)) (e+1)),(D+310,Ai w.params "vote" (.s (o.key (t+598)) (.int xi tx))),(Lx+310,Aa ls el)]) (n+310) (t3+598) g res l' n' t' g'):Does (Z w os b1 b2) (Qn w.params c it acc D) (Ab [kF,kB] S 0) ([(it+310,Ad (Lx+310) i),(acc+310,Aa (Aq X jj) e),(D+310,Ai w.params "vote" o),(Lx+310,Aa ls el)]) (n+310) (t+598) g res l' n' t' g':=
 B2 31 A4b [0,1,2,3] hL next (by kernel_rfl) (by decide) (fun p=>congrFun (Aim w os S n t g c it acc D e Lx i ls el xi tx s1 s2 u1 u2 t2 t3 X o jj hj b1 b2) p)
noncomputable def Ad7(b1 b2:Bool):Nat:=match b2 with
 |false=>11
 |true=>1
def Aan(b1 b2:Bool):Nat:=match b2 with
 |false=>Kb
 |true=>0
theorem Zc(n t g c it acc D:Nat)(Lx:Nat)(ls:Array Value)(el:Nat)(b1 b2:Bool) (hL:ObRs (Z w os b1 b2) [])
  (next:Does (Z w os b1 b2) (Qn w.params c it acc D) (Ab [kF,kB] S 0) ([(it+310,Ad (Lx+310) 0),(acc+310,Aa #[] 0),(D+310,An #[] 0),(Lx+310,Aa ls el)]) (n+310) (t+598) g res l' n' t' g'):Does (Z w os b1 b2) (wjC w.params c it acc D) (Ab [kF,kB] S 0) ([(it+310,Ad (Lx+310) 0),(acc+310,Aa #[] 0),(D+310,An #[] 0),(Lx+310,Aa ls el)]) (n+310) (t+598) g res l' n' t' g':=
 E5 Ad7 Aan [0,1,2,3] hL next
theorem Zx(n t g c it acc D Lx i:Nat)(ls:Array Value)(el:Nat)(b1 b2:Bool) (hL:ObRs (Z w os b1 b2) [Q1 it Lx i ls el n t g (.error (.ref (n+311))) 1 (Ar i) [(n+310,Cg #[]),(n+311,(At ((n+310).add 0)))] 312]):Does (Z w os b1 b2) (Qn w.params c it acc D) (Ab [kF,kB] S 0) ([(it+310,Ad (Lx+310) i),(Lx+310,Aa ls el)]) (n+310) (t+598) g (.ok .next) ([(it+310,(Ar i)),(Lx+310,(Aa ls el))]) (n+312) (t+598) g:=
 Ce 4 0x14082 [0,1] hL
def Je(w:World)(n t g c it acc D zc d:Nat)(o:OV)(e:Nat)(Lx i:Nat)(ls:Array Value)(el:Nat)(xi:Int)(tx:Nat)(sz:Int)(tz:Nat)(X:Nat→Value)(jj:Nat):List Ah:=[Q1 it Lx i ls el n t g (.ok (.ret (.int xi tx))) 3 (Ad (Lx+310) (i+1)) [] 310,
 Ex xi tx (n+310) (t+599) g,
 C5 (-xi) (t+599) sz tz (n+310) (t+600) g,
 Ex ((-xi).fdiv sz) (t+600) (n+310) (t+601) g]
noncomputable def Ada(w:World)(os:OsState)(S:Nat→Slot)(n:Nat)(t:Nat)(g:Nat)(c:Nat)(it:Nat)(acc:Nat)(D:Nat)(zc:Nat)(d:Nat)(e:Nat)(Lx:Nat)(i:Nat)(ls:Array Value)(el:Nat)(xi:Int)(tx:Nat)(sz:Int)(tz:Nat)(X:Nat→Value)(o:OV)(jj:Nat)(b1 b2:Bool):Ao:=B7 (Ak (Z w os b1 b2) (Ab [kC,kF,kB] S 0) 27 (Pm w.params c D zc it acc d) ([(it+310,Ad (Lx+310) i),(acc+310,Aa (Aq X jj) e),(d+310,Ai w.params "vote" o),(Lx+310,Aa ls el),(zc+310,Ag (.int sz tz))]) (n+310) (t+598) g A2t (Je w n t g c it acc D zc d o e Lx i ls el xi tx sz tz X jj) []) [0,1,2,3,4] (Je w n t g c it acc D zc d o e Lx i ls el xi tx sz tz X jj)
noncomputable def Abf(w:World)(os:OsState)(S:Nat→Slot)(n:Nat)(t:Nat)(g:Nat)(c:Nat)(it:Nat)(acc:Nat)(D:Nat)(zc:Nat)(d:Nat)(e:Nat)(Lx:Nat)(i:Nat)(ls:Array Value)(el:Nat)(xi:Int)(tx:Nat)(sz:Int)(tz:Nat)(X:Nat→Value)(o:OV)(jj:Nat)(b1 b2:Bool):Ao:=B6 (Ak (Z w os b1 b2) (Ab [kC,kF,kB] S 0) 27 (Pm w.params c D zc it acc d) ([(it+310,Ad (Lx+310) i),(acc+310,Aa (Aq X jj) e),(d+310,Ai w.params "vote" o),(Lx+310,Aa ls el),(zc+310,Ag (.int sz tz))]) (n+310) (t+598) g A2t (Je w n t g c it acc D zc d o e Lx i ls el xi tx sz tz X jj) []) (.again (Pm w.params c D zc it acc d)) ([(it+310,Ad (Lx+310) (i+1)),(acc+310,Aa (Aq (Ck X jj (.int (-((-xi).fdiv sz)) (t+601))) (jj+1)) (e+1)),(d+310,Ai w.params "vote" (.s (o.key (t+598)) (.int xi tx))),(Lx+310,Aa ls el),(zc+310,Ag (.int sz tz))]) ([]) (n+310) (t+602) g (Je w n t g c it acc D zc d o e Lx i ls el xi tx sz tz X jj)
theorem Aig(w:World)(os:OsState)(S:Nat→Slot)(n:Nat)(t:Nat)(g:Nat)(c:Nat)(it:Nat)(acc:Nat)(D:Nat)(zc:Nat)(d:Nat)(e:Nat)(Lx:Nat)(i:Nat)(ls:Array Value)(el:Nat)(xi:Int)(tx:Nat)(sz:Int)(tz:Nat)(X:Nat→Value)(o:OV)(jj:Nat)(hj:jj < 5):∀(b1 b2:Bool),Ada w os S n t g c it acc D zc d e Lx i ls el xi tx sz tz X o jj b1 b2=Abf w os S n t g c it acc D zc d e Lx i ls el xi tx sz tz X o jj b1 b2
 |false,_=>by obtain rfl |rfl |rfl |rfl |rfl:=Ez hj<;>cases o<;>kernel_rfl
 |true,_=>by obtain rfl |rfl |rfl |rfl |rfl:=Ez hj<;>cases o<;>kernel_rfl
theorem Z4(n t g c it acc D zc d:Nat)(o:OV)(e:Nat)(Lx i:Nat)(ls:Array Value)(el:Nat)(xi:Int)(tx:Nat)(sz:Int)(tz:Nat)(X:Nat→Value)(jj:Nat)(hj:jj < 5)(b1 b2:Bool) (hL:ObRs (Z w os b1 b2) (Je w n t g c it acc D zc d o e Lx i ls el xi tx sz tz X jj))
  (next:Does (Z w os b1 b2) (Pm w.params c D zc it acc d) (Ab [kC,kF,kB] S 0) ([(it+310,Ad (Lx+310) (i+1)),(acc+310,Aa (Aq (Ck X jj (.int (-((-xi).fdiv sz)) (t+601))) (jj+1)) (e+1)),(d+310,Ai w.params "vote" (.s (o.key (t+598)) (.int xi tx))),(Lx+310,Aa ls el),(zc+310,Ag (.int sz tz))]) (n+310) (t+602) g res l' n' t' g'):Does (Z w os b1 b2) (Pm w.params c D zc it acc d) (Ab [kC,kF,kB] S 0) ([(it+310,Ad (Lx+310) i),(acc+310,Aa (Aq X jj) e),(d+310,Ai w.params "vote" o),(Lx+310,Aa ls el),(zc+310,Ag (.int sz tz))]) (n+310) (t+598) g res l' n' t' g':=
 B2 27 A2t [0,1,2,3,4] hL next (by kernel_rfl) (by decide) (fun p=>congrFun (Aig w os S n t g c it acc D zc d e Lx i ls el xi tx sz tz X o jj hj b1 b2) p)
def Ki(w:World)(n t g c it acc D zc d:Nat)(o:OV)(e:Nat)(Lx i:Nat)(ls:Array Value)(el:Nat)(xi:Int)(tx:Nat)(sz:Int)(tz:Nat)(X:Nat→Value)(jj:Nat):List Ah:=[Q1 it Lx i ls el n t g (.ok (.ret (.int xi tx))) 3 (Ad (Lx+310) (i+1)) [] 310,
 C5 xi tx sz tz (n+310) (t+599) g,
 B5 (xi.fdiv sz) (t+599) 1 (t+600) (n+310) (t+601) g]
noncomputable def Aao(w:World)(os:OsState)(S:Nat→Slot)(n:Nat)(t:Nat)(g:Nat)(c:Nat)(it:Nat)(acc:Nat)(D:Nat)(zc:Nat)(d:Nat)(e:Nat)(Lx:Nat)(i:Nat)(ls:Array Value)(el:Nat)(xi:Int)(tx:Nat)(sz:Int)(tz:Nat)(X:Nat→Value)(o:OV)(jj:Nat)(b1 b2:Bool):Ao:=B7 (Ak (Z w os b1 b2) (Ab [kC,kF,kB] S 0) 26 (Qr w.params c D zc it acc d) ([(it+310,Ad (Lx+310) i),(acc+310,Aa (Aq X jj) e),(d+310,Ai w.params "vote" o),(Lx+310,Aa ls el),(zc+310,Ag (.int sz tz))]) (n+310) (t+598) g A3w (Ki w n t g c it acc D zc d o e Lx i ls el xi tx sz tz X jj) []) [0,1,2,3,4] (Ki w n t g c it acc D zc d o e Lx i ls el xi tx sz tz X jj)
noncomputable def Abs(w:World)(os:OsState)(S:Nat→Slot)(n:Nat)(t:Nat)(g:Nat)(c:Nat)(it:Nat)(acc:Nat)(D:Nat)(zc:Nat)(d:Nat)(e:Nat)(Lx:Nat)(i:Nat)(ls:Array Value)(el:Nat)(xi:Int)(tx:Nat)(sz:Int)(tz:Nat)(X:Nat→Value)(o:OV)(jj:Nat)(b1 b2:Bool):Ao:=B6 (Ak (Z w os b1 b2) (Ab [kC,kF,kB] S 0) 26 (Qr w.params c D zc it acc d) ([(it+310,Ad (Lx+310) i),(acc+310,Aa (Aq X jj) e),(d+310,Ai w.params "vote" o),(Lx+310,Aa ls el),(zc+310,Ag (.int sz tz))]) (n+310) (t+598) g A3w (Ki w n t g c it acc D zc d o e Lx i ls el xi tx sz tz X jj) []) (.again (Qr w.params c D zc it acc d)) ([(it+310,Ad (Lx+310) (i+1)),(acc+310,Aa (Aq (Ck X jj (.int (xi.fdiv sz+1) (t+601))) (jj+1)) (e+1)),(d+310,Ai w.params "vote" (.s (o.key (t+598)) (.int xi tx))),(Lx+310,Aa ls el),(zc+310,Ag (.int sz tz))]) ([]) (n+310) (t+602) g (Ki w n t g c it acc D zc d o e Lx i ls el xi tx sz tz X jj)
theorem Ajr(w:World)(os:OsState)(S:Nat→Slot)(n:Nat)(t:Nat)(g:Nat)(c:Nat)(it:Nat)(acc:Nat)(D:Nat)(zc:Nat)(d:Nat)(e:Nat)(Lx:Nat)(i:Nat)(ls:Array Value)(el:Nat)(xi:Int)(tx:Nat)(sz:Int)(tz:Nat)(X:Nat→Value)(o:OV)(jj:Nat)(hj:jj < 5):∀(b1 b2:Bool),Aao w os S n t g c it acc D zc d e Lx i ls el xi tx sz tz X o jj b1 b2=Abs w os S n t g c it acc D zc d e Lx i ls el xi tx sz tz X o jj b1 b2
 |false,_=>by obtain rfl |rfl |rfl |rfl |rfl:=Ez hj<;>cases o<;>kernel_rfl
 |true,_=>by obtain rfl |rfl |rfl |rfl |rfl:=Ez hj<;>cases o<;>kernel_rfl
theorem Yv(n t g c it acc D zc d:Nat)(o:OV)(e:Nat)(Lx i:Nat)(ls:Array Value)(el:Nat)(xi:Int)(tx:Nat)(sz:Int)(tz:Nat)(X:Nat→Value)(jj:Nat)(hj:jj < 5)(b1 b2:Bool) (hL:ObRs (Z w os b1 b2) (Ki w n t g c it acc D zc d o e Lx i ls el xi tx sz tz X jj))
  (next:Does (Z w os b1 b2) (Qr w.params c D zc it acc d) (Ab [kC,kF,kB] S 0) ([(it+310,Ad (Lx+310) (i+1)),(acc+310,Aa (Aq (Ck X jj (.int (xi.fdiv sz+1) (t+601))) (jj+1)) (e+1)),(d+310,Ai w.params "vote" (.s (o.key (t+598)) (.int xi tx))),(Lx+310,Aa ls el),(zc+310,Ag (.int sz tz))]) (n+310) (t+602) g res l' n' t' g'):Does (Z w os b1 b2) (Qr w.params c D zc it acc d) (Ab [kC,kF,kB] S 0) ([(it+310,Ad (Lx+310) i),(acc+310,Aa (Aq X jj) e),(d+310,Ai w.params "vote" o),(Lx+310,Aa ls el),(zc+310,Ag (.int sz tz))]) (n+310) (t+598) g res l' n' t' g':=
 B2 26 A3w [0,1,2,3,4] hL next (by kernel_rfl) (by decide) (fun p=>congrFun (Ajr w os S n t g c it acc D zc d e Lx i ls el xi tx sz tz X o jj hj b1 b2) p)
noncomputable def Abn(b1 b2:Bool):Nat:=match b2 with
 |false=>11
 |true=>1
def Af4(b1 b2:Bool):Nat:=match b2 with
 |false=>Kb
 |true=>0
theorem Xy(n t g c it acc D zc d:Nat)(Lx:Nat)(ls:Array Value)(el:Nat)(sz:Int)(tz:Nat)(b1 b2:Bool) (hL:ObRs (Z w os b1 b2) [])
  (next:Does (Z w os b1 b2) (Pm w.params c D zc it acc d) (Ab [kC,kF,kB] S 0) ([(it+310,Ad (Lx+310) 0),(acc+310,Aa #[] 0),(d+310,An #[] 0),(Lx+310,Aa ls el),(zc+310,Ag (.int sz tz))]) (n+310) (t+598) g res l' n' t' g'):Does (Z w os b1 b2) (diC w.params c D zc it acc d) (Ab [kC,kF,kB] S 0) ([(it+310,Ad (Lx+310) 0),(acc+310,Aa #[] 0),(d+310,An #[] 0),(Lx+310,Aa ls el),(zc+310,Ag (.int sz tz))]) (n+310) (t+598) g res l' n' t' g':=
 E5 Abn Af4 [0,1,2,3,4] hL next
theorem Zb(n t g c it acc D zc d Lx i:Nat)(ls:Array Value)(el:Nat)(b1 b2:Bool) (hL:ObRs (Z w os b1 b2) [Q1 it Lx i ls el n t g (.error (.ref (n+311))) 1 (Ar i) [(n+310,Cg #[]),(n+311,(At ((n+310).add 0)))] 312]):Does (Z w os b1 b2) (Pm w.params c D zc it acc d) (Ab [kC,kF,kB] S 0) ([(it+310,Ad (Lx+310) i),(Lx+310,Aa ls el)]) (n+310) (t+598) g (.ok .next) ([(it+310,(Ar i)),(Lx+310,(Aa ls el))]) (n+312) (t+598) g:=
 Ce 4 0x14082 [0,1] hL
noncomputable def Afh(b1 b2:Bool):Nat:=match b2 with
 |false=>11
 |true=>1
def Afd(b1 b2:Bool):Nat:=match b2 with
 |false=>Kb
 |true=>0
theorem Zv(n t g c it acc D zc d:Nat)(Lx:Nat)(ls:Array Value)(el:Nat)(sz:Int)(tz:Nat)(b1 b2:Bool) (hL:ObRs (Z w os b1 b2) [])
  (next:Does (Z w os b1 b2) (Qr w.params c D zc it acc d) (Ab [kC,kF,kB] S 0) ([(it+310,Ad (Lx+310) 0),(acc+310,Aa #[] 0),(d+310,An #[] 0),(Lx+310,Aa ls el),(zc+310,Ag (.int sz tz))]) (n+310) (t+598) g res l' n' t' g'):Does (Z w os b1 b2) (oiC w.params c D zc it acc d) (Ab [kC,kF,kB] S 0) ([(it+310,Ad (Lx+310) 0),(acc+310,Aa #[] 0),(d+310,An #[] 0),(Lx+310,Aa ls el),(zc+310,Ag (.int sz tz))]) (n+310) (t+598) g res l' n' t' g':=
 E5 Afh Afd [0,1,2,3,4] hL next
theorem Z5(n t g c it acc D zc d Lx i:Nat)(ls:Array Value)(el:Nat)(b1 b2:Bool) (hL:ObRs (Z w os b1 b2) [Q1 it Lx i ls el n t g (.error (.ref (n+311))) 1 (Ar i) [(n+310,Cg #[]),(n+311,(At ((n+310).add 0)))] 312]):Does (Z w os b1 b2) (Qr w.params c D zc it acc d) (Ab [kC,kF,kB] S 0) ([(it+310,Ad (Lx+310) i),(Lx+310,Aa ls el)]) (n+310) (t+598) g (.ok .next) ([(it+310,(Ar i)),(Lx+310,(Aa ls el))]) (n+312) (t+598) g:=
 Ce 4 0x14082 [0,1] hL
noncomputable def Ld:Obj:={cls:=.type "cell",data:=.cell none}
abbrev Q24(x0_:Nat)(x1_:Nat) x2_ (n2:Nat) (x3_:Nat) (x4_:Nat) (x5_:Nat) (g:Nat) x6_ x7_ x8_ x9_ x10_ (x11_:Nat) (x12_:Nat):=(qC (.call (.builtin "sum") ⟨[.ref (x0_+x1_)],[]⟩) [(x0_+x1_,x2_)] (n2+x3_) (x4_+x5_) g (.ok (.ret (.int x6_ x7_))) [x8_] [(Aa x9_ x10_)] [] (n2+x11_) (x12_+598) g:Ah)
def Kc(w:World)(n t g c it acc D zc:Nat)(co:Option Value)(e:Nat)(i left:Int)(Va:Nat)(vs:Array Value)(ev:Nat)(st:Int)(ts:Nat)(cs:Array Value)(ec j1 kk n2 t2 t3:Nat)(vv:Value)(sm:Int)(sd:Nat)(X:Nat→Value)(jj:Nat)(ps:LO):List Ah:=[Q0 it i left n t g (.ok (.ret (.int i (t+598)))) 0 (i+1) (left - 1) [] 310 599,
 Dn i (t+598) st ts (n+310) (t+599) g,
 qK [kC,kF,kB] (diC w.params c D zc n (n+1) (n+2)) [(n+310,Ad (Va+310) 0),(Va+310,Aa vs ev),(n+311,Aa #[] 0),(n+312,An #[] 0),(zc+310,Ag (.int i (t+598)))] (n+313) (t+600) g (.ok .next) [7,5,8,9,3] [Ar j1,Aa vs ev,Aa cs ec,Ai w.params "vote" (.s kk vv),Ag (.int i (t+598))] [] (n2+310) (t2+598) g,
 Q24 n 311 (Aa cs ec) n2 310 t2 598 g sm sd 8 cs ec 314 t3,
 Dn i (t+598) sm sd (n2+314) (t3+598) g]
noncomputable def Adk(w:World)(os:OsState)(S:Nat→Slot)(n:Nat)(t:Nat)(g:Nat)(c:Nat)(it:Nat)(acc:Nat)(D:Nat)(zc:Nat)(co:Option Value)(e:Nat)(i:Int)(left:Int)(Va:Nat)(vs:Array Value)(ev:Nat)(st:Int)(ts:Nat)(cs:Array Value)(ec:Nat)(j1:Nat)(kk:Nat)(n2:Nat)(t2:Nat)(t3:Nat)(vv:Value)(sm:Int)(sd:Nat)(X:Nat→Value)(ps:LO)(jj:Nat)(b1 b2:Bool):Ao:=B7 (Ak (Z w os b1 b2) (Ab [kF,kB] S 0) 55 (Pj w.params c it acc D zc) ([(it+310,Ac i left 1),(acc+310,Aa (Aq X jj) e),(D+310,An #[] 0),(zc+310,{cls:=.type "cell",data:=.cell co}),(c+315,Ag (.ref (Va+310))),(Va+310,Aa vs ev),(c+311,Ag (.int st ts))]) (n+310) (t+598) g A4q (Kc w n t g c it acc D zc co e i left Va vs ev st ts cs ec j1 kk n2 t2 t3 vv sm sd X jj ps) ps) [0,1,2,3,4,5,6,10] (Kc w n t g c it acc D zc co e i left Va vs ev st ts cs ec j1 kk n2 t2 t3 vv sm sd X jj ps)
noncomputable def Ab9(w:World)(os:OsState)(S:Nat→Slot)(n:Nat)(t:Nat)(g:Nat)(c:Nat)(it:Nat)(acc:Nat)(D:Nat)(zc:Nat)(co:Option Value)(e:Nat)(i:Int)(left:Int)(Va:Nat)(vs:Array Value)(ev:Nat)(st:Int)(ts:Nat)(cs:Array Value)(ec:Nat)(j1:Nat)(kk:Nat)(n2:Nat)(t2:Nat)(t3:Nat)(vv:Value)(sm:Int)(sd:Nat)(X:Nat→Value)(ps:LO)(jj:Nat)(b1 b2:Bool):Ao:=B6 (Ak (Z w os b1 b2) (Ab [kF,kB] S 0) 55 (Pj w.params c it acc D zc) ([(it+310,Ac i left 1),(acc+310,Aa (Aq X jj) e),(D+310,An #[] 0),(zc+310,{cls:=.type "cell",data:=.cell co}),(c+315,Ag (.ref (Va+310))),(Va+310,Aa vs ev),(c+311,Ag (.int st ts))]) (n+310) (t+598) g A4q (Kc w n t g c it acc D zc co e i left Va vs ev st ts cs ec j1 kk n2 t2 t3 vv sm sd X jj ps) ps) (.again (Pj w.params c it acc D zc)) ([(it+310,Ac (i+1) (left-1) 1),(acc+310,Aa (Aq (Ck X jj (.ref (n2+314))) (jj+1)) (e+1)),(D+310,An #[] 0),(zc+310,Ag (.int i (t+598))),(c+315,Ag (.ref (Va+310))),(Va+310,Aa vs ev),(c+311,Ag (.int st ts)),(n2+314,Ix i (t+598) (i*st) (t+599) (i*sm) (t3+598))]) ps (n2+315) (t3+599) g (Kc w n t g c it acc D zc co e i left Va vs ev st ts cs ec j1 kk n2 t2 t3 vv sm sd X jj ps)
theorem Ail(w:World)(os:OsState)(S:Nat→Slot)(n:Nat)(t:Nat)(g:Nat)(c:Nat)(it:Nat)(acc:Nat)(D:Nat)(zc:Nat)(co:Option Value)(e:Nat)(i:Int)(left:Int)(Va:Nat)(vs:Array Value)(ev:Nat)(st:Int)(ts:Nat)(cs:Array Value)(ec:Nat)(j1:Nat)(kk:Nat)(n2:Nat)(t2:Nat)(t3:Nat)(vv:Value)(sm:Int)(sd:Nat)(X:Nat→Value)(ps:LO)(jj:Nat)(hj:jj < 6):∀(b1 b2:Bool),Adk w os S n t g c it acc D zc co e i left Va vs ev st ts cs ec j1 kk n2 t2 t3 vv sm sd X ps jj b1 b2=Ab9 w os S n t g c it acc D zc co e i left Va vs ev st ts cs ec j1 kk n2 t2 t3 vv sm sd X ps jj b1 b2
 |false,_=>by obtain rfl |rfl |rfl |rfl |rfl |rfl:=Oo hj<;>kernel_rfl
 |true,_=>by obtain rfl |rfl |rfl |rfl |rfl |rfl:=Oo hj<;>kernel_rfl
theorem Zu(n t g c it acc D zc:Nat)(co:Option Value)(e:Nat)(i left:Int)(Va:Nat)(vs:Array Value)(ev:Nat)(st:Int)(ts:Nat)(cs:Array Value)(ec j1 kk n2 t2 t3:Nat)(vv:Value)(sm:Int)(sd:Nat)(X:Nat→Value)(jj:Nat)(ps:LO)(hj:jj < 6)(b1 b2:Bool) (hL:ObRs (Z w os b1 b2) (Kc w n t g c it acc D zc co e i left Va vs ev st ts cs ec j1 kk n2 t2 t3 vv sm sd X jj ps))
  (next:Does (Z w os b1 b2) (Pj w.params c it acc D zc) (Ab [kF,kB] S 0) (([(it+310,Ac (i+1) (left-1) 1),(acc+310,Aa (Aq (Ck X jj (.ref (n2+314))) (jj+1)) (e+1)),(D+310,An #[] 0),(zc+310,Ag (.int i (t+598))),(c+315,Ag (.ref (Va+310))),(Va+310,Aa vs ev),(c+311,Ag (.int st ts)),(n2+314,Ix i (t+598) (i*st) (t+599) (i*sm) (t3+598))])++ps) (n2+315) (t3+599) g res l' n' t' g'):Does (Z w os b1 b2) (Pj w.params c it acc D zc) (Ab [kF,kB] S 0) (([(it+310,Ac i left 1),(acc+310,Aa (Aq X jj) e),(D+310,An #[] 0),(zc+310,{cls:=.type "cell",data:=.cell co}),(c+315,Ag (.ref (Va+310))),(Va+310,Aa vs ev),(c+311,Ag (.int st ts))])++ps) (n+310) (t+598) g res l' n' t' g':=
 Bz 55 A4q [0,1,2,3,4,5,6,10] hL next (by kernel_rfl) (by decide) (fun p=>congrFun (Ail w os S n t g c it acc D zc co e i left Va vs ev st ts cs ec j1 kk n2 t2 t3 vv sm sd X ps jj hj b1 b2) p)
noncomputable def Adl(b1 b2:Bool):Nat:=match b2 with
 |false=>11
 |true=>1
def Aee(b1 b2:Bool):Nat:=match b2 with
 |false=>Kb
 |true=>0
theorem Xp(n t g c it acc D zc:Nat)(i left:Int)(Va:Nat)(vs:Array Value)(ev:Nat)(st:Int)(ts:Nat)(b1 b2:Bool) (hL:ObRs (Z w os b1 b2) [])
  (next:Does (Z w os b1 b2) (Pj w.params c it acc D zc) (Ab [kF,kB] S 0) ([(it+310,Ac i left 1),(acc+310,Aa #[] 0),(D+310,An #[] 0),(zc+310,Ld),(c+315,Ag (.ref (Va+310))),(Va+310,Aa vs ev),(c+311,Ag (.int st ts))]) (n+310) (t+598) g res l' n' t' g'):Does (Z w os b1 b2) (duC w.params c it acc D zc) (Ab [kF,kB] S 0) ([(it+310,Ac i left 1),(acc+310,Aa #[] 0),(D+310,An #[] 0),(zc+310,Ld),(c+315,Ag (.ref (Va+310))),(Va+310,Aa vs ev),(c+311,Ag (.int st ts))]) (n+310) (t+598) g res l' n' t' g':=
 E5 Adl Aee [0,1,2,3,4,5,6] hL next
theorem Yp(n t g c it acc D zc:Nat)(i:Int)(ps:LO)(b1 b2:Bool) (hL:ObRs (Z w os b1 b2) [Q0 it i 0 n t g (.error (.ref (n+311))) 0 i 0 [(n+310,Cg #[]),(n+311,(At ((n+310).add 0)))] 312 598]):Does (Z w os b1 b2) (Pj w.params c it acc D zc) (Ab [kF,kB] S 0) (([(it+310,Ac i 0 1)])++ps) (n+310) (t+598) g (.ok .next) (([(it+310,(Ac i 0 1))])++ps) (n+312) (t+598) g:=
 L4 4 0x10082 [0] hL
def K9(w:World)(n t g c it acc D zc:Nat)(co:Option Value)(e:Nat)(i left:Int)(Va:Nat)(vs:Array Value)(ev:Nat)(st:Int)(ts:Nat)(cs:Array Value)(ec j1 kk n2 t2 t3:Nat)(vv:Value)(sm:Int)(sd:Nat)(X:Nat→Value)(jj:Nat)(ps:LO):List Ah:=[Q0 it i left n t g (.ok (.ret (.int i (t+598)))) 0 (i+1) (left - 1) [] 310 599,
 qK [kC,kF,kB] (oiC w.params c D zc n (n+1) (n+2)) [(n+310,Ad (Va+310) 0),(Va+310,Aa vs ev),(n+311,Aa #[] 0),(n+312,An #[] 0),(zc+310,Ag (.int i (t+598)))] (n+313) (t+599) g (.ok .next) [7,5,8,9,3] [Ar j1,Aa vs ev,Aa cs ec,Ai w.params "vote" (.s kk vv),Ag (.int i (t+598))] [] (n2+310) (t2+598) g,
 Q24 n 311 (Aa cs ec) n2 310 t2 598 g sm sd 8 cs ec 314 t3,
 Dn i (t+598) sm sd (n2+314) (t3+598) g,
 Dn i (t+598) st ts (n2+314) (t3+599) g]
noncomputable def Abv(w:World)(os:OsState)(S:Nat→Slot)(n:Nat)(t:Nat)(g:Nat)(c:Nat)(it:Nat)(acc:Nat)(D:Nat)(zc:Nat)(co:Option Value)(e:Nat)(i:Int)(left:Int)(Va:Nat)(vs:Array Value)(ev:Nat)(st:Int)(ts:Nat)(cs:Array Value)(ec:Nat)(j1:Nat)(kk:Nat)(n2:Nat)(t2:Nat)(t3:Nat)(vv:Value)(sm:Int)(sd:Nat)(X:Nat→Value)(ps:LO)(jj:Nat)(b1 b2:Bool):Ao:=B7 (Ak (Z w os b1 b2) (Ab [kF,kB] S 0) 55 (Po w.params c it acc D zc) ([(it+310,Ac i left 1),(acc+310,Aa (Aq X jj) e),(D+310,An #[] 0),(zc+310,{cls:=.type "cell",data:=.cell co}),(c+315,Ag (.ref (Va+310))),(Va+310,Aa vs ev),(c+314,Ag (.int st ts))]) (n+310) (t+598) g A4h (K9 w n t g c it acc D zc co e i left Va vs ev st ts cs ec j1 kk n2 t2 t3 vv sm sd X jj ps) ps) [0,1,2,3,4,5,6,10] (K9 w n t g c it acc D zc co e i left Va vs ev st ts cs ec j1 kk n2 t2 t3 vv sm sd X jj ps)
noncomputable def Aeq(w:World)(os:OsState)(S:Nat→Slot)(n:Nat)(t:Nat)(g:Nat)(c:Nat)(it:Nat)(acc:Nat)(D:Nat)(zc:Nat)(co:Option Value)(e:Nat)(i:Int)(left:Int)(Va:Nat)(vs:Array Value)(ev:Nat)(st:Int)(ts:Nat)(cs:Array Value)(ec:Nat)(j1:Nat)(kk:Nat)(n2:Nat)(t2:Nat)(t3:Nat)(vv:Value)(sm:Int)(sd:Nat)(X:Nat→Value)(ps:LO)(jj:Nat)(b1 b2:Bool):Ao:=B6 (Ak (Z w os b1 b2) (Ab [kF,kB] S 0) 55 (Po w.params c it acc D zc) ([(it+310,Ac i left 1),(acc+310,Aa (Aq X jj) e),(D+310,An #[] 0),(zc+310,{cls:=.type "cell",data:=.cell co}),(c+315,Ag (.ref (Va+310))),(Va+310,Aa vs ev),(c+314,Ag (.int st ts))]) (n+310) (t+598) g A4h (K9 w n t g c it acc D zc co e i left Va vs ev st ts cs ec j1 kk n2 t2 t3 vv sm sd X jj ps) ps) (.again (Po w.params c it acc D zc)) ([(it+310,Ac (i+1) (left-1) 1),(acc+310,Aa (Aq (Ck X jj (.ref (n2+314))) (jj+1)) (e+1)),(D+310,An #[] 0),(zc+310,Ag (.int i (t+598))),(c+315,Ag (.ref (Va+310))),(Va+310,Aa vs ev),(c+314,Ag (.int st ts)),(n2+314,Ix i (t+598) (i*sm) (t3+598) (i*st) (t3+599))]) ps (n2+315) (t3+600) g (K9 w n t g c it acc D zc co e i left Va vs ev st ts cs ec j1 kk n2 t2 t3 vv sm sd X jj ps)
theorem Aih(w:World)(os:OsState)(S:Nat→Slot)(n:Nat)(t:Nat)(g:Nat)(c:Nat)(it:Nat)(acc:Nat)(D:Nat)(zc:Nat)(co:Option Value)(e:Nat)(i:Int)(left:Int)(Va:Nat)(vs:Array Value)(ev:Nat)(st:Int)(ts:Nat)(cs:Array Value)(ec:Nat)(j1:Nat)(kk:Nat)(n2:Nat)(t2:Nat)(t3:Nat)(vv:Value)(sm:Int)(sd:Nat)(X:Nat→Value)(ps:LO)(jj:Nat)(hj:jj < 6):∀(b1 b2:Bool),Abv w os S n t g c it acc D zc co e i left Va vs ev st ts cs ec j1 kk n2 t2 t3 vv sm sd X ps jj b1 b2=Aeq w os S n t g c it acc D zc co e i left Va vs ev st ts cs ec j1 kk n2 t2 t3 vv sm sd X ps jj b1 b2
 |false,_=>by obtain rfl |rfl |rfl |rfl |rfl |rfl:=Oo hj<;>kernel_rfl
 |true,_=>by obtain rfl |rfl |rfl |rfl |rfl |rfl:=Oo hj<;>kernel_rfl
theorem Xw(n t g c it acc D zc:Nat)(co:Option Value)(e:Nat)(i left:Int)(Va:Nat)(vs:Array Value)(ev:Nat)(st:Int)(ts:Nat)(cs:Array Value)(ec j1 kk n2 t2 t3:Nat)(vv:Value)(sm:Int)(sd:Nat)(X:Nat→Value)(jj:Nat)(ps:LO)(hj:jj < 6)(b1 b2:Bool) (hL:ObRs (Z w os b1 b2) (K9 w n t g c it acc D zc co e i left Va vs ev st ts cs ec j1 kk n2 t2 t3 vv sm sd X jj ps))
  (next:Does (Z w os b1 b2) (Po w.params c it acc D zc) (Ab [kF,kB] S 0) (([(it+310,Ac (i+1) (left-1) 1),(acc+310,Aa (Aq (Ck X jj (.ref (n2+314))) (jj+1)) (e+1)),(D+310,An #[] 0),(zc+310,Ag (.int i (t+598))),(c+315,Ag (.ref (Va+310))),(Va+310,Aa vs ev),(c+314,Ag (.int st ts)),(n2+314,Ix i (t+598) (i*sm) (t3+598) (i*st) (t3+599))])++ps) (n2+315) (t3+600) g res l' n' t' g'):Does (Z w os b1 b2) (Po w.params c it acc D zc) (Ab [kF,kB] S 0) (([(it+310,Ac i left 1),(acc+310,Aa (Aq X jj) e),(D+310,An #[] 0),(zc+310,{cls:=.type "cell",data:=.cell co}),(c+315,Ag (.ref (Va+310))),(Va+310,Aa vs ev),(c+314,Ag (.int st ts))])++ps) (n+310) (t+598) g res l' n' t' g':=
 Bz 55 A4h [0,1,2,3,4,5,6,10] hL next (by kernel_rfl) (by decide) (fun p=>congrFun (Aih w os S n t g c it acc D zc co e i left Va vs ev st ts cs ec j1 kk n2 t2 t3 vv sm sd X ps jj hj b1 b2) p)
noncomputable def Abg(b1 b2:Bool):Nat:=match b2 with
 |false=>11
 |true=>1
def A9z(b1 b2:Bool):Nat:=match b2 with
 |false=>Kb
 |true=>0
theorem Zt(n t g c it acc D zc:Nat)(i left:Int)(Va:Nat)(vs:Array Value)(ev:Nat)(st:Int)(ts:Nat)(b1 b2:Bool) (hL:ObRs (Z w os b1 b2) [])
  (next:Does (Z w os b1 b2) (Po w.params c it acc D zc) (Ab [kF,kB] S 0) ([(it+310,Ac i left 1),(acc+310,Aa #[] 0),(D+310,An #[] 0),(zc+310,Ld),(c+315,Ag (.ref (Va+310))),(Va+310,Aa vs ev),(c+314,Ag (.int st ts))]) (n+310) (t+598) g res l' n' t' g'):Does (Z w os b1 b2) (owC w.params c it acc D zc) (Ab [kF,kB] S 0) ([(it+310,Ac i left 1),(acc+310,Aa #[] 0),(D+310,An #[] 0),(zc+310,Ld),(c+315,Ag (.ref (Va+310))),(Va+310,Aa vs ev),(c+314,Ag (.int st ts))]) (n+310) (t+598) g res l' n' t' g':=
 E5 Abg A9z [0,1,2,3,4,5,6] hL next
theorem Yj(n t g c it acc D zc:Nat)(i:Int)(ps:LO)(b1 b2:Bool) (hL:ObRs (Z w os b1 b2) [Q0 it i 0 n t g (.error (.ref (n+311))) 0 i 0 [(n+310,Cg #[]),(n+311,(At ((n+310).add 0)))] 312 598]):Does (Z w os b1 b2) (Po w.params c it acc D zc) (Ab [kF,kB] S 0) (([(it+310,Ac i 0 1)])++ps) (n+310) (t+598) g (.ok .next) (([(it+310,(Ac i 0 1))])++ps) (n+312) (t+598) g:=
 L4 4 0x10082 [0] hL
end Mine
namespace Mine
open PySem PySem.W PySem.W.X PyProof.Rows PySem.MeetsSeq PySem.SeqAt
variable {w:World}{os:OsState}{S:Nat→Slot}{res:Result}{l':LO}{n' t' g':Nat}
theorem Tb{x y:Str}{tx ty t:Nat} (hy:(y.length == 0)=false) (hz:(x++y).length≤sizeLine):∃(tk d:Nat),∀(z:Zed) (bl:List (Code×Pos)) (n g:Nat),Does z (.call (.builtin "str.__add__") ⟨[.str x tx,.str y ty],[]⟩) bl [] n t g (.ok (.ret (.str (x++y) tk))) [] n (t+d) g:=by
 cases hx:x.length == 0 with
 |true=>
  have e:x++y=y:=by
   have h0:x.cps.size=0:=by simpa [Str.length] using hx
   show (⟨x.cps++y.cps⟩:Str)=y
   rw [Array.size_eq_zero_iff.mp h0];simp
  refine I0 ty 0 (fun z bl n g=>Cu (d:=0) fun A s R k ht hR=>Al F.slot_str_add (typeIs_str s x tx) F.entry_str_add (F.args_str_add_2 _ _) (gives_str_add x y tx ty).meets ?_)
  rw [hx]
  rw [e] at hR
  exact hR
 |false=>
  refine I0 t 1 (fun z bl n g=>Cu (d:=1) fun A s R k ht hR=>Al F.slot_str_add (typeIs_str s x tx) F.entry_str_add (F.args_str_add_2 _ _) (gives_str_add x y tx ty).meets ?_)
  rw [hx,hy]
  subst ht
  exact ⟨hz,hR⟩
theorem A06{z:Zed}{S:Nat→Slot}{a b:Addr}{L M:List TE}{e e2 n t g:Nat}(hv:Cn L=Cn M):
  Does z (.call (.builtin "list.__eq__") ⟨[.ref a,.ref b],[]⟩) (Ab [kF,kB] S 0) ([(a,Aa (Ay L) e),(b,Aa (Ay M) e2)]++(Au L++Au M)) n t g (.ok (.ret (.bool true))) ([(a,Aa (Ay L) e),(b,Aa (Ay M) e2)]++(Au L++Au M)) n t g:=by
 intro s p St
 have k:=St.knows
 have ha:=k _ (.head _)
 have hb:=k _ (.tail _ (.head _))
 have kL:∀q∈Au L,s.heap.get? q.1=some q.2:=fun q hq=>k q (List.mem_append_right _ (List.mem_append_left _ hq))
 have kM:∀q∈Au M,s.heap.get? q.1=some q.2:=fun q hq=>k q (List.mem_append_right _ (List.mem_append_right _ hq))
 refine Ds (Al F.slot_list_eq ⟨_,ha,rfl⟩ F.entry_list_eq (F.args_list_eq_2 _ _) (list_eqAt a b _ _ e e2 none none #[] #[] (Ql hv) (fun _=>true)) ⟨ha,hb,fun j h1 h2=>Un hv kL kM ?_ j h1 h2,?_⟩)
 ·show unitsOf (Ab [kF,kB] S 0)+_ < cLine
  exact Nat.le_of_ble_eq_true (by kernel_rfl)
 ·rw [Lp]
  exact ⟨rfl,St,⟨fun _ _ e _=>e,fun _ _=>rfl,Nat.le_refl _,Nat.le_refl _⟩⟩
noncomputable def cu(v h:Nat):Nat:=(v+h - 1) / h
theorem Yl{v h:Nat}(hh:1≤h):-((-(v:Int)).fdiv (h:Int))=((cu v h:Nat):Int):=by
 have h1:cu v h*h≤v+h - 1:=Nat.div_mul_le_self ..
 have h2:v+h - 1 < (cu v h+1)*h:=by
  have a:=Nat.div_add_mod (v+h - 1) h
  have b:=Nat.mod_lt (v+h - 1) (show 0 < h from hh)
  rw [Nat.add_mul,Nat.one_mul,Nat.mul_comm]
  show v+h - 1 < h*((v+h - 1) / h)+h
  lia
 generalize cu v h=q at *
 rw [Nat.add_mul,Nat.one_mul] at h2
 have e:(-(v:Int)).fdiv (h:Int)=-(q:Int):=by
  rw [Int.fdiv_eq_ediv_of_nonneg _ (Int.natCast_nonneg h)]
  have a1:-(q:Int)≤-(v:Int) / (h:Int):=by
   rw [Int.le_ediv_iff_mul_le (by exact N8 hh),Int.neg_mul]
   have:((q*h:Nat):Int)=(q:Int)*(h:Int):=Int.natCast_mul ..
   lia
  have a2:-(v:Int) / (h:Int) < -(q:Int)+1:=by
   rw [Int.ediv_lt_iff_lt_mul (by exact N8 hh),Int.add_mul,Int.neg_mul]
   have:((q*h:Nat):Int)=(q:Int)*(h:Int):=Int.natCast_mul ..
   lia
  lia
 rw [e];lia
noncomputable def mn2(a x:Int):Int:=if x < a then x else a
def Nb(m:Int)(l:List Int):Int:=l.foldl mn2 m
theorem Acl{prog:Program}{w:World}{A:Around}{x m:Int}{t u:Nat}{s:Shared}{Q:Value→Shared→Prop}{E:Value→Shared→Prop} (hQ:Q (.bool (decide (x < m))) s):wpAny (model prog w) A (richCompare .Lt (.int x t) (.int m u)) Q E s:=by
 have h:=CmpOf.ints_lt (prog:=prog) (w:=w) (A:=A) (P:=fun i v=>if i=0 then v=.int m u else v=.int x t) (fun i=>if i=0 then m else x) (fun i v h=>by
  by_cases hi:i=0
  ·simp only [hi,if_true] at h ⊢;exact ⟨u,h⟩
  ·simp only [hi,if_false] at h ⊢;exact ⟨t,h⟩)
 exact h 1 0 _ _ s Q E (by simp) (by simp) hQ
theorem A46{vs:Array Value}{L:List Int}(hI:IntsL vs L):
  ∀(k i:Nat) (m:Int) (tm:Nat),i+k=L.length→∃tk,∀(prog:Program) (w:World) (A:Around) (R:Result→Shared→Prop) (it b S:Addr) (ep e2:Nat) (s:Shared),A.handled=none→it≠b→it≠S→b≠S→s.heap.get? it=some (Ad b i)→s.heap.get? b=some (Aa vs ep)→s.heap.get? S=some (Aa #[.int m tm,.int m tm] e2) →
  (∀s',SumPost it S s s' 2 0→R (.ok (.ret (.int (Nb m (L.drop i)) tk))) s')→codeAny (model prog w) A (.builtin "min.loop" ⟨[.ref it,.none,.ref S],[]⟩) R s:=by
 have hname:(toString "min"++toString ".loop":String)="min.loop":=by decide
 intro k
 induction k with
 |zero=>
  intro i m tm hk
  refine ⟨tm,fun prog w A R it b S ep e2 s hh h1 h2 h3 hit hb hS hR=>?_⟩
  have hsz:=hI.size
  have hx:vs[i]?=none:=Array.getElem?_eq_none (by lia)
  refine codeAny_builtin F.entry_min_loop ?_
  rw [Around.under_plainId F.plain_min_loop _]
  show wpAny _ A.in1 (seqItems? (.ref S) >>= _) _ _ s
  refine wpAny_bind (wpAny_seqItems hS rfl ?_)
  show wpAny _ A.in1 (tryCatch (pyNext (.ref it)) _ >>= _) _ _ s
  have hs:Heap.SameBut it s.heap (s.heap.update it (Obj.mapFields fun v=>v.setIfInBounds 0 .none)):=Heap.SameBut.update ..
  refine wpAny_bind (wpAny_tryCatch (Np hh hit hb hx ?_))
  have hS':(((s.heap.update it (Obj.mapFields fun v=>v.setIfInBounds 0 .none)).push Br).push (At s.heap.objs.size)).get? S=some (Aa #[.int m tm,.int m tm] e2):=
   Heap.get?_push_of_some _ (Heap.get?_push_of_some _ ((hs.2 S fun w=>h2 w.symm).trans hS))
  show wpAny _ A.in1 (updateSeq S (fun _=>#[]) >>= _) _ _ _
  refine wpAny_bind (wpAny_updateSeq hS' rfl (wpAny_bind (wpAny_letGo (wpAny_pure ?_))))
  have R1:=hR {s with heap:=((((s.heap.update it (Obj.mapFields fun v=>v.setIfInBounds 0 .none)).push Br).push (At s.heap.objs.size)).update S (Obj.mapSeq fun _=>#[]))}
   ⟨by show (((((s.heap.update it (Obj.mapFields fun v=>v.setIfInBounds 0 .none)).push Br).push (At s.heap.objs.size)).update S (Obj.mapSeq fun _=>#[]))).objs.size=_
       rw [(Heap.SameBut.update ..).1,Heap.size_push,Heap.size_push,hs.1],rfl,rfl,rfl,fun x o e n1 n2=>(Heap.get?_update_other _ _ (Ne.symm n2)).trans (Heap.get?_push_of_some _ (Heap.get?_push_of_some _ ((hs.2 x n1).trans e)))⟩
  rw [List.drop_of_length_le (by exact Mz hk)] at R1
  exact R1
 |succ k ih=>
  intro i m tm hk
  have hsz:=hI.size
  have hi:i < L.length:=by exact E1 hk
  refine Af fun Gz hGz=>?_
  obtain ⟨t,hx⟩:=hI.nth hi
  obtain ⟨tk,IH⟩:=ih (i+1) (if L[i] < m then L[i] else m) (if L[i] < m then t else tm) (E4 hk)
  refine hGz ?_
  refine ⟨tk,fun prog w A R it b S ep e2 s hh h1 h2 h3 hit hb hS hR=>?_⟩
  have hs:Heap.SameBut it s.heap (s.heap.update it (Obj.mapFields fun v=>v.setIfInBounds 1 (rawInt ((i:Int)+1)))):=Heap.SameBut.update ..
  have hf:Obj.mapFields (fun v=>v.setIfInBounds 1 (rawInt ((i:Int)+1))) (Ad b i)=Ad b (i+1):=by
   show ({cls:=_,dict:=_,data:=.fields (#[Value.ref b,Value.int (i:Int) 0].setIfInBounds 1 (rawInt ((i:Int)+1))),slots:=_}:Obj)=_
   simp [Ad,rawInt]
  have hit':(s.heap.update it (Obj.mapFields fun v=>v.setIfInBounds 1 (rawInt ((i:Int)+1)))).get? it=some (Ad b (i+1)):=by
   have:=Heap.get?_update_self (Obj.mapFields fun v=>v.setIfInBounds 1 (rawInt ((i:Int)+1))) hit (by rw [hf];rfl)
   rw [hf] at this;exact this
  have hb':=(hs.2 b fun w=>h1 w.symm).trans hb
  have hS':=(hs.2 S fun w=>h2 w.symm).trans hS
  have hdrop:L.drop i=L[i]::L.drop (i+1):=List.drop_eq_getElem_cons hi
  refine codeAny_builtin F.entry_min_loop ?_
  rw [Around.under_plainId F.plain_min_loop _]
  show wpAny _ A.in1 (seqItems? (.ref S) >>= _) _ _ s
  refine wpAny_bind (wpAny_seqItems hS rfl ?_)
  show wpAny _ A.in1 (tryCatch (pyNext (.ref it)) _ >>= _) _ _ s
  refine wpAny_bind (wpAny_tryCatch (H9 hit hb hx ?_))
  show wpAny _ A.in1 (tryCatch (holding [Value.int L[i] t,Value.int L[i] t] (richCompare .Lt (.int L[i] t) (.int m tm) >>= _)) _ >>= _) _ _ _
  refine wpAny_bind (wpAny_tryCatch (wpAny_holding (wpAny_bind (Acl ?_))))
  refine wpAny_bind (wpAny_holding (wpAny_truthy_bool ?_))
  refine wpAny_bind (wpAny_letGo (wpAny_pure ?_))
  have go:∀(H:Heap) (m':Int) (tm':Nat),m'=(if L[i] < m then L[i] else m)→tm'=(if L[i] < m then t else tm)→H.objs.size=s.heap.objs.size→H.get? it=some (Ad b (i+1))→H.get? b=some (Aa vs ep)→H.get? S=some (Aa #[.int m' tm',.int m' tm'] e2)→(∀x o,s.heap.get? x=some o→x≠it→x≠S→H.get? x=some o) →
    codeAny (model prog w) A (.builtin "min.loop" ⟨[.ref it,.none,.ref S],[]⟩) R {s with heap:=H,toks:=s.toks+0}:=fun H m' tm' q0 q1 q2 q3 q4 q5 q6=>by
   subst q0 q1
   refine IH prog w A R it b S ep e2 {s with heap:=H,toks:=s.toks+0} hh h1 h2 h3 q3 q4 q5 fun s' P=>?_
   have P0:SumPost it S s {s with heap:=H,toks:=s.toks+0} 0 0:=⟨q2,rfl,rfl,rfl,q6⟩
   have PP:=P0.trans P
   have R1:=hR s' ⟨by have:=PP.size;exact this,by have:=PP.toks;exact this,PP.gens,PP.os,PP.keep⟩
   rw [hdrop] at R1
   exact R1
  cases hb2:decide (L[i] < m) with
  |true=>
   simp only [if_true]
   refine wpAny_bind ?_
   refine wpAny_updateSeq hS' rfl (wpAny_bind (wpAny_letGo ?_))
   rw [hname]
   refine wpAny_pure ⟨plainId_quiet F.plain_min_loop _,?_⟩
   have u1:=Heap.SameBut.update (a:=S) (f:=Obj.mapSeq fun _=>#[Value.int L[i] t,Value.int L[i] t]) (h:=s.heap.update it (Obj.mapFields fun v=>v.setIfInBounds 1 (rawInt ((i:Int)+1))))
   exact go _ L[i] t (by rw [if_pos (of_decide_eq_true hb2)]) (by rw [if_pos (of_decide_eq_true hb2)]) (u1.1.trans hs.1) ((u1.2 it h2).trans hit') ((u1.2 b h3).trans hb') (Heap.get?_update_self _ hS' rfl) fun x o e n1 n2=>(u1.2 x n2).trans ((hs.2 x n1).trans e)
  |false=>
   simp only [Bool.false_eq_true,if_false]
   refine wpAny_bind (wpAny_letGo ?_)
   rw [hname]
   refine wpAny_pure ⟨plainId_quiet F.plain_min_loop _,?_⟩
   exact go _ m tm (by rw [if_neg (of_decide_eq_false hb2)]) (by rw [if_neg (of_decide_eq_false hb2)]) hs.1 hit' hb' hS' fun x o e n1 n2=>(hs.2 x n1).trans e
theorem A1h{vs:Array Value}{x:Int}{L:List Int} (hI:IntsL vs (x::L)):∃tk,∀(z:Zed) (bl:List (Code×Pos)) (b:Addr) (ep n t g:Nat),
  Does z (.call (.builtin "min") ⟨[.ref b],[]⟩) bl [(b,Aa vs ep)] n t g (.ok (.ret (.int (Nb x L) tk))) [(b,Aa vs ep)] (n+4) t g:=by
 refine Af fun Gz hGz=>?_
 obtain ⟨t0,hx⟩:=hI.nth (i:=0) (by simp)
 obtain ⟨tk,ML⟩:=A46 hI L.length 1 x t0 (by simp;exact Ep)
 refine hGz ?_
 refine ⟨tk,fun z bl b ep n t g=>?_⟩
 intro s p S
 have hb:s.heap.get? b=some (Aa vs ep):=S.knows _ (.head _)
 have hn:=S.hn
 have ht:=S.ht
 have hbn:b < s.heap.objs.size:=Heap.lt_size hb
 have hname:(toString "min"++toString ".loop":String)="min.loop":=by decide
 refine Ds (codeAny_call_builtin F.plain_min F.entry_min (wpAny_of_eq (F.args_min1 _) ?_))
 show wpAny _ _ (Builtin.Builtins.bindParams "min" ["key","default"] 0 ⟨[],[]⟩ >>= _) _ _ s
 refine wpAny_bind (wpAny_of_eq (show Builtin.Builtins.bindParams "min" ["key","default"] 0 ⟨[],[]⟩=pure [none,none] from rfl) ?_)
 refine wpAny_bind (wpAny_pure ?_)
 refine wpAny_bind (wpAny_pyIter_list (items:=vs) ⟨_,hb,rfl,_,rfl⟩ ?_)
 refine wpAny_bind (wpAny_newObj_type ?_)
 rw [hname]
 refine wpAny_pure ⟨plainId_quiet F.plain_min_loop _,?_⟩
 have e1:(s.heap.push (Ad b 0)).objs.size=s.heap.objs.size+1:=Heap.size_push ..
 have g1:(s.heap.push (Ad b 0)).get? s.heap.objs.size=some (Ad b 0):=Heap.get?_push_size _ rfl
 have g2:=Heap.get?_push_size (s.heap.push (Ad b 0)) (o:=Aa #[] 0) rfl
 show codeAny _ _ (.builtin "min.loop" ⟨[.ref s.heap.objs.size,.none,.ref (s.heap.push (Ad b 0)).objs.size],[]⟩) _ {s with heap:=(s.heap.push (Ad b 0)).push (Aa #[] 0)}
 generalize hH:(s.heap.push (Ad b 0)).push (Aa #[] 0)=H at g2
 have k1:H.get? s.heap.objs.size=some (Ad b 0):=by rw [← hH];exact Heap.get?_push_of_some _ g1
 have k2:H.get? b=some (Aa vs ep):=by rw [← hH];exact Heap.get?_push_of_some _ (Heap.get?_push_of_some _ hb)
 have k3:H.objs.size=s.heap.objs.size+2:=by rw [← hH,Heap.size_push,e1]
 have k4:∀x o,s.heap.get? x=some o→H.get? x=some o:=fun x o e=>by rw [← hH];exact Heap.get?_push_of_some _ (Heap.get?_push_of_some _ e)
 generalize hS:(s.heap.push (Ad b 0)).objs.size=sA at g2
 have nSI:s.heap.objs.size≠sA:=by rw [← hS,e1];exact Nat.ne_of_lt (Nat.lt_succ_self _)
 have nSb:b≠sA:=by rw [← hS,e1];exact Nat.ne_of_lt (Nat.lt_succ_of_lt hbn)
 have nIb:s.heap.objs.size≠b:=Nat.ne_of_gt hbn
 refine codeAny_builtin F.entry_min_loop ?_
 rw [Around.under_plainId F.plain_min_loop _]
 show wpAny _ _ (seqItems? (.ref sA) >>= _) _ _ _
 refine wpAny_bind (wpAny_seqItems (s:={s with heap:=H}) g2 rfl ?_)
 show wpAny _ _ (tryCatch (pyNext (.ref s.heap.objs.size)) _ >>= _) _ _ _
 have hs:Heap.SameBut s.heap.objs.size H (H.update s.heap.objs.size (Obj.mapFields fun v=>v.setIfInBounds 1 (rawInt ((0:Nat)+1)))):=Heap.SameBut.update ..
 have hf:Obj.mapFields (fun v=>v.setIfInBounds 1 (rawInt (((0:Nat):Int)+1))) (Ad b 0)=Ad b 1:=by
  show ({cls:=_,dict:=_,data:=.fields (#[Value.ref b,Value.int ((0:Nat):Int) 0].setIfInBounds 1 (rawInt (((0:Nat):Int)+1))),slots:=_}:Obj)=_
  simp [Ad,rawInt]
 have hit':(H.update s.heap.objs.size (Obj.mapFields fun v=>v.setIfInBounds 1 (rawInt (((0:Nat):Int)+1)))).get? s.heap.objs.size=some (Ad b 1):=by
  have:=Heap.get?_update_self (Obj.mapFields fun v=>v.setIfInBounds 1 (rawInt (((0:Nat):Int)+1))) k1 (by rw [hf];rfl)
  rw [hf] at this;exact this
 refine wpAny_bind (wpAny_tryCatch (H9 (s:={s with heap:=H}) k1 k2 hx ?_))
 have hS':=(hs.2 sA fun w=>nSI w.symm).trans g2
 show wpAny _ _ (updateSeq sA (fun _=>#[Value.int x t0,Value.int x t0]) >>= _) _ _ _
 refine wpAny_bind ?_
 refine wpAny_updateSeq hS' rfl ?_
 rw [hname]
 have u1:=Heap.SameBut.update (a:=sA) (f:=Obj.mapSeq fun _=>#[Value.int x t0,Value.int x t0]) (h:=H.update s.heap.objs.size (Obj.mapFields fun v=>v.setIfInBounds 1 (rawInt (((0:Nat):Int)+1))))
 have g5:((H.update s.heap.objs.size (Obj.mapFields fun v=>v.setIfInBounds 1 (rawInt (((0:Nat):Int)+1)))).update sA (Obj.mapSeq fun _=>#[Value.int x t0,Value.int x t0])).get? sA=some (Aa #[.int x t0,.int x t0] _):=Heap.get?_update_self (Obj.mapSeq fun _=>#[Value.int x t0,Value.int x t0]) hS' rfl
 refine wpAny_pure ⟨plainId_quiet F.plain_min_loop _,ML _ _ _ _ s.heap.objs.size b sA ep _ _ (by rfl) nIb nSI nSb ((u1.2 _ nSI).trans hit') ((u1.2 _ nSb).trans ((hs.2 b fun w=>nIb w.symm).trans k2)) g5 fun s' P=>?_⟩
 have size':s'.heap.objs.size=s.heap.objs.size+4:=by
  have:=P.size.trans (congrArg (·+2) (u1.1.trans (hs.1.trans k3)))
  exact this
 have keep':∀y o,s.heap.get? y=some o→s'.heap.get? y=some o:=fun y o e=>by
  have hy:=Heap.lt_size e
  have y1:y≠s.heap.objs.size:=Nat.ne_of_lt hy
  have y2:y≠sA:=by rw [← hS,e1];exact Nat.ne_of_lt (Nat.lt_succ_of_lt hy)
  exact P.keep y o ((u1.2 y y2).trans ((hs.2 y y1).trans (k4 y o e))) y1 y2
 have toks':s'.toks=s.toks:=P.toks
 refine ⟨rfl,⟨S.ok,fun q hq=>?_,S.nodup,S.fit,fun y o e q=>keep' y o (S.stat y o e q),?_,?_,P.os.trans S.os,?_,?_,?_⟩,⟨fun y o e _=>keep' y o e,fun j _=>by rw [P.gens],A4w size',by rw [P.gens];exact Nat.le_refl _⟩⟩
 ·rw [List.mem_singleton.mp hq];exact keep' _ _ hb
 ·have:=S.low;exact Ey this
 ·show AllBare s'.gens
  rw [P.gens];exact S.bare
 ·exact Ve hn size'
 ·lia
 ·rw [P.gens];exact S.hg
section
theorem M8{α:Type}(a b c d:α):[a,b,c,d].Perm [a,c,d,b]:=.cons _ (List.perm_append_comm (l₁:=[b]) (l₂:=[c,d]))
noncomputable def setBy(k:Nat)(o o':OV):Prop:=(k=0∧o'=o)∨∃a b,o'=.s a b
theorem setBy.z{o:OV}:setBy 0 o o:=.inl ⟨rfl,rfl⟩
theorem setBy.t{k k2:Nat}{o o':OV}{a:Nat}{b:Value} (h:setBy k (.s a b) o'):setBy k2 o o':=h.elim (fun h=>.inr ⟨_,_,h.2⟩) .inr
theorem setBy.s{k:Nat}{o o':OV}(h:setBy k o o')(hk:1≤k):∃a b,o'=.s a b:=h.elim (fun h=>absurd h.1 (by lia)) id
noncomputable def TxtL(rs:Array Value)(R:List Str):Prop:=∃l:List (Str×Tok),rs=(strValues l).toArray∧l.map (·.1)=R
theorem TxtL.push{rs:Array Value}{R:List Str}(h:TxtL rs R)(x:Str)(tk:Nat):TxtL (rs.push (.str x tk)) (R++[x]):=by
 refine Af fun Gz hGz=>?_
 obtain ⟨l,rfl,rfl⟩:=h
 refine hGz ?_
 exact ⟨l++[(x,tk)],by simp [strValues],by simp⟩
theorem TxtL.size{rs:Array Value}{R:List Str}(h:TxtL rs R):rs.size=R.length:=by
 refine Af fun Gz hGz=>?_
 obtain ⟨l,rfl,rfl⟩:=h
 refine hGz ?_
 simp [strValues]
noncomputable def fv(x:Int):Nat:=1+(x.fmod 6).toNat
theorem Acx(x:Int):1+x.fmod 6=((fv x:Nat):Int):=by
 have:=Int.fmod_nonneg_of_pos x (show (0:Int) < 6 by decide)
 unfold fv;lia
def My(v:Nat):Str:=Cs (Str.ofString " ") (v - 1)++(⟨#[9]⟩:Str)
def Mo(v:Nat):Str:=Cs (Str.ofString " ") v++(⟨#[9]⟩:Str)
theorem Y0(n:Nat)(hn:n≤6):(Cs (Str.ofString " ") n++(⟨#[9]⟩:Str)).length≤sizeLine:=by
 show ((Cs (Str.ofString " ") n).cps++#[9]).size≤_
 rw [Array.size_append,Ll]
 exact Nat.le_trans (show _≤100 by show n*1+1≤100;lia) (by decide)
theorem Gi{V:List Nat}{p:Nat}(h:p < V.length):V.getD p 0∈V:=by
 rw [List.getD_eq_getElem?_getD,List.getElem?_eq_getElem h]
 exact List.getElem_mem h
theorem Gc{α:Type}{L:List α}{i:Nat}(h:i < L.length):L.drop i=L[i]::L.drop (i+1):=List.drop_eq_getElem_cons h
theorem Ec{V:List Nat}{p:Nat}(h:p < V.length):V.getD p 0=V[p]:=by
 rw [List.getD_eq_getElem?_getD,List.getElem?_eq_getElem h];rfl
section
variable {w:World}{os:OsState}(b1 b2:Bool)(g c it acc D Lx el:Nat)(ls:Array Value)
theorem A88(L:List Int)(hL:IntsL ls L)(h5:L.length≤3)(k:Nat):∀(i n t:Nat) (o:OV) (e:Nat) (rs:Array Value) (R:List Nat),i+k=L.length→R.length=i→NatL rs R →
  ∃(t' e':Nat) (o':OV) (rs':Array Value),NatL rs' (R++(L.drop i).map fv)∧setBy k o o' ∧
  ∀S,Does (Z w os b1 b2) (Qs w.params c it acc D) (Ab [kF,kB] S 0) [(it+310,Ad (Lx+310) i),(acc+310,Aa rs e),(D+310,Ai w.params "number" o),(Lx+310,Aa ls el)] (n+310) (t+598) g (.ok .next) [(it+310,Ar L.length),(acc+310,Aa rs' e'),(D+310,Ai w.params "number" o'),(Lx+310,Aa ls el)] (n+2+310) (t'+598) g:=by
 induction k with
 |zero=>
  intro i n t o e rs R hi hR hr
  obtain rfl:i=L.length:=by exact hi
  refine Ci t e o rs ⟨by rw [List.drop_length];simpa using hr,setBy.z,fun S=>?_⟩
  have X:=(Xk (w:=w) (os:=os) (S:=S) n t g c it acc D Lx L.length ls el b1 b2 ⟨Ae (fun bl=>C3 rfl (by rw [Array.getElem?_eq_none (by rw [hL.size];exact Nat.le_refl _)])) (hn:=by simp),trivial⟩).frame [(acc+310,Aa rs e),(D+310,Ai w.params "number" o)] newer.same
  exact X.perm (M8 ..) (M8 ..)
 |succ k ih=>
  intro i n t o e rs R hi hR hr
  have hiL:i < L.length:=by exact E1 hi
  have hrs:rs.size=i:=by rw [hr.size,hR]
  refine Af fun Gz hGz=>?_
  obtain ⟨X,hX⟩:=D6 rs
  obtain ⟨tx,htx⟩:=hL.nth hiL
  obtain ⟨t',e',o',rs',h2,h3,DD⟩:=ih (i+1) n (t+5) (.s (o.key (t+598)) (.int L[i] tx)) (e+1) (rs.push (.int ((fv L[i]:Nat):Int) (t+602))) (R++[fv L[i]]) (E4 hi) (by rw [List.length_append,List.length_singleton,hR]) (hr.push (fv L[i]) (t+602))
  refine hGz ?_
  refine Ci t' e' o' rs' ⟨?_,h3.t,fun S=>?_⟩
  ·rw [Gc hiL,List.map_cons]
   rw [List.append_assoc] at h2
   first | exact h2 | (rw [Ec hiL] at h2;exact h2)
  ·have DD:=DD S
   have RR:=Zw (w:=w) (os:=os) (S:=S) n t g c it acc D o e Lx i ls el L[i] tx X rs.size (Nh h5 hi hrs) b1 b2
    ⟨Ae fun bl=>Bd rfl htx,Yx (by decide),Aw,trivial⟩ (by
     rw [Acx]
     rw [Cd,← hX]
     exact DD)
   rw [← hX] at RR
   exact RR
theorem A7o(L:List Nat)(hL:NatL ls L)(h5:L.length≤5)(hV:∀v∈L,1≤v∧v≤6)(k:Nat):∀(i n t:Nat) (o:OV) (e:Nat) (rs:Array Value) (R:List Str),i+k=L.length→R.length=i→TxtL rs R →
  ∃(t' e':Nat) (o':OV) (rs':Array Value),TxtL rs' (R++(L.drop i).map My)∧setBy k o o' ∧
  ∀S,Does (Z w os b1 b2) (Qi w.params c it acc D) (Ab [kF,kB] S 0) [(it+310,Ad (Lx+310) i),(acc+310,Aa rs e),(D+310,Ai w.params "vote" o),(Lx+310,Aa ls el)] (n+310) (t+598) g (.ok .next) [(it+310,Ar L.length),(acc+310,Aa rs' e'),(D+310,Ai w.params "vote" o'),(Lx+310,Aa ls el)] (n+2+310) (t'+598) g:=by
 induction k with
 |zero=>
  intro i n t o e rs R hi hR hr
  obtain rfl:i=L.length:=by exact hi
  refine Ci t e o rs ⟨by rw [List.drop_length];simpa using hr,setBy.z,fun S=>?_⟩
  have X:=(Xi (w:=w) (os:=os) (S:=S) n t g c it acc D Lx L.length ls el b1 b2 ⟨Ae (fun bl=>C3 rfl (by rw [Array.getElem?_eq_none (by rw [hL.size];exact Nat.le_refl _)])) (hn:=by simp),trivial⟩).frame [(acc+310,Aa rs e),(D+310,Ai w.params "vote" o)] newer.same
  exact X.perm (M8 ..) (M8 ..)
 |succ k ih=>
  intro i n t o e rs R hi hR hr
  have hiL:i < L.length:=by exact E1 hi
  have hrs:rs.size=i:=by rw [hr.size,hR]
  refine Af fun Gz hGz=>?_
  obtain ⟨X,hX⟩:=D6 rs
  obtain ⟨tx,htx⟩:=hL.nth hiL
  have hv:=hV _ (Gi hiL)
  refine Mi (Tb (x:=Cs (Str.ofString " ") (L.getD i 0 - 1)) (y:=⟨#[9]⟩) (tx:=Fz (((L.getD i 0:Nat):Int) - 1) (t+599) (t+602)) (ty:=t+4+Cj (((L.getD i 0:Nat):Int) - 1)+598) (t:=t+4+Cj (((L.getD i 0:Nat):Int) - 1)+599) (by decide) (Y0 _ (by lia))) fun tk dk DA=>?_
  obtain ⟨t',e',o',rs',h2,h3,DD⟩:=ih (i+1) n (t+4+Cj (((L.getD i 0:Nat):Int) - 1)+1+dk) (.s (o.key (t+598)) (.int ((L.getD i 0:Nat):Int) tx)) (e+1) (rs.push (.str (My (L.getD i 0)) tk)) (R++[My (L.getD i 0)]) (E4 hi) (by rw [List.length_append,List.length_singleton,hR]) (hr.push _ _)
  refine hGz ?_
  refine Ci t' e' o' rs' ⟨?_,h3.t,fun S=>?_⟩
  ·rw [Gc hiL,List.map_cons]
   rw [List.append_assoc] at h2
   first | exact h2 | (rw [Ec hiL] at h2;exact h2)
  ·have DD:=DD S
   have RR:=A03 (w:=w) (os:=os) (S:=S) n t g c it acc D o e Lx i ls el ((L.getD i 0:Nat):Int) tx (Cs (Str.ofString " ") (L.getD i 0 - 1)) (My (L.getD i 0)) (Fz (((L.getD i 0:Nat):Int) - 1) (t+599) (t+602)) tk (t+4+Cj (((L.getD i 0:Nat):Int) - 1)) (t+4+Cj (((L.getD i 0:Nat):Int) - 1)+1+dk) X rs.size (Nh h5 hi hrs) b1 b2
    ⟨Ae fun bl=>Bd rfl htx,I8,Ae fun bl=>by
     have:=Gu (z:=Z w os b1 b2) (bl:=bl) (x:=Str.ofString " ") (ts:=t+599) (tn:=(t+601)) (N:=n+310) (T:=t+602) (g:=g) (n:=((L.getD i 0:Nat):Int) - 1) (by decide) (by lia) (by lia)
     rw [show (((L.getD i 0:Nat):Int) - 1).toNat=(L.getD i 0 - 1) by lia,show t+602+Cj (((L.getD i 0:Nat):Int) - 1)=t+4+Cj (((L.getD i 0:Nat):Int) - 1)+598 by lia] at this
     exact this,Ae fun bl=>by
     have:=DA (Z w os b1 b2) bl (n+310) g
     rw [show t+4+Cj (((L.getD i 0:Nat):Int) - 1)+599+dk=t+4+Cj (((L.getD i 0:Nat):Int) - 1)+1+dk+598 by lia] at this
     exact this,trivial⟩ (by
     skip
     rw [Cd,← hX]
     exact DD)
   rw [← hX] at RR
   exact RR
theorem A85(L:List Nat)(hL:NatL ls L)(h5:L.length≤5)(hV:∀v∈L,v≤6)(k:Nat):∀(i n t:Nat) (o:OV) (e:Nat) (rs:Array Value) (R:List Str),i+k=L.length→R.length=i→TxtL rs R →
  ∃(t' e':Nat) (o':OV) (rs':Array Value),TxtL rs' (R++(L.drop i).map Mo)∧setBy k o o' ∧
  ∀S,Does (Z w os b1 b2) (Qn w.params c it acc D) (Ab [kF,kB] S 0) [(it+310,Ad (Lx+310) i),(acc+310,Aa rs e),(D+310,Ai w.params "vote" o),(Lx+310,Aa ls el)] (n+310) (t+598) g (.ok .next) [(it+310,Ar L.length),(acc+310,Aa rs' e'),(D+310,Ai w.params "vote" o'),(Lx+310,Aa ls el)] (n+2+310) (t'+598) g:=by
 induction k with
 |zero=>
  intro i n t o e rs R hi hR hr
  obtain rfl:i=L.length:=by exact hi
  refine Ci t e o rs ⟨by rw [List.drop_length];simpa using hr,setBy.z,fun S=>?_⟩
  have X:=(Zx (w:=w) (os:=os) (S:=S) n t g c it acc D Lx L.length ls el b1 b2 ⟨Ae (fun bl=>C3 rfl (by rw [Array.getElem?_eq_none (by rw [hL.size];exact Nat.le_refl _)])) (hn:=by simp),trivial⟩).frame [(acc+310,Aa rs e),(D+310,Ai w.params "vote" o)] newer.same
  exact X.perm (M8 ..) (M8 ..)
 |succ k ih=>
  intro i n t o e rs R hi hR hr
  have hiL:i < L.length:=by exact E1 hi
  have hrs:rs.size=i:=by rw [hr.size,hR]
  refine Af fun Gz hGz=>?_
  obtain ⟨X,hX⟩:=D6 rs
  obtain ⟨tx,htx⟩:=hL.nth hiL
  have hv:=hV _ (Gi hiL)
  refine Mi (Tb (x:=Cs (Str.ofString " ") (L.getD i 0)) (y:=⟨#[9]⟩) (tx:=Fz (((L.getD i 0:Nat):Int)) (t+599) (t+600)) (ty:=t+2+Cj (((L.getD i 0:Nat):Int))+598) (t:=t+2+Cj (((L.getD i 0:Nat):Int))+599) (by decide) (Y0 _ hv)) fun tk dk DA=>?_
  obtain ⟨t',e',o',rs',h2,h3,DD⟩:=ih (i+1) n (t+2+Cj (((L.getD i 0:Nat):Int))+1+dk) (.s (o.key (t+598)) (.int ((L.getD i 0:Nat):Int) tx)) (e+1) (rs.push (.str (Mo (L.getD i 0)) tk)) (R++[Mo (L.getD i 0)]) (E4 hi) (by rw [List.length_append,List.length_singleton,hR]) (hr.push _ _)
  refine hGz ?_
  refine Ci t' e' o' rs' ⟨?_,h3.t,fun S=>?_⟩
  ·rw [Gc hiL,List.map_cons]
   rw [List.append_assoc] at h2
   first | exact h2 | (rw [Ec hiL] at h2;exact h2)
  ·have DD:=DD S
   have RR:=A0k (w:=w) (os:=os) (S:=S) n t g c it acc D o e Lx i ls el ((L.getD i 0:Nat):Int) tx (Cs (Str.ofString " ") (L.getD i 0)) (Mo (L.getD i 0)) (Fz (((L.getD i 0:Nat):Int)) (t+599) (t+600)) tk (t+2+Cj (((L.getD i 0:Nat):Int))) (t+2+Cj (((L.getD i 0:Nat):Int))+1+dk) X rs.size (Nh h5 hi hrs) b1 b2
    ⟨Ae fun bl=>Bd rfl htx,Ae fun bl=>by
     have:=Gu (z:=Z w os b1 b2) (bl:=bl) (x:=Str.ofString " ") (ts:=t+599) (tn:=tx) (N:=n+310) (T:=t+600) (g:=g) (n:=((L.getD i 0:Nat):Int)) (by decide) Bs (by lia)
     rw [show (((L.getD i 0:Nat):Int)).toNat=(L.getD i 0) by lia,show t+600+Cj (((L.getD i 0:Nat):Int))=t+2+Cj (((L.getD i 0:Nat):Int))+598 by lia] at this
     exact this,Ae fun bl=>by
     have:=DA (Z w os b1 b2) bl (n+310) g
     rw [show t+2+Cj (((L.getD i 0:Nat):Int))+599+dk=t+2+Cj (((L.getD i 0:Nat):Int))+1+dk+598 by lia] at this
     exact this,trivial⟩ (by
     skip
     rw [Cd,← hX]
     exact DD)
   rw [← hX] at RR
   exact RR
theorem A9g(zc d sz tz:Nat)(L:List Nat)(hL:NatL ls L)(h5:L.length≤5)(hz:1≤sz∧sz≤40)(k:Nat):∀(i n t:Nat) (o:OV) (e:Nat) (rs:Array Value) (R:List Nat),i+k=L.length→R.length=i→NatL rs R →
  ∃(t' e':Nat) (o':OV) (rs':Array Value),NatL rs' (R++(L.drop i).map (cu · sz))∧setBy k o o' ∧
  ∀S,Does (Z w os b1 b2) (Pm w.params c D zc it acc d) (Ab [kC,kF,kB] S 0) [(it+310,Ad (Lx+310) i),(acc+310,Aa rs e),(d+310,Ai w.params "vote" o),(Lx+310,Aa ls el),(zc+310,Ag (.int (sz:Int) tz))] (n+310) (t+598) g (.ok .next) [(it+310,Ar L.length),(acc+310,Aa rs' e'),(d+310,Ai w.params "vote" o'),(Lx+310,Aa ls el),(zc+310,Ag (.int (sz:Int) tz))] (n+2+310) (t'+598) g:=by
 induction k with
 |zero=>
  intro i n t o e rs R hi hR hr
  obtain rfl:i=L.length:=by exact hi
  refine Ci t e o rs ⟨by rw [List.drop_length];simpa using hr,setBy.z,fun S=>?_⟩
  have X:=(Zb (w:=w) (os:=os) (S:=S) n t g c it acc D zc d Lx L.length ls el b1 b2 ⟨Ae (fun bl=>C3 rfl (by rw [Array.getElem?_eq_none (by rw [hL.size];exact Nat.le_refl _)])) (hn:=by simp),trivial⟩).frame [(acc+310,Aa rs e),(d+310,Ai w.params "vote" o),(zc+310,Ag (.int (sz:Int) tz))] newer.same
  exact X.perm (.cons _ (List.perm_append_comm (l₁:=[_]) (l₂:=[_,_]) |>.append_right [_])) (.cons _ (List.perm_append_comm (l₁:=[_]) (l₂:=[_,_]) |>.append_right [_]))
 |succ k ih=>
  intro i n t o e rs R hi hR hr
  have hiL:i < L.length:=by exact E1 hi
  have hrs:rs.size=i:=by rw [hr.size,hR]
  refine Af fun Gz hGz=>?_
  obtain ⟨X,hX⟩:=D6 rs
  obtain ⟨tx,htx⟩:=hL.nth hiL
  obtain ⟨t',e',o',rs',h2,h3,DD⟩:=ih (i+1) n (t+4) (.s (o.key (t+598)) (.int ((L.getD i 0:Nat):Int) tx)) (e+1) (rs.push (.int ((cu (L.getD i 0) sz:Nat):Int) (t+601))) (R++[cu (L.getD i 0) sz]) (E4 hi) (by rw [List.length_append,List.length_singleton,hR]) (hr.push (cu (L.getD i 0) sz) (t+601))
  refine hGz ?_
  refine Ci t' e' o' rs' ⟨?_,h3.t,fun S=>?_⟩
  ·rw [Gc hiL,List.map_cons]
   rw [List.append_assoc] at h2
   first | exact h2 | (rw [Ec hiL] at h2;exact h2)
  ·have DD:=DD S
   have RR:=Z4 (w:=w) (os:=os) (S:=S) n t g c it acc D zc d o e Lx i ls el ((L.getD i 0:Nat):Int) tx (sz:Int) tz X rs.size (Nh h5 hi hrs) b1 b2
    ⟨Ae fun bl=>Bd rfl htx,Ef,C4 (by rw [beq_eq_false_iff_ne];lia) (Ew Bs (La hz)),Ef,trivial⟩ (by
     rw [Yl hz.1]
     rw [Cd,← hX]
     exact DD)
   rw [← hX] at RR
   exact RR
theorem A79(zc d sz tz:Nat)(L:List Nat)(hL:NatL ls L)(h5:L.length≤5)(hz:1≤sz∧sz≤40)(k:Nat):∀(i n t:Nat) (o:OV) (e:Nat) (rs:Array Value) (R:List Nat),i+k=L.length→R.length=i→NatL rs R →
  ∃(t' e':Nat) (o':OV) (rs':Array Value),NatL rs' (R++(L.drop i).map (· / sz+1))∧setBy k o o' ∧
  ∀S,Does (Z w os b1 b2) (Qr w.params c D zc it acc d) (Ab [kC,kF,kB] S 0) [(it+310,Ad (Lx+310) i),(acc+310,Aa rs e),(d+310,Ai w.params "vote" o),(Lx+310,Aa ls el),(zc+310,Ag (.int (sz:Int) tz))] (n+310) (t+598) g (.ok .next) [(it+310,Ar L.length),(acc+310,Aa rs' e'),(d+310,Ai w.params "vote" o'),(Lx+310,Aa ls el),(zc+310,Ag (.int (sz:Int) tz))] (n+2+310) (t'+598) g:=by
 induction k with
 |zero=>
  intro i n t o e rs R hi hR hr
  obtain rfl:i=L.length:=by exact hi
  refine Ci t e o rs ⟨by rw [List.drop_length];simpa using hr,setBy.z,fun S=>?_⟩
  have X:=(Z5 (w:=w) (os:=os) (S:=S) n t g c it acc D zc d Lx L.length ls el b1 b2 ⟨Ae (fun bl=>C3 rfl (by rw [Array.getElem?_eq_none (by rw [hL.size];exact Nat.le_refl _)])) (hn:=by simp),trivial⟩).frame [(acc+310,Aa rs e),(d+310,Ai w.params "vote" o),(zc+310,Ag (.int (sz:Int) tz))] newer.same
  exact X.perm (.cons _ (List.perm_append_comm (l₁:=[_]) (l₂:=[_,_]) |>.append_right [_])) (.cons _ (List.perm_append_comm (l₁:=[_]) (l₂:=[_,_]) |>.append_right [_]))
 |succ k ih=>
  intro i n t o e rs R hi hR hr
  have hiL:i < L.length:=by exact E1 hi
  have hrs:rs.size=i:=by rw [hr.size,hR]
  refine Af fun Gz hGz=>?_
  obtain ⟨X,hX⟩:=D6 rs
  obtain ⟨tx,htx⟩:=hL.nth hiL
  obtain ⟨t',e',o',rs',h2,h3,DD⟩:=ih (i+1) n (t+4) (.s (o.key (t+598)) (.int ((L.getD i 0:Nat):Int) tx)) (e+1) (rs.push (.int ((L.getD i 0 / sz+1:Nat):Int) (t+601))) (R++[L.getD i 0 / sz+1]) (E4 hi) (by rw [List.length_append,List.length_singleton,hR]) (hr.push (L.getD i 0 / sz+1) (t+601))
  refine hGz ?_
  refine Ci t' e' o' rs' ⟨?_,h3.t,fun S=>?_⟩
  ·rw [Gc hiL,List.map_cons]
   rw [List.append_assoc] at h2
   first | exact h2 | (rw [Ec hiL] at h2;exact h2)
  ·have DD:=DD S
   have RR:=Yv (w:=w) (os:=os) (S:=S) n t g c it acc D zc d o e Lx i ls el ((L.getD i 0:Nat):Int) tx (sz:Int) tz X rs.size (Nh h5 hi hrs) b1 b2
    ⟨Ae fun bl=>Bd rfl htx,C4 (by rw [beq_eq_false_iff_ne];lia) (Ew Bs (La hz)),Aw,trivial⟩ (by
     rw [Kr,← Int.natCast_succ]
     rw [Cd,← hX]
     exact DD)
   rw [← hX] at RR
   exact RR
end
end
section
def K7(V H:List Nat):Nat→Nat→List Nat
 |0,_=>[]
 |k+1,p=>cu (V.getD p 0) (H.getD p 0)::K7 V H k (p+1)
noncomputable def Ir(V H:List Nat):Nat→Nat→List Nat
 |0,_=>[]
 |k+1,p=>if 0 < H.getD p 0 then V.getD p 0 / H.getD p 0::Ir V H k (p+1) else Ir V H k (p+1)
noncomputable def Vt:Nat→Nat→List Nat
 |0,_=>[]
 |k+1,p=>p::Vt k (p+1)
def Rk(V:List Nat)(s:Nat):Nat→Nat→List (Nat×Nat×Nat)
 |0,_=>[]
 |k+1,z=>(z,z*s,z*(V.map (cu · z)).sum)::Rk V s k (z+1)
noncomputable def Sx(V:List Nat)(s:Nat):Nat→Nat→List (Nat×Nat×Nat)
 |0,_=>[]
 |k+1,z=>(z,z*(V.map (· / z+1)).sum,z*s)::Sx V s k (z+1)
theorem Uc(L:List Nat):(L.map Int.ofNat).sum=((L.sum:Nat):Int):=by
 induction L with
 |nil=>rfl
 |cons a L ih=>rw [List.map_cons,List.sum_cons,List.sum_cons,ih];exact (Int.natCast_add a L.sum).symm
theorem Ow {bl:List (Code×Pos)} {z:Zed} {b:Addr} {vs:Array Value} {L:List Nat} {ep n t g:Nat} (h:NatL vs L):
  Does z (.call (.builtin "sum") ⟨[.ref b],[]⟩) bl [(b,Aa vs ep)] n (t+598) g (.ok (.ret (.int ((L.sum:Nat):Int) (t+L.length+598)))) [(b,Aa vs ep)] (n+4) (t+1+L.length+598) g:=by
 have:=Nr (z:=z) (bl:=bl) (b:=b) (ep:=ep) (n:=n) (t:=t+598) (g:=g) h
 rw [Uc,List.length_map,show t+598+L.length=t+L.length+598 by exact Dp,show t+598+(1+L.length)=t+1+L.length+598 by lia] at this
 exact this
section
variable {w:World}{os:OsState}(b1 b2:Bool)(g c it acc D:Nat)
theorem A7k(Va Ha ev eh:Nat)(vs hs:Array Value)(V H:List Nat)(hV:NatL vs V)(hH:NatL hs H)(hl:H.length=V.length)(h5:V.length≤5)(hb:∀h∈H,1≤h∧h≤40)(k:Nat):∀(p n t:Nat) (o:OV) (e:Nat) (rs:Array Value) (R:List Nat),p+k=V.length→R.length≤p→NatL rs R →
  ∃(t' e':Nat) (o':OV) (rs':Array Value) (y:Int),NatL rs' (R++K7 V H k p)∧setBy k o o' ∧
  ∀S,Does (Z w os b1 b2) (Pz w.params c it acc D) (Ab [kF,kB] S 0) [(it+310,Ac (p:Int) (k:Int) 1),(acc+310,Aa rs e),(D+310,Ai w.params "party" o),(c+312,Ag (.ref (Ha+310))),(c+315,Ag (.ref (Va+310))),(Va+310,Aa vs ev),(Ha+310,Aa hs eh)] (n+310) (t+598) g (.ok .next) [(it+310,Ac y 0 1),(acc+310,Aa rs' e'),(D+310,Ai w.params "party" o'),(c+312,Ag (.ref (Ha+310))),(c+315,Ag (.ref (Va+310))),(Va+310,Aa vs ev),(Ha+310,Aa hs eh)] (n+2+310) (t'+598) g:=by
 induction k with
 |zero=>
  intro p n t o e rs R hp hR hr
  refine Ca t e o rs (p:Int) ⟨by unfold K7;simpa using hr,setBy.z,fun S=>?_⟩
  exact (Zm (w:=w) (os:=os) (S:=S) n t g c it acc D (p:Int) b1 b2 ⟨Ae (fun bl=>Bm (by decide)) (hn:=by simp),trivial⟩).frame [(acc+310,Aa rs e),(D+310,Ai w.params "party" o),(c+312,Ag (.ref (Ha+310))),(c+315,Ag (.ref (Va+310))),(Va+310,Aa vs ev),(Ha+310,Aa hs eh)] newer.same
 |succ k ih=>
  intro p n t o e rs R hp hR hr
  have hrs:rs.size≤p:=by rw [hr.size];exact hR
  obtain ⟨X,hX⟩:=D6 rs
  unfold K7
  refine Af fun Gz hGz=>?_
  obtain ⟨tv,hv⟩:=hV.nth (i:=p) (E1 hp)
  obtain ⟨th,hh⟩:=hH.nth (i:=p) (S2 hl hp)
  have hm:=hb _ (Gi (V:=H) (p:=p) (S2 hl hp))
  obtain ⟨t',e',o',rs',y,h2,h3,DD⟩:=ih (p+1) n (t+5) (.s (o.key (t+599)) (.int (p:Int) (t+598))) (e+1) (rs.push (.int ((cu (V.getD p 0) (H.getD p 0):Nat):Int) (t+602))) (R++[cu (V.getD p 0) (H.getD p 0)]) (E4 hp) (by rw [List.length_append,List.length_singleton];exact G2 hR) (hr.push (cu (V.getD p 0) (H.getD p 0)) _)
  rw [List.append_assoc] at h2
  refine hGz ?_
  refine Ca t' e' o' rs' y ⟨h2,h3.t,fun S=>?_⟩
  have DD:=DD S
  have RR:=Z2 (w:=w) (os:=os) (S:=S) n t g c it acc D o e (p:Int) ((k+1:Nat):Int) Va Ha vs hs ev eh ((V.getD p 0:Nat):Int) ((H.getD p 0:Nat):Int) tv th X rs.size (by lia) b1 b2
   ⟨Ae fun bl=>B1 Fl,Ae fun bl=>Ba Bs (by lia) (by rw [Int.toNat_natCast];exact hv),Ef,Ae fun bl=>Ba Bs (by lia) (by rw [Int.toNat_natCast];exact hh),C4 (by rw [beq_eq_false_iff_ne];lia) (Ew Bs (La hm)),Ef,trivial⟩ (by
    rw [Yl hm.1]
    rw [Cd,← hX,show (((k+1:Nat):Int) - 1)=(k:Int) by exact Fh,show ((p:Int)+1)=((p+1:Nat):Int) by exact Fq]
    exact DD)
  rw [← hX] at RR
  exact RR
theorem A8c(Va Ha ev eh:Nat)(vs hs:Array Value)(V H:List Nat)(hV:NatL vs V)(hH:NatL hs H)(hl:H.length=V.length)(h5:V.length≤5)(hb:∀h∈H,h≤40)(k:Nat):∀(p n t:Nat) (o:OV) (e:Nat) (rs:Array Value) (R:List Nat),p+k=V.length→R.length≤p→NatL rs R →
  ∃(t' e':Nat) (o':OV) (rs':Array Value) (y:Int),NatL rs' (R++Ir V H k p)∧setBy k o o' ∧
  ∀S,Does (Z w os b1 b2) (K5 w.params c it acc D) (Ab [kF,kB] S 0) [(it+310,Ac (p:Int) (k:Int) 1),(acc+310,Aa rs e),(D+310,Ai w.params "party" o),(c+313,Ag (.ref (Ha+310))),(c+315,Ag (.ref (Va+310))),(Va+310,Aa vs ev),(Ha+310,Aa hs eh)] (n+310) (t+598) g (.ok .next) [(it+310,Ac y 0 1),(acc+310,Aa rs' e'),(D+310,Ai w.params "party" o'),(c+313,Ag (.ref (Ha+310))),(c+315,Ag (.ref (Va+310))),(Va+310,Aa vs ev),(Ha+310,Aa hs eh)] (n+2+310) (t'+598) g:=by
 induction k with
 |zero=>
  intro p n t o e rs R hp hR hr
  refine Ca t e o rs (p:Int) ⟨by unfold Ir;simpa using hr,setBy.z,fun S=>?_⟩
  exact (A0b (w:=w) (os:=os) (S:=S) n t g c it acc D (p:Int) b1 b2 ⟨Ae (fun bl=>Bm (by decide)) (hn:=by simp),trivial⟩).frame [(acc+310,Aa rs e),(D+310,Ai w.params "party" o),(c+313,Ag (.ref (Ha+310))),(c+315,Ag (.ref (Va+310))),(Va+310,Aa vs ev),(Ha+310,Aa hs eh)] newer.same
 |succ k ih=>
  intro p n t o e rs R hp hR hr
  have hrs:rs.size≤p:=by rw [hr.size];exact hR
  obtain ⟨X,hX⟩:=D6 rs
  unfold Ir
  refine Af fun Gz hGz=>?_
  obtain ⟨tv,hv⟩:=hV.nth (i:=p) (E1 hp)
  obtain ⟨th,hh⟩:=hH.nth (i:=p) (S2 hl hp)
  have hm:=hb _ (Gi (V:=H) (p:=p) (S2 hl hp))
  refine hGz ?_
  by_cases hc:0 < H.getD p 0
  ·rw [if_pos hc]
   refine Af fun Gz hGz=>?_
   obtain ⟨t',e',o',rs',y,h2,h3,DD⟩:=ih (p+1) n (t+4) (.s (o.key (t+599)) (.int (p:Int) (t+598))) (e+1) (rs.push (.int ((V.getD p 0 / H.getD p 0:Nat):Int) (t+601))) (R++[V.getD p 0 / H.getD p 0]) (E4 hp) (by rw [List.length_append,List.length_singleton];exact G2 hR) (hr.push (V.getD p 0 / H.getD p 0) _)
   rw [List.append_assoc] at h2
   refine hGz ?_
   refine Ca t' e' o' rs' y ⟨h2,h3.t,fun S=>?_⟩
   have DD:=DD S
   have RR:=Z7 (w:=w) (os:=os) (S:=S) n t g c it acc D o e (p:Int) ((k+1:Nat):Int) Va Ha vs hs ev eh ((V.getD p 0:Nat):Int) ((H.getD p 0:Nat):Int) tv th X rs.size (by lia) b1 b2
    ⟨Ae fun bl=>B1 Fl,Ae fun bl=>Ba Bs (by lia) (by rw [Int.toNat_natCast];exact hh),Eh (decide_eq_true (N8 hc)),Ae fun bl=>Ba Bs (by lia) (by rw [Int.toNat_natCast];exact hv),Ae fun bl=>Ba Bs (by lia) (by rw [Int.toNat_natCast];exact hh),C4 (by rw [beq_eq_false_iff_ne];lia) (Ew Bs (Ly hm)),trivial⟩ (by
     rw [Kr]
     rw [Cd,← hX,show (((k+1:Nat):Int) - 1)=(k:Int) by exact Fh,show ((p:Int)+1)=((p+1:Nat):Int) by exact Fq]
     exact DD)
   rw [← hX] at RR
   exact RR
  ·rw [if_neg hc]
   refine Af fun Gz hGz=>?_
   obtain ⟨t',e',o',rs',y,h2,h3,DD⟩:=ih (p+1) n (t+3) (.s (o.key (t+599)) (.int (p:Int) (t+598))) e rs R (E4 hp) (Ey hR) hr
   refine hGz ?_
   refine Ca t' e' o' rs' y ⟨h2,h3.t,fun S=>?_⟩
   have DD:=DD S
   refine A0j (w:=w) (os:=os) (S:=S) n t g c it acc D o e (p:Int) ((k+1:Nat):Int) Va Ha vs hs ev eh ((V.getD p 0:Nat):Int) ((H.getD p 0:Nat):Int) tv th rs b1 b2
    ⟨Ae fun bl=>B1 Fl,Ae fun bl=>Ba Bs (by lia) (by rw [Int.toNat_natCast];exact hh),Eh (decide_eq_false (by lia)),trivial⟩ ?_
   rw [show (((k+1:Nat):Int) - 1)=(k:Int) by exact Fh,show ((p:Int)+1)=((p+1:Nat):Int) by exact Fq]
   exact DD
theorem A7n  (k:Nat):∀(p n t:Nat) (o:OV) (e:Nat) (rs:Array Value) (R:List Nat),1≤p→p+k≤7→R.length+1≤p→NatL rs R →
  ∃(t' e':Nat) (o':OV) (rs':Array Value) (y:Int),NatL rs' (R++Vt k p)∧setBy k o o' ∧
  ∀S,Does (Z w os b1 b2) (Qh w.params c it acc D) (Ab [kF,kB] S 0) [(it+310,Ac (p:Int) (k:Int) 1),(acc+310,Aa rs e),(D+310,Ai w.params "words" o)] (n+310) (t+598) g (.ok .next) [(it+310,Ac y 0 1),(acc+310,Aa rs' e'),(D+310,Ai w.params "words" o')] (n+2+310) (t'+598) g:=by
 induction k with
 |zero=>
  intro p n t o e rs R hp1 hp hR hr
  refine Ca t e o rs (p:Int) ⟨by unfold Vt;simpa using hr,setBy.z,fun S=>?_⟩
  exact (Y6 (w:=w) (os:=os) (S:=S) n t g c it acc D (p:Int) b1 b2 ⟨Ae (fun bl=>Bm (by decide)) (hn:=by simp),trivial⟩).frame [(acc+310,Aa rs e),(D+310,Ai w.params "words" o)] newer.same
 |succ k ih=>
  intro p n t o e rs R hp1 hp hR hr
  have hrs:rs.size+1≤p:=by rw [hr.size];exact hR
  obtain ⟨X,hX⟩:=D6 rs
  unfold Vt
  refine Af fun Gz hGz=>?_
  obtain ⟨t',e',o',rs',y,h2,h3,DD⟩:=ih (p+1) n (t+2) (.s (o.key (t+599)) (.int (p:Int) (t+598))) (e+1) (rs.push (.int ((p:Nat):Int) (t+598))) (R++[p]) F5 (E0 hp) (by rw [List.length_append,List.length_singleton];exact G2 hR) (hr.push p _)
  rw [List.append_assoc] at h2
  refine hGz ?_
  refine Ca t' e' o' rs' y ⟨h2,h3.t,fun S=>?_⟩
  have DD:=DD S
  have RR:=Xg (w:=w) (os:=os) (S:=S) n t g c it acc D o e (p:Int) ((k+1:Nat):Int) X rs.size (by lia) b1 b2
   ⟨Ae fun bl=>B1 Fl,trivial⟩ (by
    skip
    rw [Cd,← hX,show (((k+1:Nat):Int) - 1)=(k:Int) by exact Fh,show ((p:Int)+1)=((p+1:Nat):Int) by exact Fq]
    exact DD)
  rw [← hX] at RR
  exact RR
noncomputable abbrev Pd(co:Option Value):Obj:={cls:=.type "cell",data:=.cell co}
theorem A9s(n t:Nat)(c D zc sz tz Va ev:Nat)(vs:Array Value)(V:List Nat)(hV:NatL vs V)(h5:V.length≤5)(h1:1≤V.length)(hz:1≤sz∧sz≤40):
  ∃(t' e' kk:Nat) (vv:Value) (cs:Array Value),NatL cs (V.map (cu · sz))∧∀S,Does (Z w os b1 b2) (diC w.params c D zc n (n+1) (n+2)) (Ab [kC,kF,kB] S 0) [(n+310,Ad (Va+310) 0),(Va+310,Aa vs ev),(n+311,Aa #[] 0),(n+312,An #[] 0),(zc+310,Ag (.int (sz:Int) tz))] (n+313) (t+598) g (.ok .next)
   [(n+310,Ar V.length),(Va+310,Aa vs ev),(n+311,Aa cs e'),(n+312,Ai w.params "vote" (.s kk vv)),(zc+310,Ag (.int (sz:Int) tz))] (n+5+310) (t'+598) g:=by
 refine Af fun Gz hGz=>?_
 refine Mh (A9g (w:=w) (os:=os) b1 b2 g c n (n+1) D Va ev vs zc (n+2) sz tz V hV h5 hz V.length 0 (n+3) t .n 0 #[] [] Ep rfl rfl) fun t' e' o' cs h2 h3 DD=>?_
 obtain ⟨kk,vv,rfl⟩:=h3.s h1
 refine hGz ?_
 refine Ca t' e' kk vv cs ⟨h2,fun S=>?_⟩
 have DD:=DD S
 exact (Xy (w:=w) (os:=os) (S:=S) (n+3) t g c n (n+1) D zc (n+2) Va vs ev (sz:Int) tz b1 b2 trivial DD).perm (.cons _ (List.Perm.append_right [_] (List.perm_append_comm (l₁:=[_,_]) (l₂:=[_])))) (.cons _ (List.Perm.append_right [_] (List.perm_append_comm (l₁:=[_,_]) (l₂:=[_]))))
theorem A9a(zc Va ev s ts:Nat)(vs:Array Value)(V:List Nat)(hV:NatL vs V)(h5:V.length≤5)(h1:1≤V.length)(n0:Nat)(k:Nat):∀(z n t e:Nat) (co:Option Value) (M:List TE),1≤z→z+k≤41→M.length+k≤6→(∀e∈M,n0≤e.y)→n0≤n →
  ∃(n' t' e':Nat) (co':Option Value) (y:Int) (M':List TE),n≤n'∧Cn M'=Cn M++Rk V s k z∧(∀e∈M',n0≤e.y)∧((k=0∧co'=co)∨∃(x:Int) (u:Nat),co'=some (.int x u)) ∧
  ∀S,Does (Z w os b1 b2) (Pj w.params c it acc D zc) (Ab [kF,kB] S 0) ([(it+310,Ac (z:Int) (k:Int) 1),(acc+310,Aa (Ay M) e),(D+310,An #[] 0),(zc+310,Pd co),(c+315,Ag (.ref (Va+310))),(Va+310,Aa vs ev),(c+311,Ag (.int (s:Int) ts))]++Au M) (n+310) (t+598) g (.ok .next) ([(it+310,Ac y 0 1),(acc+310,Aa (Ay M') e'),(D+310,An #[] 0),(zc+310,Pd co'),(c+315,Ag (.ref (Va+310))),(Va+310,Aa vs ev),(c+311,Ag (.int (s:Int) ts))]++Au M') (n'+310) (t'+598) g:=by
 induction k with
 |zero=>
  intro z n t e co M h1 h2 h3 h4 h6
  refine D8 (n+2) t e co (z:Int) M ⟨Er,by unfold Rk;rw [List.append_nil],h4,.inl ⟨rfl,rfl⟩,fun S=>?_⟩
  exact (Yp (w:=w) (os:=os) (S:=S) n t g c it acc D zc (z:Int) ((acc+310,Aa (Ay M) e)::(D+310,An #[] 0)::(zc+310,Pd co)::(c+315,Ag (.ref (Va+310)))::(Va+310,Aa vs ev)::(c+311,Ag (.int (s:Int) ts))::Au M) b1 b2 ⟨Ae (fun bl=>Bm (by decide)) (hn:=by simp),trivial⟩)
 |succ k ih=>
  intro z n t e co M h1' h2 h3 h4 h6
  refine Af fun Gz hGz=>?_
  refine Ra (A9s (w:=w) (os:=os) b1 b2 g n (t+2) c D zc z (t+598) Va ev vs V hV h5 h1 ⟨h1',by lia⟩) fun t2 ec kk vv cs hcs DI=>?_
  obtain ⟨X,hX⟩:=D6 (Ay M)
  have hsz:=Ev M
  refine hGz ?_
  let q:TE:=⟨n+9,z,t+598,z*s,t+599,z*(V.map (cu · z)).sum,t2+1+(V.map (cu · z)).length+598⟩
  have hq:q.ob=(n+5+314,Ix (z:Int) (t+598) ((z:Int)*(s:Int)) (t+599) ((z:Int)*(((V.map (cu · z)).sum:Nat):Int)) (t2+1+(V.map (cu · z)).length+598)):=by
   show (n+9+310,Ix _ _ _ _ _ _)=_
   simp only [q,Int.natCast_mul]
  refine Af fun Gz hGz=>?_
  obtain ⟨n',t',e',co',y,M',z1,z2,z3,z4,DD⟩:=ih (z+1) (n+10) (t2+1+(V.map (cu · z)).length+1) (e+1) (some (.int (z:Int) (t+598))) (M++[q]) F5 (E0 h2) (by rw [List.length_append,List.length_singleton];exact E0 h3) (fun x hx=>by
   rcases List.mem_append.mp hx with hx | hx
   ·exact h4 x hx
   ·rw [List.mem_singleton.mp hx];show n0≤n+9;exact Ey h6) (Ey h6)
  rw [Lq,List.append_assoc,List.singleton_append] at z2
  refine hGz ?_
  refine D8 n' t' e' co' y M' ⟨C6 z1,z2,z3,.inr (z4.elim (fun h=>⟨_,_,h.2⟩) id),fun S=>?_⟩
  have DD:=DD S
  rw [show ((z+1:Nat):Int)=(z:Int)+1 by exact Fq,Kv,Lw] at DD
  have RR:=Zu (w:=w) (os:=os) (S:=S) n t g c it acc D zc co e (z:Int) ((k+1:Nat):Int) Va vs ev (s:Int) ts cs ec V.length kk (n+5) t2 (t2+1+(V.map (cu · z)).length) vv (((V.map (cu · z)).sum:Nat):Int) (t2+(V.map (cu · z)).length+598) X (Ay M).size (Au M) (by lia) b1 b2
   ⟨Ae fun bl=>B1 Fl,Cy (C1 Bs (T6 h2)),Bb DI,Ae fun bl=>Ow hcs,Cy (C1 Bs (T6 h2)),trivial⟩ (by
    rw [Cd,← hX,show (((k+1:Nat):Int) - 1)=(k:Int) by exact Fh]
    rw [hq] at DD
    exact DD.perm (by
     rw [← List.append_assoc]
     exact (List.append_assoc ..▸List.Perm.append_left _ List.perm_append_comm)) (List.Perm.refl _))
  rw [← hX] at RR
  exact RR
theorem A9p(n t:Nat)(c D zc sz tz Va ev:Nat)(vs:Array Value)(V:List Nat)(hV:NatL vs V)(h5:V.length≤5)(h1:1≤V.length)(hz:1≤sz∧sz≤40):
  ∃(t' e' kk:Nat) (vv:Value) (cs:Array Value),NatL cs (V.map (· / sz+1))∧∀S,Does (Z w os b1 b2) (oiC w.params c D zc n (n+1) (n+2)) (Ab [kC,kF,kB] S 0) [(n+310,Ad (Va+310) 0),(Va+310,Aa vs ev),(n+311,Aa #[] 0),(n+312,An #[] 0),(zc+310,Ag (.int (sz:Int) tz))] (n+313) (t+598) g (.ok .next)
   [(n+310,Ar V.length),(Va+310,Aa vs ev),(n+311,Aa cs e'),(n+312,Ai w.params "vote" (.s kk vv)),(zc+310,Ag (.int (sz:Int) tz))] (n+5+310) (t'+598) g:=by
 refine Af fun Gz hGz=>?_
 refine Mh (A79 (w:=w) (os:=os) b1 b2 g c n (n+1) D Va ev vs zc (n+2) sz tz V hV h5 hz V.length 0 (n+3) t .n 0 #[] [] Ep rfl rfl) fun t' e' o' cs h2 h3 DD=>?_
 obtain ⟨kk,vv,rfl⟩:=h3.s h1
 refine hGz ?_
 refine Ca t' e' kk vv cs ⟨h2,fun S=>?_⟩
 have DD:=DD S
 exact (Zv (w:=w) (os:=os) (S:=S) (n+3) t g c n (n+1) D zc (n+2) Va vs ev (sz:Int) tz b1 b2 trivial DD).perm (.cons _ (List.Perm.append_right [_] (List.perm_append_comm (l₁:=[_,_]) (l₂:=[_])))) (.cons _ (List.Perm.append_right [_] (List.perm_append_comm (l₁:=[_,_]) (l₂:=[_]))))
theorem A8t(zc Va ev s ts:Nat)(vs:Array Value)(V:List Nat)(hV:NatL vs V)(h5:V.length≤5)(h1:1≤V.length)(n0:Nat)(k:Nat):∀(z n t e:Nat) (co:Option Value) (M:List TE),1≤z→z+k≤41→M.length+k≤6→(∀e∈M,n0≤e.y)→n0≤n →
  ∃(n' t' e':Nat) (co':Option Value) (y:Int) (M':List TE),n≤n'∧Cn M'=Cn M++Sx V s k z∧(∀e∈M',n0≤e.y)∧((k=0∧co'=co)∨∃(x:Int) (u:Nat),co'=some (.int x u)) ∧
  ∀S,Does (Z w os b1 b2) (Po w.params c it acc D zc) (Ab [kF,kB] S 0) ([(it+310,Ac (z:Int) (k:Int) 1),(acc+310,Aa (Ay M) e),(D+310,An #[] 0),(zc+310,Pd co),(c+315,Ag (.ref (Va+310))),(Va+310,Aa vs ev),(c+314,Ag (.int (s:Int) ts))]++Au M) (n+310) (t+598) g (.ok .next) ([(it+310,Ac y 0 1),(acc+310,Aa (Ay M') e'),(D+310,An #[] 0),(zc+310,Pd co'),(c+315,Ag (.ref (Va+310))),(Va+310,Aa vs ev),(c+314,Ag (.int (s:Int) ts))]++Au M') (n'+310) (t'+598) g:=by
 induction k with
 |zero=>
  intro z n t e co M h1 h2 h3 h4 h6
  refine D8 (n+2) t e co (z:Int) M ⟨Er,by unfold Sx;rw [List.append_nil],h4,.inl ⟨rfl,rfl⟩,fun S=>?_⟩
  exact (Yj (w:=w) (os:=os) (S:=S) n t g c it acc D zc (z:Int) ((acc+310,Aa (Ay M) e)::(D+310,An #[] 0)::(zc+310,Pd co)::(c+315,Ag (.ref (Va+310)))::(Va+310,Aa vs ev)::(c+314,Ag (.int (s:Int) ts))::Au M) b1 b2 ⟨Ae (fun bl=>Bm (by decide)) (hn:=by simp),trivial⟩)
 |succ k ih=>
  intro z n t e co M h1' h2 h3 h4 h6
  refine Af fun Gz hGz=>?_
  refine Ra (A9p (w:=w) (os:=os) b1 b2 g n (t+1) c D zc z (t+598) Va ev vs V hV h5 h1 ⟨h1',by lia⟩) fun t2 ec kk vv cs hcs DI=>?_
  obtain ⟨X,hX⟩:=D6 (Ay M)
  have hsz:=Ev M
  refine hGz ?_
  let q:TE:=⟨n+9,z,t+598,z*(V.map (· / z+1)).sum,t2+1+(V.map (· / z+1)).length+598,z*s,t2+1+(V.map (· / z+1)).length+599⟩
  have hq:q.ob=(n+5+314,Ix (z:Int) (t+598) ((z:Int)*(((V.map (· / z+1)).sum:Nat):Int)) (t2+1+(V.map (· / z+1)).length+598) ((z:Int)*(s:Int)) (t2+1+(V.map (· / z+1)).length+599)):=by
   show (n+9+310,Ix _ _ _ _ _ _)=_
   simp only [q,Int.natCast_mul]
  refine Af fun Gz hGz=>?_
  obtain ⟨n',t',e',co',y,M',z1,z2,z3,z4,DD⟩:=ih (z+1) (n+10) (t2+1+(V.map (· / z+1)).length+2) (e+1) (some (.int (z:Int) (t+598))) (M++[q]) F5 (E0 h2) (by rw [List.length_append,List.length_singleton];exact E0 h3) (fun x hx=>by
   rcases List.mem_append.mp hx with hx | hx
   ·exact h4 x hx
   ·rw [List.mem_singleton.mp hx];show n0≤n+9;exact Ey h6) (Ey h6)
  rw [Lq,List.append_assoc,List.singleton_append] at z2
  refine hGz ?_
  refine D8 n' t' e' co' y M' ⟨C6 z1,z2,z3,.inr (z4.elim (fun h=>⟨_,_,h.2⟩) id),fun S=>?_⟩
  have DD:=DD S
  rw [show ((z+1:Nat):Int)=(z:Int)+1 by exact Fq,Kv,Lw] at DD
  have RR:=Xw (w:=w) (os:=os) (S:=S) n t g c it acc D zc co e (z:Int) ((k+1:Nat):Int) Va vs ev (s:Int) ts cs ec V.length kk (n+5) t2 (t2+1+(V.map (· / z+1)).length) vv (((V.map (· / z+1)).sum:Nat):Int) (t2+(V.map (· / z+1)).length+598) X (Ay M).size (Au M) (by lia) b1 b2
   ⟨Ae fun bl=>B1 Fl,Bb DI,Ae fun bl=>Ow hcs,Cy (C1 Bs (T6 h2)),Cy (C1 Bs (T6 h2)),trivial⟩ (by
    rw [Cd,← hX,show (((k+1:Nat):Int) - 1)=(k:Int) by exact Fh]
    rw [hq] at DD
    exact DD.perm (by
     rw [← List.append_assoc]
     exact (List.append_assoc ..▸List.Perm.append_left _ List.perm_append_comm)) (List.Perm.refl _))
  rw [← hX] at RR
  exact RR
end
end
noncomputable def O0(nb nc:Nat):Obj:={cls:=.none,data:=.fields #[.int 268 0,.int 39 0,.ref (nb+316),.int 270 0,.int 40 0,.ref (nc+316)]}
noncomputable def A3z(o:OV):Nat:=match o with
 |.n=>899
 |.s ..=>903
noncomputable def A4p(o:OV):Nat:=match o with
 |.n=>0xe1b584201020408102000080356a0102040d402040d402040d40810201b206c58b002c00b16000000000840204408020448102142040204081a74e981a200800204048103424d008040849b300810206601020660102066010204080001408408064018f1e3808e023c7000000002044810210081081008102061428406000200081012040be7ef80810824081021048102f1ebc0204209020408412040840204081020c1830604085080408108040810204183060c0810a100ab56ac20402a40a850a002800a1400000000102240810204204029d3a702940a1421008108100a448900a20285084020420442010804284000000008902040810280d200804085120409f287c20102144810e1c2043c70e1b387001c0070e1c3670e003800e1c386ce1c007001c3800d80366cd8102144810c182043058b152c580160058b162a58b002c00b162c54b1600580162c00a802a54a8102144810a14081020408902040890204081020810208040811204089120450e143c08d003000c180410204100010810081
 |.s ..=>0x386d610804081020408000200d5a8040810350081035008103502040806c81b162c00b002c580000000021008110200811204085081008102069d3a606880200081012040d0934020102126cc02040819804081980408198040810200005021020190063c78e023808f1c0000000081120408402042040204081850a1018000800204048102f9fbe0204209020408412040bc7af00810824081021048102100810204083060c181021420102042010204081060c183020428402ad5ab08100a902a142800a002850000000004089020408108100a74e9c0a502850840204204029122402880a14210081081108042010a10000000022408102040a034802010214481027ca1f080408512043870810f1c386ce1c007001c3870d9c3800e003870e1b387001c0070e003600d9b360408512043060810c162c54b1600580162c58a962c00b002c58b152c580160058b002a00a952a0408512042850204081022408102240810204082040820102044810224481143850f1e3c08d003000c180410204100010810081
abbrev Q14(x0_:Nat)(x1_:Nat) x2_ x3_ x4_ x5_ (x6_:Nat) (x7_:Nat) x8_ x9_ x10_:=(qC (.call (.builtin "list.__ne__") ⟨[.ref (x0_+310),.ref (x1_+310)],[]⟩) [(x0_+310,Ax x2_ x3_),(x1_+310,Ax x4_ x5_)] (x6_+310) (x7_+598) x8_ (.ok (.ret (.bool false))) [x9_,x10_] [(Aa x2_ x3_),(Aa x4_ x5_)] [] (x6_+310) (x7_+598) x8_:Ah)
abbrev Q18 x0_ x1_ (x2_:Nat) (x3_:Nat) (x4_:Nat) (gg:Nat) (x5_:Nat) (w:World) (x6_:Nat) (x7_:Nat) x8_ x9_ x10_ x11_ x12_ x13_ x14_ (x15_:Nat) x16_ x17_ x18_ x19_ x20_ (x21_:Nat) (x22_:Nat) x23_ x24_ (x25_:Nat) x26_ (x27_:Nat) (x28_:Nat):=(qK [kF,kB] (.call (.ref 83) ⟨[.str x0_ x1_],[]⟩) [] (x2_+310) (x3_+x4_) gg (.ok (.ret (.ref (x5_+310)))) [] [] [(x5_+310,(Bg w.params (x6_+310))),(x7_+310,(Bh w.params x8_ x9_ x10_ x11_ x12_ x13_ x14_ (x15_+310) (Value.int x16_ x17_) (Value.int x18_ x19_) (Value.bool x20_))),(x21_+310,(Ap (Value.ref (x22_+310)) (Value.int x23_ x24_))),(x25_+310,(tup x26_))] (x27_+310) (x28_+598) gg:Ah)
abbrev Q23(x0_:Nat)(x1_:Nat)(w:World)(x2_:Nat) x3_ x4_ x5_ x6_ x7_ x8_ x9_ (x10_:Nat) x11_ x12_ x13_ x14_ x15_ (x16_:Nat) x17_ x18_ x19_ (x20_:Nat) x21_ x22_ x23_ x24_ x25_ x26_ x27_ (x28_:Nat) x29_ x30_ x31_ x32_ x33_ (x34_:Nat) x35_ x36_ x37_ x38_ x39_ (x40_:Nat) (x41_:Nat) (gg:Nat) (x42_:Nat) x43_ x44_ x45_ x46_ x47_ x48_ x49_ x50_ x51_ x52_ (x53_:Nat) (x54_:Nat):=(qP (some [kF,kB]) (.call (.ref 80) ⟨[.ref (x0_+310),.ref (x1_+310)],[]⟩) [(x0_+310,Bg w.params (x2_+310)),(x2_+310,Bh w.params x3_ x4_ x5_ x6_ x7_ x8_ x9_ (x10_+310) (.int x11_ x12_) (.int x13_ x14_) (.bool x15_)),(x10_+310,Ap (.ref (x16_+310)) (.int x17_ x18_)),(x16_+310,tup x19_),(x1_+310,Bg w.params (x20_+310)),(x20_+310,Bh w.params x21_ x22_ x23_ x24_ x25_ x26_ x27_ (x28_+310) (.int x29_ x30_) (.int x31_ x32_) (.bool x33_)),(x28_+310,Ap (.ref (x34_+310)) (.int x35_ x36_)),(x34_+310,tup x37_)] x38_ x39_ (x40_+310) (x41_+598) gg (.ok (.ret (.ref (x42_+310)))) [x43_,x44_,x45_,x46_,x47_,x48_,x49_,x50_] [Bg w.params (x2_+310),Bh w.params x3_ x4_ x5_ x6_ x7_ x8_ x9_ (x10_+310) (.int x11_ x12_) (.int x13_ x14_) (.bool x15_),Ap (.ref (x16_+310)) (.int x17_ x18_),tup x19_,Bg w.params (x20_+310),Bh w.params x21_ x22_ x23_ x24_ x25_ x26_ x27_ (x28_+310) (.int x29_ x30_) (.int x31_ x32_) (.bool x33_),Ap (.ref (x34_+310)) (.int x35_ x36_),tup x37_] [(x42_+310,Aa x51_ x52_)] (x53_+310) (x54_+598) gg:Ah)
abbrev Q32(x0_:Nat)(x1_:Nat) x2_ x3_ (x4_:Nat) (x5_:Nat) (x6_:Nat) (x7_:Nat) x8_ x9_ x10_ x11_ (x12_:Nat):=(qC (.call (.builtin "max") ⟨[.ref (x0_+x1_)],[]⟩) [(x0_+x1_,(Aa x2_ x3_))] (x4_+x5_) (x6_+x7_) x8_ (.ok (.ret (.int x9_ x10_))) [x11_] [(Aa x2_ x3_)] [] (x4_+x12_) (x6_+x7_) x8_:Ah)
abbrev Q34(x0_:Nat)(x1_:Nat) x2_ x3_ (x4_:Nat) (x5_:Nat) (gg:Nat) x6_ x7_:=(qC (.call (.builtin "str.join") ⟨[.str (Str.ofString "") (x0_+598),.ref (x1_+311)],[]⟩) [(x1_+311,(Aa x2_ x3_))] (x4_+310) (x5_+598) gg (.ok (.ret (.str x6_ (x5_+598)))) [x7_] [(Aa x2_ x3_)] [] (x4_+310) (x5_+599) gg:Ah)
abbrev Q39 x0_ x1_ x2_ (x3_:Nat) (x4_:Nat) (x5_:Nat) x6_:=(qC (.call (.builtin "int.__ne__") ⟨[.int x0_ x1_,.int x0_ x2_],[]⟩) [] (x3_+310) (x4_+x5_) x6_ (.ok (.ret (.bool false))) [] [] [] (x3_+310) (x4_+x5_) x6_:Ah)
def Fv(w:World)(n t g sc:Nat)(sv:Array Value)(se:Nat)(l1 lv vs l2:Array Value)(e1 n2 t2 t3 sd:Nat)(sm:Int)(okk:OV)(kk2 kk3 kk4 kk5:Nat)(vv2 vv3 vv4 vv5:Value)(j1:Nat)(sV:Int)(tV t4:Nat)(ga ra gj rj ca cj:Array Value)(ega era egj erj eca ecj Na Xa Nj Xj Nc Nd n5 t5 n6 t6 n7 t7 n8 t8:Nat)(ul ll:Array Value)(eu ell:Nat)(x9 xa up lo mv:Int)(tu tlo tmv n9 t9 na ta:Nat)  (wl:Array Value) (ew:Nat) (xb:Int) (nb tb:Nat)  (tc tc1 nc gc td td1 nd gd ne te ge nf tf ng tg gg nh th R1 R2 R3 R4 er1 er2 er3 er4:Nat) (r1 r2 r3 r4:Array Value) (bs:Array Value) (eb jB tB0:Nat)  (ni ti nj tj:Nat) (xB:Str) (KB KT KW KV:LeadK) (xd xe:Int) (kd nk tk Y1:Nat) (ds ys zs:Array Value) (ed ey ez eo:Nat) (xT:Str) (tT tT2 nl tl nm tm:Nat) (jW kk6 np tp nq tq ew2:Nat) (vv6:Value) (ws2:Array Value) (xW:Str) (xf xg:Int) (kg nr tr ns ts nu tu2 Y2 tV1 tV2:Nat) (xV:Str) (os2:Array Value) (ps ps1 ps2 ps3 ps4 ps5 ps6 ps7 ps8:LO):List Ah:=[Qg sc (.ref (n+317)) [(sc+310,Ax sv se),(n+317,E3 "slice" #[.none,.int 3 (t+601),.none])] n 318 t 602 g (.ref (n+318)) [0,9] [(Aa sv se),(Xu none (some (3,t+601)))] [(n+318,(Aa l1 0))] 319,
 qK [kF,kB] (vtC w.params n (n+9) (n+10) (n+11)) [(n+319,Ad (n+318) 0),(n+320,Aa #[] 0),(n+321,An #[] 0),(n+318,Aa l1 0)] (n+322) (t+602) g (.ok (.next)) [11,12,13,10] [Ar j1,Aa lv e1,Ai w.params "number" okk,Aa l1 0] [] (n2+310) (t2+598) g,
 qC (.call (.builtin "list.__add__") ⟨[.ref (n+316),.ref (n+320)],[]⟩) [(n+316,Ax #[.int 6 (t+599),.int 3 (t+600)] 0),(n+320,(Aa lv e1))] (n2+310) (t2+598) g (.ok (.ret (.ref (n2+310)))) [8,12] [(Aa #[Value.int 6 (t+599),Value.int 3 (t+600)] 0),(Aa lv e1)] [(n2+310,(Aa vs 0))] (n2+311) (t2+598) g,
 Pt n2 (Ax vs 0) n2 311 t2 598 g vs 599 14 0 600,
 Qg sc (.ref (n2+311)) [(sc+310,(Aa sv se)),(n2+311,E3 "slice" #[.none,.int 63 (t2+600),.none])] n2 312 t2 601 g (.ref (n2+312)) [0,15] [(Aa sv se),(Xu none (some (63,t2+600)))] [(n2+312,(Aa l2 0))] 313,
 Q24 n2 312 (Ax l2 0) n2 313 t2 601 g sm sd 16 l2 0 317 t3,
 B5 sm sd 3 (t3+598) (n2+317) (t3+599) g,
 Q24 n2 310 (Aa vs 0) n2 317 t3 600 g sV tV 14 vs 0 321 t4,
 Pt n2 (Aa vs 0) n2 321 t4 598 g vs 599 14 0 600,
 J5 sV tV (↑vs.size) (t4+599) (n2+321) (t4+600) g,
 B5 (sV - ↑vs.size) (t4+600) 1 (t4+601) (n2+321) (t4+602) g,
 Vf (sm+3) (t3+599) (sV - ↑vs.size+1) (t4+602) (n2+321) (t4+603) g,
 B5 (↑vs.size) (t2+599) ((sm+3).fmod (sV - ↑vs.size+1)) (t4+603) (n2+321) (t4+604) g,
 qK [kF,kB] (.call (.ref 280) ⟨[.ref (n2+310),.int (↑vs.size+(sm+3).fmod (sV - ↑vs.size+1)) (t4+604),.int 0 (t4+605)],[]⟩) [(n2+310,(Aa vs 0))] (n2+321) (t4+606) g (.ok (.ret (.ref (Xa+310)))) [14] [(Aa vs 0)] [(n2+323,(Aa ga ega)),(Na+310,(Aa ra era)),(Xa+310,(L7 (Value.ref (Na+310)) (Value.ref (n2+323))))] (n5+310) (t5+598) g,
 qK [kF,kB] (.call (.ref 280) ⟨[.ref (n2+310),.int (↑vs.size+(sm+3).fmod (sV - ↑vs.size+1)) (t4+604),.int 1 (t5+599)],[]⟩) [(n2+310,(Aa vs 0))] (n5+313) (t5+600) g (.ok (.ret (.ref (Xj+310)))) [14] [(Aa vs 0)] [(n5+315,(Aa gj egj)),(Nj+310,(Aa rj erj)),(Xj+310,(L7 (Value.ref (Nj+310)) (Value.ref (n5+315))))] (n6+310) (t6+598) g,
 qK [kF,kB] (.call (.ref 285) ⟨[.ref (n2+310),.int (↑vs.size+(sm+3).fmod (sV - ↑vs.size+1)) (t4+604),.int 0 (t6+599)],[]⟩) [(n2+310,(Aa vs 0))] (n6+313) (t6+600) g (.ok (.ret (.ref (Nc+310)))) [14] [(Aa vs 0)] [(Nc+310,(Aa ca eca))] (n7+310) (t7+598) g,
 Q14 Nc Na ca eca ra era n7 t7 g 29 18,
 qK [kF,kB] (.call (.ref 285) ⟨[.ref (n2+310),.int (↑vs.size+(sm+3).fmod (sV - ↑vs.size+1)) (t4+604),.int 1 (t7+598)],[]⟩) [(n2+310,(Aa vs 0))] (n7+310) (t7+599) g (.ok (.ret (.ref (Nd+310)))) [14] [(Aa vs 0)] [(Nd+310,(Aa cj ecj))] (n8+310) (t8+598) g,
 Q14 Nd Nj cj ecj rj erj n8 t8 g 30 24,
 Pt n2 (Aa vs 0) n8 310 t8 598 g vs 599 14 0 600,
 Q9 n8 310 (E3 "range" #[.int 0 (t8+600),.int (↑vs.size) (t8+599),.int 1 (t8+601)]) n8 311 t8 603 g 31 0 t8 600 vs 599 601 312,
 qK [kF,kB] (upC w.params n (n8+1) (n8+2) (n8+3)) [(n8+311,Ac 0 (Builtin.Range.rangeSize 0 (vs.size:Int) 1) 1),(n8+312,Aa #[] 0),(n8+313,An #[] 0),(n+312,Ag (.ref (n2+323))),(n+315,Ag (.ref (n2+310))),(n2+310,Aa vs 0),(n2+323,Aa ga ega)] (n8+314) (t8+603) g (.ok (.next)) [32,33,34,4,7,14,17] [Ac x9 0 1,Aa ul eu,Ai w.params "party" (.s kk2 vv2),Ag (.ref (n2+323)),Ag (.ref (n2+310)),Aa vs 0,Aa ga ega] [] (n9+310) (t9+598) g,
 Q32 n8 312 ul eu n9 310 t9 598 g up tu 33 314,
 Q9 n8 310 (Pc 0 (t8+600) (↑vs.size) (t8+599) 1 (t8+601)) n9 314 t9 599 g 31 0 t8 600 vs 599 601 315,
 qK [kF,kB] (loC w.params n (n9+4) (n9+5) (n9+6)) [(n9+314,Ac 0 (Builtin.Range.rangeSize 0 (vs.size:Int) 1) 1),(n9+315,Aa #[] 0),(n9+316,An #[] 0),(n+313,Ag (.ref (n5+315))),(n+315,Ag (.ref (n2+310))),(n2+310,Aa vs 0),(n5+315,Aa gj egj)] (n9+317) (t9+599) g (.ok (.next)) [35,36,37,5,7,14,23] [Ac xa 0 1,Aa ll ell,Ai w.params "party" (.s kk3 vv3),Ag (.ref (n5+315)),Ag (.ref (n2+310)),Aa vs 0,Aa gj egj] [] (na+310) (ta+598) g,
 qC (.call (.builtin "min") ⟨[.ref (n9+315)],[]⟩) [(n9+315,(Aa ll ell))] (na+310) (ta+598) g (.ok (.ret (.int lo tlo))) [36] [(Aa ll ell)] [] (na+314) (ta+598) g,
 Q32 n2 310 vs 0 na 314 ta 600 g mv tmv 14 318,
 B5 mv tmv 1 (ta+600) (na+318) (ta+601) g,
 Q2 na 318 1 (ta+599) (mv+1) (ta+601) ta 602 319 603 g 38 1 (ta+599) (mv+1) (ta+601) 320,
 qK [kF,kB] (wdC w.params n (na+9) (na+10) (na+11)) [(na+319,Ac 1 (Builtin.Range.rangeSize 1 (mv+1) 1) 1),(na+320,Aa #[] 0),(na+321,An #[] 0)] (na+322) (ta+603) g (.ok (.next)) [39,40,41] [Ac xb 0 1,Aa wl ew,Ai w.params "words" (.s kk4 vv4)] [] (nb+310) (tb+598) g,
 Ex (↑vs.size+(sm+3).fmod (sV - ↑vs.size+1)) (t4+604) (nb+310) (tb+599) g,
 qP (some [kF,kB]) (.call (.ref 114) ⟨[.ref (na+320),.int (-((vs.size:Int)+(sm+3).fmod (sV - (vs.size:Int)+1))) (tb+599)],[(Str.ofString "key",.ref (nb+317))]⟩) [(na+320,Aa wl ew),(nb+317,Bn w.params 9 (n+5) (nb+6) nb),(nb+316,B3 268 ⟨nb+1,nb+2,nb+3,nb+4,nb+5,tb+600,tb+601,tb+602,tb+606,((tb+605:Nat):Int)⟩),(n+315,Ag (.ref (n2+310))),(n2+310,Aa vs 0)] ps ps1 (nb+318) (tb+607) g (.ok (.ret (.int (up - 1) tc))) [40,49,48,7,14] [Aa wl ew,Bn w.params 9 (n+5) (nb+6) nb,B3 268 ⟨nb+1,nb+2,nb+3,nb+4,nb+5,tb+600,tb+601,tb+602,tb+606,((tb+605:Nat):Int)⟩,Ag (.ref (n2+310)),Aa vs 0] [] (nc+310) (tc1+598) gc,
 J5 up tu 1 (tc1+598) (nc+310) (tc1+599) gc,
 Q39 (up - 1) tc (tc1+599) nc tc1 600 gc,
 Ex (↑vs.size+(sm+3).fmod (sV - ↑vs.size+1)) (t4+604) (nc+310) (tc1+600) gc,
 qP (some [kF,kB]) (.call (.ref 105) ⟨[.ref (na+320),.int (-((vs.size:Int)+(sm+3).fmod (sV - (vs.size:Int)+1))) (tc1+600)],[(Str.ofString "key",.ref (nc+317))]⟩) [(na+320,Aa wl ew),(nc+317,Bn w.params 10 (n+5) (nc+6) nc),(nc+316,B3 270 ⟨nc+1,nc+2,nc+3,nc+4,nc+5,tc1+601,tc1+602,tc1+603,tc1+607,((tc1+606:Nat):Int)⟩),(n+315,Ag (.ref (n2+310))),(n2+310,Aa vs 0)] ps1 ps2 (nc+318) (tc1+608) gc (.ok (.ret (.int lo td))) [40,57,56,7,14] [Aa wl ew,Bn w.params 10 (n+5) (nc+6) nc,B3 270 ⟨nc+1,nc+2,nc+3,nc+4,nc+5,tc1+601,tc1+602,tc1+603,tc1+607,((tc1+606:Nat):Int)⟩,Ag (.ref (n2+310)),Aa vs 0] [] (nd+310) (td1+598) gd,
 Q39 lo td tlo nd td1 598 gd,
 qP (some [kF,kB]) (.call (.ref 292) ⟨[.ref (n2+310),.int up tu],[]⟩) [(n2+310,(Aa vs 0))] ps2 ps3 (nd+310) (td1+598) gd (.ok (.ret (.ref (R1+310)))) [14] [(Aa vs 0)] [(R1+310,(Aa r1 er1))] (ne+310) (te+598) ge,
 qK [kF,kB] (.call (.ref 304) ⟨[.ref (n2+310),.int up tu],[]⟩) [(n2+310,(Aa vs 0))] (ne+310) (te+598) ge (.ok (.ret (.ref (R2+310)))) [14] [(Aa vs 0)] [(R2+310,(Aa r2 er2))] (nf+310) (tf+598) ge,
 Q14 R1 R2 r1 er1 r2 er2 nf tf ge 58 59,
 qP (some [kF,kB]) (.call (.ref 292) ⟨[.ref (n2+310),.int lo tlo],[]⟩) [(n2+310,(Aa vs 0))] ps3 ps4 (nf+310) (tf+598) ge (.ok (.ret (.ref (R3+310)))) [14] [(Aa vs 0)] [(R3+310,(Aa r3 er3))] (ng+310) (tg+598) gg,
 qK [kF,kB] (.call (.ref 304) ⟨[.ref (n2+310),.int lo tlo],[]⟩) [(n2+310,(Aa vs 0))] (ng+310) (tg+598) gg (.ok (.ret (.ref (R4+310)))) [14] [(Aa vs 0)] [(R4+310,(Aa r4 er4))] (nh+310) (th+598) gg,
 Q14 R3 R4 r3 er3 r4 er4 nh th gg 60 61,
 qK [kF,kB] (bjC w.params n nh (nh+1) (nh+2)) [(nh+310,Ad (n2+310) 0),(nh+311,Aa #[] 0),(nh+312,An #[] 0),(n2+310,Aa vs 0)] (nh+313) (th+599) gg (.ok (.next)) [62,63,64,14] [Ar jB,Aa bs eb,Ai w.params "vote" (.s kk5 vv5),Aa vs 0] [] (ni+310) (ti+598) gg,
 Q34 th nh bs eb ni ti gg xB 63,
 Q18 xB (ti+598) ni ti 599 gg KB.1 w KB.D KB.2 KB.x KB.tx KB.k1 KB.k2 KB.k3 KB.k4 KB.k5 KB.N (↑KB.n) KB.tn (↑KB.m) KB.tm KB.s KB.3 KB.Q (↑KB.b) KB.tb KB.4 KB.cs nj tj,
 Q32 n2 310 vs 0 nj 310 tj 599 gg mv tmv 14 314,
 B5 mv tmv 1 (tj+599) (nj+314) (tj+600) gg,
 Q2 nj 314 up tu (mv+1) (tj+600) tj 601 315 602 gg 69 up tu (mv+1) (tj+600) 316,
 qP (some [kF,kB]) (duC w.params n (nj+5) (nj+6) (nj+7) (nj+8)) [(nj+315,Ac up (Builtin.Range.rangeSize up (mv+1) 1) 1),(nj+316,Aa #[] 0),(nj+317,An #[] 0),(nj+318,Ld),(n+315,Ag (.ref (n2+310))),(n2+310,Aa vs 0),(n+311,Ag (.int ((vs.size:Int)+(sm+3).fmod (sV - (vs.size:Int)+1)) (t4+604)))] ps4 ps5 (nj+319) (tj+602) gg (.ok (.next)) [70,71,72,73,7,14,3] [Ac xe 0 1,Aa ds ed,An #[] 0,Ag (.int xd kd),Ag (.ref (n2+310)),Aa vs 0,Ag (.int ((vs.size:Int)+(sm+3).fmod (sV - (vs.size:Int)+1)) (t4+604))] [] (nk+310) (tk+598) gg,
 qC (.call (.builtin "str.__mul__") ⟨[.str (⟨#[9]⟩:Str) (tk+599),.int (↑vs.size+(sm+3).fmod (sV - ↑vs.size+1)) (t4+604)],[]⟩) [] (nk+310) (tk+600) gg (.ok (.ret (.str xT tT))) [] [] [] (nk+310) (tT2+598) gg,
 Q18 xT tT nk tT2 598 gg KT.1 w KT.D KT.2 KT.x KT.tx KT.k1 KT.k2 KT.k3 KT.k4 KT.k5 KT.N (↑KT.n) KT.tn (↑KT.m) KT.tm KT.s KT.3 KT.Q (↑KT.b) KT.tb KT.4 KT.cs nl tl,
 Q23 KT.C KB.C w KT.D KT.x KT.tx KT.k1 KT.k2 KT.k3 KT.k4 KT.k5 KT.N (KT.n:Int) KT.tn (KT.m:Int) KT.tm KT.s KT.Q (KT.b:Int) KT.tb KT.cs KB.D KB.x KB.tx KB.k1 KB.k2 KB.k3 KB.k4 KB.k5 KB.N (KB.n:Int) KB.tn (KB.m:Int) KB.tm KB.s KB.Q (KB.b:Int) KB.tb KB.cs ps5 ps6 nl tl gg Y1 74 75 76 77 65 66 67 68 ys ey nm tm,
 qP (some [kF,kB]) (.call (.builtin "list.__ne__") ⟨[.ref (Y1+310),.ref (nj+316)],[]⟩) [(Y1+310,Ax ys ey),(nj+316,(Aa ds ed))] ps6 ps6 (nm+310) (tm+598) gg (.ok (.ret (.bool false))) [78,71] [(Aa ys ey),(Aa ds ed)] [] (nm+310) (tm+598) gg,
 qK [kF,kB] (wjC w.params n nm (nm+1) (nm+2)) [(nm+310,Ad (n2+310) 0),(nm+311,Aa #[] 0),(nm+312,An #[] 0),(n2+310,Aa vs 0)] (nm+313) (tm+599) gg (.ok (.next)) [79,80,81,14] [Ar jW,Aa ws2 ew2,Ai w.params "vote" (.s kk6 vv6),Aa vs 0] [] (np+310) (tp+598) gg,
 Q34 tm nm ws2 ew2 np tp gg xW 80,
 Q18 xW (tp+598) np tp 599 gg KW.1 w KW.D KW.2 KW.x KW.tx KW.k1 KW.k2 KW.k3 KW.k4 KW.k5 KW.N (↑KW.n) KW.tn (↑KW.m) KW.tm KW.s KW.3 KW.Q (↑KW.b) KW.tb KW.4 KW.cs nq tq,
 Pt n2 (Aa vs 0) nq 310 tq 599 gg vs 600 14 0 601,
 B5 (↑vs.size+(sm+3).fmod (sV - ↑vs.size+1)) (t4+604) (↑vs.size) (tq+600) (nq+310) (tq+601) gg,
 B5 lo tlo 1 (tq+603) (nq+310) (tq+604) gg,
 Q2 nq 310 1 (tq+602) (lo+1) (tq+604) tq 605 311 606 gg 86 1 (tq+602) (lo+1) (tq+604) 312,
 qP (some [kF,kB]) (owC w.params n (nq+1) (nq+2) (nq+3) (nq+4)) [(nq+311,Ac 1 (Builtin.Range.rangeSize 1 (lo+1) 1) 1),(nq+312,Aa #[] 0),(nq+313,An #[] 0),(nq+314,Ld),(n+315,Ag (.ref (n2+310))),(n2+310,Aa vs 0),(n+314,Ag (.int (((vs.size:Int)+(sm+3).fmod (sV - (vs.size:Int)+1))+(vs.size:Int)) (tq+601)))] ps6 ps7 (nq+315) (tq+606) gg (.ok (.next)) [87,88,89,90,7,14,6] [Ac xf 0 1,Aa os2 eo,An #[] 0,Ag (.int xg kg),Ag (.ref (n2+310)),Aa vs 0,Ag (.int (((vs.size:Int)+(sm+3).fmod (sV - (vs.size:Int)+1))+(vs.size:Int)) (tq+601))] [] (nr+310) (tr+598) gg,
 qC (.call (.builtin "str.__mul__") ⟨[.str (⟨#[9]⟩:Str) (tr+599),.int (↑vs.size+(sm+3).fmod (sV - ↑vs.size+1)+↑vs.size) (tq+601)],[]⟩) [] (nr+310) (tr+600) gg (.ok (.ret (.str xV tV1))) [] [] [] (nr+310) (tV2+598) gg,
 Q18 xV tV1 nr tV2 598 gg KV.1 w KV.D KV.2 KV.x KV.tx KV.k1 KV.k2 KV.k3 KV.k4 KV.k5 KV.N (↑KV.n) KV.tn (↑KV.m) KV.tm KV.s KV.3 KV.Q (↑KV.b) KV.tb KV.4 KV.cs ns ts,
 Q23 KW.C KV.C w KW.D KW.x KW.tx KW.k1 KW.k2 KW.k3 KW.k4 KW.k5 KW.N (KW.n:Int) KW.tn (KW.m:Int) KW.tm KW.s KW.Q (KW.b:Int) KW.tb KW.cs KV.D KV.x KV.tx KV.k1 KV.k2 KV.k3 KV.k4 KV.k5 KV.N (KV.n:Int) KV.tn (KV.m:Int) KV.tm KV.s KV.Q (KV.b:Int) KV.tb KV.cs ps7 ps8 ns ts gg Y2 82 83 84 85 91 92 93 94 zs ez nu tu2,
 qP (some [kF,kB]) (.call (.builtin "list.__eq__") ⟨[.ref (Y2+310),.ref (nq+312)],[]⟩) [(Y2+310,Ax zs ez),(nq+312,(Aa os2 eo))] ps8 ps8 (nu+310) (tu2+598) gg (.ok (.ret (.bool true))) [95,88] [(Aa zs ez),(Aa os2 eo)] [] (nu+310) (tu2+598) gg]
noncomputable def Z0(w:World)(os:OsState)(S:Nat→Slot)(n:Nat)(t:Nat)(g:Nat)(sc:Nat)(sv:Array Value)(se:Nat)(l1:Array Value)(lv:Array Value)(vs:Array Value)(l2:Array Value)(e1:Nat)(n2:Nat)(t2:Nat)(t3:Nat)(sd:Nat)(sm:Int)(kk2:Nat)(kk3:Nat)(kk4:Nat)(kk5:Nat)(vv2:Value)(vv3:Value)(vv4:Value)(vv5:Value)(j1:Nat)(sV:Int)(tV:Nat)(t4:Nat)(ga:Array Value)(ra:Array Value)(gj:Array Value)(rj:Array Value)(ca:Array Value)(cj:Array Value)(ega:Nat)(era:Nat)(egj:Nat)(erj:Nat)(eca:Nat)(ecj:Nat)(Na:Nat)(Xa:Nat)(Nj:Nat)(Xj:Nat)(Nc:Nat)(Nd:Nat)(n5:Nat)(t5:Nat)(n6:Nat)(t6:Nat)(n7:Nat)(t7:Nat)(n8:Nat)(t8:Nat)(ul:Array Value)(ll:Array Value)(eu:Nat)(ell:Nat)(x9:Int)(xa:Int)(up:Int)(lo:Int)(mv:Int)(tu:Nat)(tlo:Nat)(tmv:Nat)(n9:Nat)(t9:Nat)(na:Nat)(ta:Nat)(wl:Array Value)(ew:Nat)(xb:Int)(nb:Nat)(tb:Nat)(tc:Nat)(tc1:Nat)(nc:Nat)(gc:Nat)(td:Nat)(td1:Nat)(nd:Nat)(gd:Nat)(ne:Nat)(te:Nat)(ge:Nat)(nf:Nat)(tf:Nat)(ng:Nat)(tg:Nat)(gg:Nat)(nh:Nat)(th:Nat)(R1:Nat)(R2:Nat)(R3:Nat)(R4:Nat)(er1:Nat)(er2:Nat)(er3:Nat)(er4:Nat)(r1:Array Value)(r2:Array Value)(r3:Array Value)(r4:Array Value)(bs:Array Value)(eb:Nat)(jB:Nat)(tB0:Nat)(ni:Nat)(ti:Nat)(nj:Nat)(tj:Nat)(xB:Str)(KB:LeadK)(KT:LeadK)(KW:LeadK)(KV:LeadK)(xd:Int)(xe:Int)(kd:Nat)(nk:Nat)(tk:Nat)(Y1:Nat)(ds:Array Value)(ys:Array Value)(zs:Array Value)(ed:Nat)(ey:Nat)(ez:Nat)(eo:Nat)(xT:Str)(tT:Nat)(tT2:Nat)(nl:Nat)(tl:Nat)(nm:Nat)(tm:Nat)(jW:Nat)(kk6:Nat)(np:Nat)(tp:Nat)(nq:Nat)(tq:Nat)(ew2:Nat)(vv6:Value)(ws2:Array Value)(xW:Str)(xf:Int)(xg:Int)(kg:Nat)(nr:Nat)(tr:Nat)(ns:Nat)(ts:Nat)(nu:Nat)(tu2:Nat)(Y2:Nat)(tV1:Nat)(tV2:Nat)(xV:Str)(os2:Array Value)(ps:LO)(ps1:LO)(ps2:LO)(ps3:LO)(ps4:LO)(ps5:LO)(ps6:LO)(ps7:LO)(ps8:LO)(okk:OV)(b1 b2:Bool):Ao:=B7 (Ak (Z w os b1 b2) (Ab [kB] S 0) (A3z okk) (.call (.ref 309) ⟨[.ref (sc+310)],[]⟩) ([(sc+310,Aa sv se),(306,De)]) (n+310) (t+598) g (A4p okk) (Fv w n t g sc sv se l1 lv vs l2 e1 n2 t2 t3 sd sm okk kk2 kk3 kk4 kk5 vv2 vv3 vv4 vv5 j1 sV tV t4 ga ra gj rj ca cj ega era egj erj eca ecj Na Xa Nj Xj Nc Nd n5 t5 n6 t6 n7 t7 n8 t8 ul ll eu ell x9 xa up lo mv tu tlo tmv n9 t9 na ta wl ew xb nb tb tc tc1 nc gc td td1 nd gd ne te ge nf tf ng tg gg nh th R1 R2 R3 R4 er1 er2 er3 er4 r1 r2 r3 r4 bs eb jB tB0 ni ti nj tj xB KB KT KW KV xd xe kd nk tk Y1 ds ys zs ed ey ez eo xT tT tT2 nl tl nm tm jW kk6 np tp nq tq ew2 vv6 ws2 xW xf xg kg nr tr ns ts nu tu2 Y2 tV1 tV2 xV os2 ps ps1 ps2 ps3 ps4 ps5 ps6 ps7 ps8) ps) [0,1] (Fv w n t g sc sv se l1 lv vs l2 e1 n2 t2 t3 sd sm okk kk2 kk3 kk4 kk5 vv2 vv3 vv4 vv5 j1 sV tV t4 ga ra gj rj ca cj ega era egj erj eca ecj Na Xa Nj Xj Nc Nd n5 t5 n6 t6 n7 t7 n8 t8 ul ll eu ell x9 xa up lo mv tu tlo tmv n9 t9 na ta wl ew xb nb tb tc tc1 nc gc td td1 nd gd ne te ge nf tf ng tg gg nh th R1 R2 R3 R4 er1 er2 er3 er4 r1 r2 r3 r4 bs eb jB tB0 ni ti nj tj xB KB KT KW KV xd xe kd nk tk Y1 ds ys zs ed ey ez eo xT tT tT2 nl tl nm tm jW kk6 np tp nq tq ew2 vv6 ws2 xW xf xg kg nr tr ns ts nu tu2 Y2 tV1 tV2 xV os2 ps ps1 ps2 ps3 ps4 ps5 ps6 ps7 ps8)
noncomputable def A01(w:World)(os:OsState)(S:Nat→Slot)(n:Nat)(t:Nat)(g:Nat)(sc:Nat)(sv:Array Value)(se:Nat)(l1:Array Value)(lv:Array Value)(vs:Array Value)(l2:Array Value)(e1:Nat)(n2:Nat)(t2:Nat)(t3:Nat)(sd:Nat)(sm:Int)(kk2:Nat)(kk3:Nat)(kk4:Nat)(kk5:Nat)(vv2:Value)(vv3:Value)(vv4:Value)(vv5:Value)(j1:Nat)(sV:Int)(tV:Nat)(t4:Nat)(ga:Array Value)(ra:Array Value)(gj:Array Value)(rj:Array Value)(ca:Array Value)(cj:Array Value)(ega:Nat)(era:Nat)(egj:Nat)(erj:Nat)(eca:Nat)(ecj:Nat)(Na:Nat)(Xa:Nat)(Nj:Nat)(Xj:Nat)(Nc:Nat)(Nd:Nat)(n5:Nat)(t5:Nat)(n6:Nat)(t6:Nat)(n7:Nat)(t7:Nat)(n8:Nat)(t8:Nat)(ul:Array Value)(ll:Array Value)(eu:Nat)(ell:Nat)(x9:Int)(xa:Int)(up:Int)(lo:Int)(mv:Int)(tu:Nat)(tlo:Nat)(tmv:Nat)(n9:Nat)(t9:Nat)(na:Nat)(ta:Nat)(wl:Array Value)(ew:Nat)(xb:Int)(nb:Nat)(tb:Nat)(tc:Nat)(tc1:Nat)(nc:Nat)(gc:Nat)(td:Nat)(td1:Nat)(nd:Nat)(gd:Nat)(ne:Nat)(te:Nat)(ge:Nat)(nf:Nat)(tf:Nat)(ng:Nat)(tg:Nat)(gg:Nat)(nh:Nat)(th:Nat)(R1:Nat)(R2:Nat)(R3:Nat)(R4:Nat)(er1:Nat)(er2:Nat)(er3:Nat)(er4:Nat)(r1:Array Value)(r2:Array Value)(r3:Array Value)(r4:Array Value)(bs:Array Value)(eb:Nat)(jB:Nat)(tB0:Nat)(ni:Nat)(ti:Nat)(nj:Nat)(tj:Nat)(xB:Str)(KB:LeadK)(KT:LeadK)(KW:LeadK)(KV:LeadK)(xd:Int)(xe:Int)(kd:Nat)(nk:Nat)(tk:Nat)(Y1:Nat)(ds:Array Value)(ys:Array Value)(zs:Array Value)(ed:Nat)(ey:Nat)(ez:Nat)(eo:Nat)(xT:Str)(tT:Nat)(tT2:Nat)(nl:Nat)(tl:Nat)(nm:Nat)(tm:Nat)(jW:Nat)(kk6:Nat)(np:Nat)(tp:Nat)(nq:Nat)(tq:Nat)(ew2:Nat)(vv6:Value)(ws2:Array Value)(xW:Str)(xf:Int)(xg:Int)(kg:Nat)(nr:Nat)(tr:Nat)(ns:Nat)(ts:Nat)(nu:Nat)(tu2:Nat)(Y2:Nat)(tV1:Nat)(tV2:Nat)(xV:Str)(os2:Array Value)(ps:LO)(ps1:LO)(ps2:LO)(ps3:LO)(ps4:LO)(ps5:LO)(ps6:LO)(ps7:LO)(ps8:LO)(okk:OV)(b1 b2:Bool):Ao:=B6 (Ak (Z w os b1 b2) (Ab [kB] S 0) (A3z okk) (.call (.ref 309) ⟨[.ref (sc+310)],[]⟩) ([(sc+310,Aa sv se),(306,De)]) (n+310) (t+598) g (A4p okk) (Fv w n t g sc sv se l1 lv vs l2 e1 n2 t2 t3 sd sm okk kk2 kk3 kk4 kk5 vv2 vv3 vv4 vv5 j1 sV tV t4 ga ra gj rj ca cj ega era egj erj eca ecj Na Xa Nj Xj Nc Nd n5 t5 n6 t6 n7 t7 n8 t8 ul ll eu ell x9 xa up lo mv tu tlo tmv n9 t9 na ta wl ew xb nb tb tc tc1 nc gc td td1 nd gd ne te ge nf tf ng tg gg nh th R1 R2 R3 R4 er1 er2 er3 er4 r1 r2 r3 r4 bs eb jB tB0 ni ti nj tj xB KB KT KW KV xd xe kd nk tk Y1 ds ys zs ed ey ez eo xT tT tT2 nl tl nm tm jW kk6 np tp nq tq ew2 vv6 ws2 xW xf xg kg nr tr ns ts nu tu2 Y2 tV1 tV2 xV os2 ps ps1 ps2 ps3 ps4 ps5 ps6 ps7 ps8) ps) (.res (.ok (.ret (.bool true)))) ([(sc+310,(Aa sv se)),(306,({cls:=.none,data:=.fields #[.int 268 0,.int 39 0,.ref (nb+316),.int 270 0,.int 40 0,.ref (nc+316)]}:Obj))]) ps8 (nu+310) (tu2+598) gg (Fv w n t g sc sv se l1 lv vs l2 e1 n2 t2 t3 sd sm okk kk2 kk3 kk4 kk5 vv2 vv3 vv4 vv5 j1 sV tV t4 ga ra gj rj ca cj ega era egj erj eca ecj Na Xa Nj Xj Nc Nd n5 t5 n6 t6 n7 t7 n8 t8 ul ll eu ell x9 xa up lo mv tu tlo tmv n9 t9 na ta wl ew xb nb tb tc tc1 nc gc td td1 nd gd ne te ge nf tf ng tg gg nh th R1 R2 R3 R4 er1 er2 er3 er4 r1 r2 r3 r4 bs eb jB tB0 ni ti nj tj xB KB KT KW KV xd xe kd nk tk Y1 ds ys zs ed ey ez eo xT tT tT2 nl tl nm tm jW kk6 np tp nq tq ew2 vv6 ws2 xW xf xg kg nr tr ns ts nu tu2 Y2 tV1 tV2 xV os2 ps ps1 ps2 ps3 ps4 ps5 ps6 ps7 ps8)
theorem A8l(w:World)(os:OsState)(S:Nat→Slot)(n:Nat)(t:Nat)(g:Nat)(sc:Nat)(sv:Array Value)(se:Nat)(l1:Array Value)(lv:Array Value)(vs:Array Value)(l2:Array Value)(e1:Nat)(n2:Nat)(t2:Nat)(t3:Nat)(sd:Nat)(sm:Int)(kk2:Nat)(kk3:Nat)(kk4:Nat)(kk5:Nat)(vv2:Value)(vv3:Value)(vv4:Value)(vv5:Value)(j1:Nat)(sV:Int)(tV:Nat)(t4:Nat)(ga:Array Value)(ra:Array Value)(gj:Array Value)(rj:Array Value)(ca:Array Value)(cj:Array Value)(ega:Nat)(era:Nat)(egj:Nat)(erj:Nat)(eca:Nat)(ecj:Nat)(Na:Nat)(Xa:Nat)(Nj:Nat)(Xj:Nat)(Nc:Nat)(Nd:Nat)(n5:Nat)(t5:Nat)(n6:Nat)(t6:Nat)(n7:Nat)(t7:Nat)(n8:Nat)(t8:Nat)(ul:Array Value)(ll:Array Value)(eu:Nat)(ell:Nat)(x9:Int)(xa:Int)(up:Int)(lo:Int)(mv:Int)(tu:Nat)(tlo:Nat)(tmv:Nat)(n9:Nat)(t9:Nat)(na:Nat)(ta:Nat)(wl:Array Value)(ew:Nat)(xb:Int)(nb:Nat)(tb:Nat)(tc:Nat)(tc1:Nat)(nc:Nat)(gc:Nat)(td:Nat)(td1:Nat)(nd:Nat)(gd:Nat)(ne:Nat)(te:Nat)(ge:Nat)(nf:Nat)(tf:Nat)(ng:Nat)(tg:Nat)(gg:Nat)(nh:Nat)(th:Nat)(R1:Nat)(R2:Nat)(R3:Nat)(R4:Nat)(er1:Nat)(er2:Nat)(er3:Nat)(er4:Nat)(r1:Array Value)(r2:Array Value)(r3:Array Value)(r4:Array Value)(bs:Array Value)(eb:Nat)(jB:Nat)(tB0:Nat)(ni:Nat)(ti:Nat)(nj:Nat)(tj:Nat)(xB:Str)(KB:LeadK)(KT:LeadK)(KW:LeadK)(KV:LeadK)(xd:Int)(xe:Int)(kd:Nat)(nk:Nat)(tk:Nat)(Y1:Nat)(ds:Array Value)(ys:Array Value)(zs:Array Value)(ed:Nat)(ey:Nat)(ez:Nat)(eo:Nat)(xT:Str)(tT:Nat)(tT2:Nat)(nl:Nat)(tl:Nat)(nm:Nat)(tm:Nat)(jW:Nat)(kk6:Nat)(np:Nat)(tp:Nat)(nq:Nat)(tq:Nat)(ew2:Nat)(vv6:Value)(ws2:Array Value)(xW:Str)(xf:Int)(xg:Int)(kg:Nat)(nr:Nat)(tr:Nat)(ns:Nat)(ts:Nat)(nu:Nat)(tu2:Nat)(Y2:Nat)(tV1:Nat)(tV2:Nat)(xV:Str)(os2:Array Value)(ps:LO)(ps1:LO)(ps2:LO)(ps3:LO)(ps4:LO)(ps5:LO)(ps6:LO)(ps7:LO)(ps8:LO)(okk:OV):∀(b1 b2:Bool),Z0 w os S n t g sc sv se l1 lv vs l2 e1 n2 t2 t3 sd sm kk2 kk3 kk4 kk5 vv2 vv3 vv4 vv5 j1 sV tV t4 ga ra gj rj ca cj ega era egj erj eca ecj Na Xa Nj Xj Nc Nd n5 t5 n6 t6 n7 t7 n8 t8 ul ll eu ell x9 xa up lo mv tu tlo tmv n9 t9 na ta wl ew xb nb tb tc tc1 nc gc td td1 nd gd ne te ge nf tf ng tg gg nh th R1 R2 R3 R4 er1 er2 er3 er4 r1 r2 r3 r4 bs eb jB tB0 ni ti nj tj xB KB KT KW KV xd xe kd nk tk Y1 ds ys zs ed ey ez eo xT tT tT2 nl tl nm tm jW kk6 np tp nq tq ew2 vv6 ws2 xW xf xg kg nr tr ns ts nu tu2 Y2 tV1 tV2 xV os2 ps ps1 ps2 ps3 ps4 ps5 ps6 ps7 ps8 okk b1 b2=A01 w os S n t g sc sv se l1 lv vs l2 e1 n2 t2 t3 sd sm kk2 kk3 kk4 kk5 vv2 vv3 vv4 vv5 j1 sV tV t4 ga ra gj rj ca cj ega era egj erj eca ecj Na Xa Nj Xj Nc Nd n5 t5 n6 t6 n7 t7 n8 t8 ul ll eu ell x9 xa up lo mv tu tlo tmv n9 t9 na ta wl ew xb nb tb tc tc1 nc gc td td1 nd gd ne te ge nf tf ng tg gg nh th R1 R2 R3 R4 er1 er2 er3 er4 r1 r2 r3 r4 bs eb jB tB0 ni ti nj tj xB KB KT KW KV xd xe kd nk tk Y1 ds ys zs ed ey ez eo xT tT tT2 nl tl nm tm jW kk6 np tp nq tq ew2 vv6 ws2 xW xf xg kg nr tr ns ts nu tu2 Y2 tV1 tV2 xV os2 ps ps1 ps2 ps3 ps4 ps5 ps6 ps7 ps8 okk b1 b2
 |false,_=>by cases okk<;>kernel_rfl
 |true,_=>by cases okk<;>kernel_rfl
theorem Sk(n t g sc:Nat)(sv:Array Value)(se:Nat)(l1 lv vs l2:Array Value)(e1 n2 t2 t3 sd:Nat)(sm:Int)(okk:OV)(kk2 kk3 kk4 kk5:Nat)(vv2 vv3 vv4 vv5:Value)(j1:Nat)(sV:Int)(tV t4:Nat)(ga ra gj rj ca cj:Array Value)(ega era egj erj eca ecj Na Xa Nj Xj Nc Nd n5 t5 n6 t6 n7 t7 n8 t8:Nat)(ul ll:Array Value)(eu ell:Nat)(x9 xa up lo mv:Int)(tu tlo tmv n9 t9 na ta:Nat)  (wl:Array Value) (ew:Nat) (xb:Int) (nb tb:Nat)  (tc tc1 nc gc td td1 nd gd ne te ge nf tf ng tg gg nh th R1 R2 R3 R4 er1 er2 er3 er4:Nat) (r1 r2 r3 r4:Array Value) (bs:Array Value) (eb jB tB0:Nat)  (ni ti nj tj:Nat) (xB:Str) (KB KT KW KV:LeadK) (xd xe:Int) (kd nk tk Y1:Nat) (ds ys zs:Array Value) (ed ey ez eo:Nat) (xT:Str) (tT tT2 nl tl nm tm:Nat) (jW kk6 np tp nq tq ew2:Nat) (vv6:Value) (ws2:Array Value) (xW:Str) (xf xg:Int) (kg nr tr ns ts nu tu2 Y2 tV1 tV2:Nat) (xV:Str) (os2:Array Value) (ps ps1 ps2 ps3 ps4 ps5 ps6 ps7 ps8:LO) (b1 b2:Bool) (hL:ObRs (Z w os b1 b2) (Fv w n t g sc sv se l1 lv vs l2 e1 n2 t2 t3 sd sm okk kk2 kk3 kk4 kk5 vv2 vv3 vv4 vv5 j1 sV tV t4 ga ra gj rj ca cj ega era egj erj eca ecj Na Xa Nj Xj Nc Nd n5 t5 n6 t6 n7 t7 n8 t8 ul ll eu ell x9 xa up lo mv tu tlo tmv n9 t9 na ta wl ew xb nb tb tc tc1 nc gc td td1 nd gd ne te ge nf tf ng tg gg nh th R1 R2 R3 R4 er1 er2 er3 er4 r1 r2 r3 r4 bs eb jB tB0 ni ti nj tj xB KB KT KW KV xd xe kd nk tk Y1 ds ys zs ed ey ez eo xT tT tT2 nl tl nm tm jW kk6 np tp nq tq ew2 vv6 ws2 xW xf xg kg nr tr ns ts nu tu2 Y2 tV1 tV2 xV os2 ps ps1 ps2 ps3 ps4 ps5 ps6 ps7 ps8)):Does (Z w os b1 b2) (.call (.ref 309) ⟨[.ref (sc+310)],[]⟩) (Ab [kB] S 0) (([(sc+310,Aa sv se),(306,De)])++ps) (n+310) (t+598) g (.ok (.ret (.bool true))) (([(sc+310,Aa sv se),(306,O0 nb nc)])++ps8) (nu+310) (tu2+598) gg:=
 by rw [show ([(sc+310,Aa sv se),(306,O0 nb nc)]:LO)=[(sc+310,(Aa sv se)),(306,({cls:=.none,data:=.fields #[.int 268 0,.int 39 0,.ref (nb+316),.int 270 0,.int 40 0,.ref (nc+316)]}:Obj))] from by kernel_rfl];exact Bo (A3z okk) (A4p okk) [0,1] hL (by decide) (fun p=>congrFun (A8l w os S n t g sc sv se l1 lv vs l2 e1 n2 t2 t3 sd sm kk2 kk3 kk4 kk5 vv2 vv3 vv4 vv5 j1 sV tV t4 ga ra gj rj ca cj ega era egj erj eca ecj Na Xa Nj Xj Nc Nd n5 t5 n6 t6 n7 t7 n8 t8 ul ll eu ell x9 xa up lo mv tu tlo tmv n9 t9 na ta wl ew xb nb tb tc tc1 nc gc td td1 nd gd ne te ge nf tf ng tg gg nh th R1 R2 R3 R4 er1 er2 er3 er4 r1 r2 r3 r4 bs eb jB tB0 ni ti nj tj xB KB KT KW KV xd xe kd nk tk Y1 ds ys zs ed ey ez eo xT tT tT2 nl tl nm tm jW kk6 np tp nq tq ew2 vv6 ws2 xW xf xg kg nr tr ns ts nu tu2 Y2 tV1 tV2 xV os2 ps ps1 ps2 ps3 ps4 ps5 ps6 ps7 ps8 okk  b1 b2) p)
def Dt(l:List Nat):List Nat:=(Bt l [] 0 0 0).1
def I7(l:List Nat):Nat:=(Bt l [] 0 0 0).2.2.2
noncomputable def Gr(V:List Nat):List Nat:=V.flatMap fun v=>List.replicate (v-1) 32++[9]
noncomputable def Gp(V:List Nat):List Nat:=V.flatMap fun v=>List.replicate v 32++[9]
structure LeadOk (l:List Nat):Prop where
 form:∃k r,l=List.replicate k 32++9::r∧(∀c∈r,c=32∨c=9)∧k+r.length≤99
 rest:(Bt l [] 0 0 0).2.1=0
 len:1≤(Dt l).length∧(Dt l).length < 8
theorem Io(b1 b2:Bool)(n t g:Nat)(x:Str)(tx:Nat)(l:List Nat)(hx:x.cps.toList=l)(h:LeadOk l):
  ∃(n' t':Nat) (K:LeadK),n≤n'∧K.C=n+1∧K.D=n∧n≤K.N∧n≤K.Q∧NatL K.cs (Dt l)∧K.b=0∧K.m=I7 l ∧
  ∀S,Does (Z w os b1 b2) (.call (.ref 83) ⟨[.str x tx],[]⟩) (Ab [kF,kB] S 0) [] (n+310) (t+598) g (.ok (.ret (.ref (K.C+310)))) (Cb w.params K) (n'+310) (t'+598) g:=by
 refine Af fun Gz hGz=>?_
 obtain ⟨k,r,rfl,h1,h2⟩:=h.form
 refine Nv (A86 (w:=w) (os:=os) b1 b2 n t g x tx r k hx h1 h2 h.len.2) fun n' t' K a1 a2 a3 a4 a5 a6 a7 a8 D=>?_
 refine hGz ?_
 refine Wn n' t' K ⟨a1,a2,a3,a4,a5,a6,a7.trans h.rest,a8,fun S=>?_⟩
 rw [a2]
 exact D S
def Cr(V:List Nat)(s a:Nat):List Nat:=(En V a s (List.replicate V.length 0) []).2
structure Good (V:List Nat) (s U W:Nat):Prop where
 c:∀a,a≤1→Ju V s a=(En V a s (List.replicate V.length 0) []).1
 h0:∀h∈Cr V s 0,1≤h∧h≤40
 h1:∀h∈Cr V s 1,h≤40
 up:∃x l,K7 V (Cr V s 0) V.length 0=x::l∧Ku (x:Int) (l.map Int.ofNat)=(U:Int)
 lo:∃x l,Ir V (Cr V s 1) V.length 0=x::l∧Nb (x:Int) (l.map Int.ofNat)=(W:Int)
 ne:∀W,1≤W→W≤6→1≤(Cf W V).length
 u6:1≤U∧U≤6
 w6:1≤W∧W≤6
 bl:Dh (Og V (-(s:Int))) 6=(U:Int) - 1
 bk:Dh (Ms V (-(s:Int))) 6=(W:Int)
 lb:LeadOk (Gr V)
 lw:LeadOk (Gp V)
 n1:Df (Bj (Dt (List.replicate s 9)) 0 (I7 (List.replicate s 9))) (Bj (Dt (Gr V)) 0 (I7 (Gr V))) (max ((Dt (List.replicate s 9)).length - 1) ((Dt (Gr V)).length - 1)+1) 1=Rk V s (7 - U) U
 n2:Df (Bj (Dt (Gp V)) 0 (I7 (Gp V))) (Bj (Dt (List.replicate (s+V.length) 9)) 0 (I7 (List.replicate (s+V.length) 9))) (max ((Dt (Gp V)).length - 1) ((Dt (List.replicate (s+V.length) 9)).length - 1)+1) 1=Sx V (s+V.length) W 1
theorem A08(s:Nat)(h1:1≤s)(h2:s≤90):LeadOk (List.replicate s 9):=by
 refine Af fun Gz hGz=>?_
 obtain ⟨k,rfl⟩:∃k,s=k+1:=⟨s - 1,A2j h1⟩
 have H:∀k a n m,Bt (List.replicate k 9) [a] 0 n m=([a+k],0,n+k,m+k):=by
  intro k
  induction k with
  |zero=>intro a n m;rfl
  |succ k ih=>
   intro a n m
   rw [List.replicate_succ]
   show Bt (List.replicate k 9) [a+1] 0 (n+1) (m+1)=_
   rw [ih,Nat.add_right_comm a,Nat.add_right_comm n,Nat.add_right_comm m];rfl
 have e:Bt (List.replicate (k+1) 9) [] 0 0 0=([1+k],0,1+k,1+k):=by
  rw [List.replicate_succ]
  show Bt (List.replicate k 9) [1] 0 1 1=_
  rw [H]
 refine hGz ?_
 refine ⟨⟨0,List.replicate k 9,by rw [List.replicate_succ];rfl,fun c h=>.inr (List.eq_of_mem_replicate h),by rw [List.length_replicate];lia⟩,by rw [e],?_⟩
 unfold Dt
 rw [e]
 show 1≤1∧1 < 8
 lia
theorem J0(n c:Nat):(Cs (⟨#[c]⟩:Str) n).cps.toList=List.replicate n c:=by
 unfold Cs
 have H:∀k (a:Array Nat),((List.replicate k #[c]).foldl (·++·) a).toList=a.toList++List.replicate k c:=by
  intro k
  induction k with
  |zero=>intro a;simp
  |succ k ih=>intro a;rw [List.replicate_succ,List.foldl_cons,ih,List.replicate_succ];simp
 rw [H];rfl
theorem Pq(l:List Str):(Txt.join (Str.ofString "") l).cps.toList=l.flatMap fun x=>x.cps.toList:=by
 have he:(Str.ofString "").cps=#[]:=by decide
 have H:∀l:List Str,(Str.join (Str.ofString "") l).cps.toList=l.flatMap fun x=>x.cps.toList:=by
  intro l
  induction l with
  |nil=>rfl
  |cons x l ih=>
   cases l with
   |nil=>show x.cps.toList=_;simp
   |cons y l=>
    show ((x.cps++(Str.ofString "").cps)++(Str.join (Str.ofString "") (y::l)).cps).toList=_
    rw [he,Array.append_empty,Array.toList_append,ih]
    simp
 show (Builtin.Str.glued (Str.ofString "") l).cps.toList=_
 rw [StrLaws.glued_eq_join]
 exact H l
theorem Xl(l:List Str)(h:∀x∈l,x.length≤7)(h5:l.length≤5):PySem.Builtin.Str.tooLong (l.toArray.foldl (·+·.length+(Str.ofString "").length) 0)=false:=by
 have he:(Str.ofString "").length=0:=by decide
 have H:∀(l:List Str) (a:Nat),(∀x∈l,x.length≤7)→l.foldl (·+·.length+(Str.ofString "").length) a≤a+7*l.length:=by
  intro l
  induction l with
  |nil=>intro a _;exact Nat.le_refl _
  |cons x l ih=>
   intro a h
   rw [List.foldl_cons]
   have h1:=ih (a+x.length+(Str.ofString "").length) fun y hy=>h y (.tail _ hy)
   have h2:=h x (.head _)
   rw [List.length_cons]
   rw [he] at h1 ⊢
   lia
 have T:∀j < 101,PySem.Builtin.Str.tooLong j=false:=by decide +kernel
 refine T _ ?_
 rw [List.foldl_toArray' (h:=rfl)]
 have:=H l 0 h
 lia
theorem Tc(v:Nat):(My v).cps.toList=List.replicate (v-1) 32++[9]:=by
 show ((Cs (Str.ofString " ") (v-1)).cps++#[9]).toList=_
 rw [Array.toList_append]
 congr 1
 exact J0 (v-1) 32
theorem S9(v:Nat):(Mo v).cps.toList=List.replicate v 32++[9]:=by
 show ((Cs (Str.ofString " ") v).cps++#[9]).toList=_
 rw [Array.toList_append]
 congr 1
 exact J0 v 32
theorem A8i(f:Nat→List Nat)(V:List Nat) (hV:∀v∈V,(f v).length≤7):(V.flatMap f).length≤7*V.length:=by
 induction V with
 |nil=>simp
 |cons v V ih=>
  rw [List.flatMap_cons,List.length_append,List.length_cons]
  have:=ih fun u h=>hV u (.tail _ h)
  have:=hV v (.head _)
  lia
section
theorem Adb{vs:Array Value}{V:List Nat}(hV:NatL vs V):Builtin.Range.rangeSize 0 (vs.size:Int) 1=(V.length:Int):=by
 rw [hV.size];exact Eq (by omega)
section
variable {w:World}{os:OsState}(b1 b2:Bool)(g c it acc D n t:Nat)
theorem A7j(Va Ha ev eh:Nat)(vs hs:Array Value)(V H:List Nat)(hV:NatL vs V)(hH:NatL hs H)(hl:H.length=V.length)(h5:V.length≤5)(hb:∀h∈H,1≤h∧h≤40)(h1:1≤V.length):
  ∃(t' e' kk:Nat) (vv:Value) (rs:Array Value) (y:Int),NatL rs (K7 V H V.length 0) ∧
  ∀S,Does (Z w os b1 b2) (upC w.params c it acc D) (Ab [kF,kB] S 0) [(it+310,Ac 0 (Builtin.Range.rangeSize 0 (vs.size:Int) 1) 1),(acc+310,Aa #[] 0),(D+310,An #[] 0),(c+312,Ag (.ref (Ha+310))),(c+315,Ag (.ref (Va+310))),(Va+310,Aa vs ev),(Ha+310,Aa hs eh)] (n+310) (t+598) g (.ok .next) [(it+310,Ac y 0 1),(acc+310,Aa rs e'),(D+310,Ai w.params "party" (.s kk vv)),(c+312,Ag (.ref (Ha+310))),(c+315,Ag (.ref (Va+310))),(Va+310,Aa vs ev),(Ha+310,Aa hs eh)] (n+2+310) (t'+598) g:=by
 refine Af fun Gz hGz=>?_
 refine O8 (A7k (w:=w) (os:=os) b1 b2 g c it acc D Va Ha ev eh vs hs V H hV hH hl h5 hb V.length 0 n t .n 0 #[] [] (Nat.zero_add _) (Nat.le_refl _) rfl) fun t' e' o' rs y h2 h3 DD=>?_
 obtain ⟨kk,vv,rfl⟩:=h3.s h1
 refine hGz ?_
 rw [Adb hV]
 exact D8 t' e' kk vv rs y ⟨h2,fun S=>Y7 (w:=w) (os:=os) (S:=S) n t g c it acc D (V.length:Int) Va Ha vs hs ev eh b1 b2 trivial (DD S)⟩
theorem A9m(Va Ha ev eh:Nat)(vs hs:Array Value)(V H:List Nat)(hV:NatL vs V)(hH:NatL hs H)(hl:H.length=V.length)(h5:V.length≤5)(hb:∀h∈H,h≤40)(h1:1≤V.length):
  ∃(t' e' kk:Nat) (vv:Value) (rs:Array Value) (y:Int),NatL rs (Ir V H V.length 0) ∧
  ∀S,Does (Z w os b1 b2) (loC w.params c it acc D) (Ab [kF,kB] S 0) [(it+310,Ac 0 (Builtin.Range.rangeSize 0 (vs.size:Int) 1) 1),(acc+310,Aa #[] 0),(D+310,An #[] 0),(c+313,Ag (.ref (Ha+310))),(c+315,Ag (.ref (Va+310))),(Va+310,Aa vs ev),(Ha+310,Aa hs eh)] (n+310) (t+598) g (.ok .next) [(it+310,Ac y 0 1),(acc+310,Aa rs e'),(D+310,Ai w.params "party" (.s kk vv)),(c+313,Ag (.ref (Ha+310))),(c+315,Ag (.ref (Va+310))),(Va+310,Aa vs ev),(Ha+310,Aa hs eh)] (n+2+310) (t'+598) g:=by
 refine Af fun Gz hGz=>?_
 refine O8 (A8c (w:=w) (os:=os) b1 b2 g c it acc D Va Ha ev eh vs hs V H hV hH hl h5 hb V.length 0 n t .n 0 #[] [] (Nat.zero_add _) (Nat.le_refl _) rfl) fun t' e' o' rs y h2 h3 DD=>?_
 obtain ⟨kk,vv,rfl⟩:=h3.s h1
 refine hGz ?_
 rw [Adb hV]
 exact D8 t' e' kk vv rs y ⟨h2,fun S=>Y9 (w:=w) (os:=os) (S:=S) n t g c it acc D (V.length:Int) Va Ha vs hs ev eh b1 b2 trivial (DD S)⟩
theorem A9i:∃(t' e' kk:Nat) (vv:Value) (rs:Array Value) (y:Int),NatL rs six ∧
  ∀S,Does (Z w os b1 b2) (wdC w.params c it acc D) (Ab [kF,kB] S 0) [(it+310,Ac 1 (Builtin.Range.rangeSize 1 (((6:Nat):Int)+1) 1) 1),(acc+310,Aa #[] 0),(D+310,An #[] 0)] (n+310) (t+598) g (.ok .next) [(it+310,Ac y 0 1),(acc+310,Aa rs e'),(D+310,Ai w.params "words" (.s kk vv))] (n+2+310) (t'+598) g:=by
 refine Af fun Gz hGz=>?_
 refine O8 (A7n (w:=w) (os:=os) b1 b2 g c it acc D 6 1 n t .n 0 #[] [] (Nat.le_refl _) (by decide) (by decide) rfl) fun t' e' o' rs y h2 h3 DD=>?_
 obtain ⟨kk,vv,rfl⟩:=h3.s (by decide)
 refine hGz ?_
 exact D8 t' e' kk vv rs y ⟨h2,fun S=>Zf (w:=w) (os:=os) (S:=S) n t g c it acc D 6 b1 b2 trivial (DD S)⟩
theorem A83(Lx el:Nat)(vs:Array Value)(V:List Nat)(hV:NatL vs V)(h5:V.length≤5)(h6:∀v∈V,1≤v∧v≤6)(h1:1≤V.length):
  ∃(t' e' kk:Nat) (vv:Value) (rs:Array Value),TxtL rs (V.map My) ∧
  ∀S,Does (Z w os b1 b2) (bjC w.params c it acc D) (Ab [kF,kB] S 0) [(it+310,Ad (Lx+310) 0),(acc+310,Aa #[] 0),(D+310,An #[] 0),(Lx+310,Aa vs el)] (n+310) (t+598) g (.ok .next) [(it+310,Ar V.length),(acc+310,Aa rs e'),(D+310,Ai w.params "vote" (.s kk vv)),(Lx+310,Aa vs el)] (n+2+310) (t'+598) g:=by
 refine Af fun Gz hGz=>?_
 refine Mh (A7o (w:=w) (os:=os) b1 b2 g c it acc D Lx el vs V hV h5 h6 V.length 0 n t .n 0 #[] [] (Nat.zero_add _) rfl ⟨[],rfl,rfl⟩) fun t' e' o' rs h2 h3 DD=>?_
 obtain ⟨kk,vv,rfl⟩:=h3.s h1
 refine hGz ?_
 exact Ca t' e' kk vv rs ⟨h2,fun S=>A07 (w:=w) (os:=os) (S:=S) n t g c it acc D Lx vs el b1 b2 trivial (DD S)⟩
theorem A7e(Lx el:Nat)(vs:Array Value)(V:List Nat)(hV:NatL vs V)(h5:V.length≤5)(h6:∀v∈V,v≤6)(h1:1≤V.length):
  ∃(t' e' kk:Nat) (vv:Value) (rs:Array Value),TxtL rs (V.map Mo) ∧
  ∀S,Does (Z w os b1 b2) (wjC w.params c it acc D) (Ab [kF,kB] S 0) [(it+310,Ad (Lx+310) 0),(acc+310,Aa #[] 0),(D+310,An #[] 0),(Lx+310,Aa vs el)] (n+310) (t+598) g (.ok .next) [(it+310,Ar V.length),(acc+310,Aa rs e'),(D+310,Ai w.params "vote" (.s kk vv)),(Lx+310,Aa vs el)] (n+2+310) (t'+598) g:=by
 refine Af fun Gz hGz=>?_
 refine Mh (A85 (w:=w) (os:=os) b1 b2 g c it acc D Lx el vs V hV h5 h6 V.length 0 n t .n 0 #[] [] (Nat.zero_add _) rfl ⟨[],rfl,rfl⟩) fun t' e' o' rs h2 h3 DD=>?_
 obtain ⟨kk,vv,rfl⟩:=h3.s h1
 refine hGz ?_
 exact Ca t' e' kk vv rs ⟨h2,fun S=>Zc (w:=w) (os:=os) (S:=S) n t g c it acc D Lx vs el b1 b2 trivial (DD S)⟩
theorem A81(zc Va ev s ts:Nat)(vs:Array Value)(V:List Nat)(si:Int) (hsi:si=(s:Int)) (hV:NatL vs V) (h5:V.length≤5) (h1:1≤V.length) (U:Nat) (hU:1≤U∧U≤6):
  ∃(n' t' e':Nat) (x y:Int) (u:Nat) (M:List TE),n≤n'∧Cn M=Rk V s (7 - U) U∧(∀e∈M,n≤e.y) ∧
  ∀S,Does (Z w os b1 b2) (duC w.params c it acc D zc) (Ab [kF,kB] S 0) [(it+310,Ac (U:Int) (Builtin.Range.rangeSize (U:Int) (((6:Nat):Int)+1) 1) 1),(acc+310,Aa #[] 0),(D+310,An #[] 0),(zc+310,Ld),(c+315,Ag (.ref (Va+310))),(Va+310,Aa vs ev),(c+311,Ag (.int si ts))] (n+310) (t+598) g (.ok .next) ([(it+310,Ac y 0 1),(acc+310,Aa (Ay M) e'),(D+310,An #[] 0),(zc+310,Ag (.int x u)),(c+315,Ag (.ref (Va+310))),(Va+310,Aa vs ev),(c+311,Ag (.int si ts))]++Au M) (n'+310) (t'+598) g:=by
 subst hsi
 refine Af fun Gz hGz=>?_
 refine X5 (A9a (w:=w) (os:=os) b1 b2 g c it acc D zc Va ev s ts vs V hV h5 h1 n (7 - U) U n t 0 none [] hU.1 (by omega) (by simp;omega) (fun _ h=>nomatch h) (Nat.le_refl _)) fun n' t' e' co y M q h2 h3 h4 DD=>?_
 obtain ⟨x,u,rfl⟩:∃x u,co=some (.int x u):=h4.elim (fun h=>absurd h.1 (by omega)) id
 have hr:Builtin.Range.rangeSize (U:Int) (((6:Nat):Int)+1) 1=((7 - U:Nat):Int):=by rw [rangeSize_one];split<;>omega
 refine hGz ?_
 rw [hr]
 exact Lj n' t' e' x y u M ⟨q,h2,h3,fun S=>Xp (w:=w) (os:=os) (S:=S) n t g c it acc D zc (U:Int) (((7 - U):Nat):Int) Va vs ev (s:Int) ts b1 b2 trivial (DD S)⟩
theorem A7z(zc Va ev s ts:Nat)(vs:Array Value)(V:List Nat)(si:Int) (hsi:si=(s:Int)) (hV:NatL vs V) (h5:V.length≤5) (h1:1≤V.length) (U:Nat) (hU:1≤U∧U≤6):
  ∃(n' t' e':Nat) (x y:Int) (u:Nat) (M:List TE),n≤n'∧Cn M=Sx V s U 1∧(∀e∈M,n≤e.y) ∧
  ∀S,Does (Z w os b1 b2) (owC w.params c it acc D zc) (Ab [kF,kB] S 0) [(it+310,Ac 1 (Builtin.Range.rangeSize 1 ((U:Int)+1) 1) 1),(acc+310,Aa #[] 0),(D+310,An #[] 0),(zc+310,Ld),(c+315,Ag (.ref (Va+310))),(Va+310,Aa vs ev),(c+314,Ag (.int si ts))] (n+310) (t+598) g (.ok .next) ([(it+310,Ac y 0 1),(acc+310,Aa (Ay M) e'),(D+310,An #[] 0),(zc+310,Ag (.int x u)),(c+315,Ag (.ref (Va+310))),(Va+310,Aa vs ev),(c+314,Ag (.int si ts))]++Au M) (n'+310) (t'+598) g:=by
 subst hsi
 refine Af fun Gz hGz=>?_
 refine X5 (A8t (w:=w) (os:=os) b1 b2 g c it acc D zc Va ev s ts vs V hV h5 h1 n U 1 n t 0 none [] (Nat.le_refl _) (by omega) (by simp;omega) (fun _ h=>nomatch h) (Nat.le_refl _)) fun n' t' e' co y M q h2 h3 h4 DD=>?_
 obtain ⟨x,u,rfl⟩:∃x u,co=some (.int x u):=h4.elim (fun h=>absurd h.1 (by omega)) id
 have hr:Builtin.Range.rangeSize 1 ((U:Int)+1) 1=(U:Int):=by rw [rangeSize_one];split<;>omega
 refine hGz ?_
 rw [hr]
 exact Lj n' t' e' x y u M ⟨q,h2,h3,fun S=>Zt (w:=w) (os:=os) (S:=S) n t g c it acc D zc 1 ((U:Nat):Int) Va vs ev (s:Int) ts b1 b2 trivial (DD S)⟩
end
section
variable {w:World}{os:OsState}(b1 b2:Bool)(n t g Va ev ts ta:Nat)(vs:Array Value)(V:List Nat)(s a:Nat)(si ai:Int)
theorem Ps (hsi:si=(s:Int)) (hai:ai=(a:Int)) (hV:NatL vs V) (h6:∀v∈V,v≤6) (h5:V.length≤5) (h2:2≤V.length) (ha:a≤1) (hs:s≤30):
  ∃(n' t' N X:Nat) (gs rs:Array Value) (eg er:Nat),(n≤n'∧∀o1 o2 o3:Obj,∀u∈[(n+312,o1),(N+310,o2),(X+310,o3)],n+310≤u.1)∧NatL gs (Cr V s a)∧NatL rs (En V a s (List.replicate V.length 0) []).1 ∧
  ∀S,Does (Z w os b1 b2) (.call (.ref 280) ⟨[.ref (Va+310),.int si ts,.int ai ta],[]⟩) (Ab [kF,kB] S 0) [(Va+310,Aa vs ev)] (n+310) (t+598) g (.ok (.ret (.ref (X+310))))
   [(Va+310,Aa vs ev),(n+312,Aa gs eg),(N+310,Aa rs er),(X+310,L7 (.ref (N+310)) (.ref (n+312)))] (n'+310) (t'+598) g:=by
 subst hsi hai
 refine Af fun Gz hGz=>?_
 refine Ag8 (Wx (w:=w) (os:=os) b1 b2 n t g Va ev ts ta vs V s a hV h6 h5 h2 ha (by omega)) fun n' t' N X gs rs eg er q1 q2 q3 h1 h3 D=>?_
 refine hGz ?_
 refine G7 n' t' N X gs rs eg er ⟨⟨q1,fun o1 o2 o3 u hu=>?_⟩,h1,h3,D⟩
 simp only [List.mem_cons,List.not_mem_nil,or_false] at hu
 rcases hu with rfl | rfl | rfl<;>simp only<;>omega
theorem Mn (hsi:si=(s:Int)) (hai:ai=(a:Int)) (hV:NatL vs V) (h6:∀v∈V,v≤6) (h5:V.length≤5) (h2:2≤V.length) (ha:a≤1) (hs:1≤s∧s≤30):
  ∃(n' t' N:Nat) (rs:Array Value) (er:Nat),(n≤n'∧∀o:Obj,∀u∈[(N+310,o)],n+310≤u.1)∧NatL rs (Ju V s a) ∧
  ∀S,Does (Z w os b1 b2) (.call (.ref 285) ⟨[.ref (Va+310),.int si ts,.int ai ta],[]⟩) (Ab [kF,kB] S 0) [(Va+310,Aa vs ev)] (n+310) (t+598) g (.ok (.ret (.ref (N+310))))
   [(Va+310,Aa vs ev),(N+310,Aa rs er)] (n'+310) (t'+598) g:=by
 subst hsi hai
 refine Af fun Gz hGz=>?_
 refine Kn (Sz (w:=w) (os:=os) b1 b2 n t g Va ev ts ta vs V s a hV h6 h5 h2 ha (by omega)) fun n' t' N rs er q1 q2 h1 D=>?_
 refine hGz ?_
 refine Ca n' t' N rs er ⟨⟨q1,fun o u hu=>?_⟩,h1,D⟩
 rw [List.mem_singleton.mp hu]
 show n+310≤N+310
 omega
end
theorem A9r{LA:List Nat}{vs:Array Value} (hV:NatL vs (6::LA)) (h6:∀v∈LA,v≤6):∃tk:Nat,∀(z:Zed) (bl:List (Code×Pos)) (b:Addr) (ep n t g:Nat),Does z (.call (.builtin "max") ⟨[.ref b],[]⟩) bl [(b,Aa vs ep)] n t g (.ok (.ret (.int ((6:Nat):Int) tk))) [(b,Aa vs ep)] (n+4) t g:=by
 obtain ⟨tk,D⟩:=S6 (x:=((6:Nat):Int)) (L:=LA.map Int.ofNat) hV
 have H:∀l:List Nat,(∀v∈l,v≤6)→Ku ((6:Nat):Int) (l.map Int.ofNat)=((6:Nat):Int):=by
  intro l
  induction l with
  |nil=>intro _;rfl
  |cons a l ih=>
   intro h
   have ha:=h a (.head _)
   show Ku (Xx ((6:Nat):Int) (a:Int)) _=_
   rw [show Xx ((6:Nat):Int) (a:Int)=((6:Nat):Int) from if_neg (by omega)]
   exact ih fun v hv=>h v (.tail _ hv)
 rw [H LA h6] at D
 exact ⟨tk,D⟩
theorem Aa1{V H:List Nat}{ul:Array Value}{k U:Nat} (hul:NatL ul (K7 V H k 0)) (h:∃x l,K7 V H k 0=x::l∧Ku (x:Int) (l.map Int.ofNat)=(U:Int)):∃tk:Nat,∀(z:Zed) (bl:List (Code×Pos)) (b:Addr) (ep n t g:Nat),Does z (.call (.builtin "max") ⟨[.ref b],[]⟩) bl [(b,Aa ul ep)] n t g (.ok (.ret (.int (U:Int) tk))) [(b,Aa ul ep)] (n+4) t g:=by
 refine Af fun Gz hGz=>?_
 obtain ⟨x,l,e,hU⟩:=h
 rw [e] at hul
 refine hGz ?_
 rw [← hU]
 exact S6 (x:=(x:Int)) (L:=l.map Int.ofNat) hul
theorem Afc{V H:List Nat}{ul:Array Value}{k U:Nat} (hul:NatL ul (Ir V H k 0)) (h:∃x l,Ir V H k 0=x::l∧Nb (x:Int) (l.map Int.ofNat)=(U:Int)):∃tk:Nat,∀(z:Zed) (bl:List (Code×Pos)) (b:Addr) (ep n t g:Nat),Does z (.call (.builtin "min") ⟨[.ref b],[]⟩) bl [(b,Aa ul ep)] n t g (.ok (.ret (.int (U:Int) tk))) [(b,Aa ul ep)] (n+4) t g:=by
 refine Af fun Gz hGz=>?_
 obtain ⟨x,l,e,hU⟩:=h
 rw [e] at hul
 refine hGz ?_
 rw [← hU]
 exact A1h (x:=(x:Int)) (L:=l.map Int.ofNat) hul
theorem Uu{z:Zed} {bl:List (Code×Pos)} {s k tn n g:Nat} {si:Int} (hsi:si=(s:Int)) (hs:s≤40):Does z (smC (⟨#[9]⟩:Str) (k+599) si tn) bl [] n (k+600) g (.ok (.ret (.str (Cs (⟨#[9]⟩:Str) s) (Fz (s:Int) (k+599) (k+600))))) [] n (k+2+Cj (s:Int)+598) g:=by
 subst hsi
 have:=Gu (z:=z) (bl:=bl) (x:=(⟨#[9]⟩:Str)) (ts:=k+599) (tn:=tn) (N:=n) (T:=k+600) (g:=g) (n:=(s:Int)) (by decide) (by omega) (by omega)
 rw [Int.toNat_natCast,show k+600+Cj (s:Int)=k+2+Cj (s:Int)+598 by omega] at this
 exact this
theorem LeadOk.le{l:List Nat}(h:LeadOk l):1≤(Dt l).length∧(Dt l).length≤30:=⟨h.len.1,Nat.le_trans (Nat.le_of_lt h.len.2) (by decide)⟩
theorem A00{LA:List Nat}(hA3:LA.length≤3){x:Int}(hV:∀v∈LA,1≤v∧v≤6):∃s:Nat,((6::3::LA).length:Int)+(x+3).fmod ((((6::3::LA).sum:Nat):Int) - ((6::3::LA).length:Int)+1)=(s:Int)∧(((((6::3::LA).sum:Nat):Int) - ((6::3::LA).length:Int)+1 == 0)=false)∧LA.length+2≤s∧s≤(6::3::LA).sum∧s≤30:=by
 have H:∀l:List Nat,(∀v∈l,1≤v∧v≤6)→l.length≤l.sum∧l.sum≤6*l.length:=by
  intro l
  induction l with
  |nil=>intro _;simp
  |cons a l ih=>
   intro h
   have:=ih fun v hv=>h v (.tail _ hv)
   have:=h a (.head _)
   rw [List.sum_cons,List.length_cons];omega
 have h:=H LA hV
 have e1:(6::3::LA).sum=9+LA.sum:=by rw [List.sum_cons,List.sum_cons];omega
 have e2:(6::3::LA).length=LA.length+2:=rfl
 rw [e1,e2]
 have hmn:=Int.fmod_nonneg_of_pos (x+3) (show (0:Int) < ((9+LA.sum:Nat):Int) - ((LA.length+2:Nat):Int)+1 by omega)
 have hml:=Int.fmod_lt_of_pos (x+3) (show (0:Int) < ((9+LA.sum:Nat):Int) - ((LA.length+2:Nat):Int)+1 by omega)
 refine ⟨LA.length+2+((x+3).fmod (((9+LA.sum:Nat):Int) - ((LA.length+2:Nat):Int)+1)).toNat,by omega,by rw [beq_eq_false_iff_ne];omega,by omega,by omega,by omega⟩
theorem Ag6(x:Int):1≤fv x∧fv x≤6:=by
 have:=Int.fmod_nonneg_of_pos x (show (0:Int) < 6 by decide)
 have:=Int.fmod_lt_of_pos x (show (0:Int) < 6 by decide)
 unfold fv;omega
theorem Em{a n:Nat}{o:Obj}(h:n≤a):∀u∈[(a,o)],n≤u.1:=by
 intro u hu;rw [List.mem_singleton.mp hu];exact h
end
section
theorem Tu{vs:Array Value}{V:List Int}(h:IntsL vs V):∀l:List Nat,IntsL ((l.filterMap (vs[·]?)).toArray) (l.filterMap (V[·]?)):=by
 intro l;induction l with
 |nil=>
  exact rfl
 |cons i l hiI=>
  have ih:=hiI
  unfold IntsL at ih ⊢
  by_cases hi:i < V.length
  ·obtain ⟨tk,hk⟩:=h.nth hi
   rw [List.filterMap_cons_some hk,List.filterMap_cons_some (List.getElem?_eq_getElem hi)]
   show some V[i]::_=some V[i]::_
   rw [← ih]
  ·have h1:vs[i]?=none:=Array.getElem?_eq_none (by rw [h.size];exact Aaa hi)
   have h2:V[i]?=none:=List.getElem?_eq_none (Aaa hi)
   rw [List.filterMap_cons_none h1,List.filterMap_cons_none h2]
   exact ih
theorem Qb{vs:Array Value}{V:List Int}(h:IntsL vs V)(lo hi st:Option Int):∃L,IntsL (slicePick vs lo hi st) L:=⟨_,Tu h _⟩
theorem Ag1(vs:Array Value):(slicePick vs none (some 3) none).size≤3:=by
 unfold slicePick
 rw [List.size_toArray]
 refine Nat.le_trans (List.length_filterMap_le _ _) (sliceRange_length_le _ _ _ 3 (fun _=>?_) fun h=>absurd (show (1:Int) > 0 by decide) h)
 show (0:Int)≤0∧max 0 (min 3 (vs.size:Int))≤3
 lia
theorem A9k {bl:List (Code×Pos)} {z:Zed} {b:Addr} {vs:Array Value} {L:List Int} {ep n t g:Nat} (h:IntsL vs L):
  Does z (.call (.builtin "sum") ⟨[.ref b],[]⟩) bl [(b,Aa vs ep)] n (t+598) g (.ok (.ret (.int L.sum (t+L.length+598)))) [(b,Aa vs ep)] (n+4) (t+1+L.length+598) g:=by
 have:=Nr (z:=z) (bl:=bl) (b:=b) (ep:=ep) (n:=n) (t:=t+598) (g:=g) h
 rw [show t+598+L.length=t+L.length+598 by exact Dp,show t+598+(1+L.length)=t+1+L.length+598 by lia] at this
 exact this
theorem Sj{z:Zed} {bl:List (Code×Pos)} {a:Int} {ta tb n t g:Nat}:Does z (.call (.builtin "int.__ne__") ⟨[.int a ta,.int a tb],[]⟩) bl [] n t g (.ok (.ret (.bool false))) [] n (t+0) g:=
 Cu fun A s R k _ hR=>Al F.slot_int_ne (typeIs_int s a ta) F.entry_int_ne (F.args_int_ne_2 _ _) (gives_int_ne a a ta tb).meets (by
  have:(a != a)=false:=by simp
  rw [this];exact hR)
theorem Qe{z:Zed} {bl:List (Code×Pos)} {a b:Addr} {vs ws:Array Value} {L:List Str} {e e2 n t g:Nat} (hv:StrsL vs L) (hw:StrsL ws L):
  Does z (.call (.builtin "list.__ne__") ⟨[.ref a,.ref b],[]⟩) bl [(a,Aa vs e),(b,Aa ws e2)] n t g (.ok (.ret (.bool false))) [(a,Aa vs e),(b,Aa ws e2)] n (t+0) g:=by
 have size:∀(vs:Array Value),StrsL vs L→vs.size=L.length:=fun vs h=>by
  have:=congrArg List.length h
  simpa using this
 have nth:∀(vs:Array Value),StrsL vs L→∀j (h1:j < vs.size) (h2:j < L.length),∃t,vs[j]=.str L[j] t:=fun vs h j h1 h2=>by
  have e:=congrArg (·[j]?) h
  simp only [List.getElem?_map,Array.getElem?_toList,List.getElem?_eq_getElem h2,Array.getElem?_eq_getElem h1,Option.map_some] at e
  have e:=Option.some.inj e
  cases hx:vs[j] with
  |str x t=>rw [hx] at e;exact ⟨t,by rw [← Option.some.inj e]⟩
  |_=>rw [hx] at e;cases e
 exact A34 ((size _ hv).trans (size _ hw).symm) fun j h1 h2=>by
  have hj:j < L.length:=by rw [← size _ hv];exact h1
  refine Af fun Gz hGz=>?_
  obtain ⟨t1,q1⟩:=nth _ hv j h1 hj
  obtain ⟨t2,q2⟩:=nth _ hw j h2 hj
  refine hGz ?_
  exact ⟨_,t1,t2,q1,q2⟩
theorem S7{z:Zed} {bl:List (Code×Pos)} {a:Addr} {tk n t g e:Nat} {rs:Array Value} {V:List Nat} {f:Nat→Str} (h:TxtL rs (V.map f)) (h2:2≤V.length) (h5:V.length≤5) (hf:∀x∈V.map f,x.length≤7):
  Does z (.call (.builtin "str.join") ⟨[.str (Str.ofString "") tk,.ref a],[]⟩) bl [(a,Aa rs e)] n t g (.ok (.ret (.str (Txt.join (Str.ofString "") (V.map f)) t))) [(a,Aa rs e)] n (t+1) g:=by
 refine Af fun Gz hGz=>?_
 obtain ⟨l,rfl,hl⟩:=h
 have hn:l.length=V.length:=by
  have:=congrArg List.length hl
  simpa using this
 have:=A02 (z:=z) (bl:=bl) (a:=a) (sep:=Str.ofString "") (tk:=tk) (n:=n) (t:=t) (g:=g) (e:=e) (l:=l) (Dx h2 hn) (by rw [hl];exact Xl _ hf (by rw [List.length_map];exact h5))
 rw [hl] at this
 refine hGz ?_
 exact this
theorem Abl(f:Nat→Str){k:Nat→Nat} (hf:∀v,(f v).cps.toList=List.replicate (k v) 32++[9]) {V:List Nat} (hV:∀v∈V,k v≤6):∀x∈V.map f,x.length≤7:=by
 intro x hx
 refine Af fun Gz hGz=>?_
 obtain ⟨v,hv,rfl⟩:=List.mem_map.mp hx
 refine hGz ?_
 show (f v).cps.size≤7
 rw [← Array.length_toList,hf,List.length_append,List.length_replicate]
 have:=hV v hv
 show k v+1≤7
 exact G2 this
theorem Ks{P:Params}{K:LeadK}{n:Nat}(h1:K.C=n+1)(h2:K.D=n)(h3:n≤K.N)(h4:n≤K.Q):∀u∈Cb P K,n+310≤u.1:=by
 intro u hu
 unfold Cb at hu
 simp only [List.mem_cons,List.not_mem_nil,or_false] at hu
 rcases hu with rfl | rfl | rfl | rfl<;>simp only<;>lia
theorem Mc{M:List TE}{n0 n:Nat}{ps:LO}(h:∀e∈M,n0≤e.y)(hn:n≤n0+310):∀q∈Au M++ps,q.1∈ps.map (·.1)∨n≤q.1:=by
 intro q hq
 rcases List.mem_append.mp hq with hq | hq
 ·refine Af fun Gz hGz=>?_
  obtain ⟨e,he,rfl⟩:=List.mem_map.mp hq
  have:=h e he
  refine hGz ?_
  exact .inr (show n≤e.y+310 by lia)
 ·exact .inl (List.mem_map.mpr ⟨q,hq,rfl⟩)
theorem Oh{a b:LO}{M:List TE}{n0:Nat} (hab:b.map (·.1)=a.map (·.1)) (h:∀e∈M,n0≤e.y):∀q∈b++Au M,q.1∈a.map (·.1)∨n0+310≤q.1:=by
 intro q hq
 rcases List.mem_append.mp hq with hq | hq
 ·exact .inl (hab▸List.mem_map.mpr ⟨q,hq,rfl⟩)
 ·refine Af fun Gz hGz=>?_
  obtain ⟨e,he,rfl⟩:=List.mem_map.mp hq
  have:=h e he
  refine hGz ?_
  exact .inr (show n0+310≤e.y+310 by exact G2 this)
theorem Ua{l:LO}{M:List TE}{n:Nat}{o:Obj}(h:∀e∈M,n+27≤e.y):∀q∈(l++[(n+334,o)])++Au M,q.1∈l.map (·.1)∨n+310≤q.1:=by
 intro q hq
 rcases List.mem_append.mp hq with hq | hq
 ·rcases List.mem_append.mp hq with hq | hq
  ·exact .inl (List.mem_map.mpr ⟨q,hq,rfl⟩)
  ·rw [List.mem_singleton.mp hq];exact .inr (show n+310≤n+334 by exact Dr)
 ·refine Af fun Gz hGz=>?_
  obtain ⟨e,he,rfl⟩:=List.mem_map.mp hq
  have:=h e he
  refine hGz ?_
  exact .inr (show n+310≤e.y+310 by exact Sy this)
noncomputable def Ws(ps:LO):Prop:=∀a∈[233,240,306],∃m,(a,({cls:=.none,data:=.fields m}:Obj))∈ps
theorem Ag9(V:List Nat):(Txt.join (Str.ofString "") (V.map My)).cps.toList=Gr V:=by
 rw [Pq,List.flatMap_map];exact congrArg (fun f=>V.flatMap f) (funext Tc)
theorem Agl(V:List Nat):(Txt.join (Str.ofString "") (V.map Mo)).cps.toList=Gp V:=by
 rw [Pq,List.flatMap_map];exact congrArg (fun f=>V.flatMap f) (funext S9)
theorem A25{a b:Nat}{lv:Array Value}{L:List Nat}(h:NatL lv L):NatL (#[.int 6 a,.int 3 b]++lv) (6::3::L):=by
 unfold NatL IntsL at *
 rw [Array.toList_append,List.map_append,h];rfl
theorem A95{T4:TB}(hT4:T4.isF)(a b:Nat)(L2 M2 L1 M1:List TE):Ws ((306,O0 a b)::(Au L2++(Au M2++(Au L1++(Au M1++T4.obs))))):=by
 refine Af fun Gz hGz=>?_
 obtain ⟨c,k,c2,k2,rfl⟩:=TB.F hT4
 have put:∀q∈(TB.f c k c2 k2).obs,q∈(306,O0 a b)::(Au L2++(Au M2++(Au L1++(Au M1++(TB.f c k c2 k2).obs)))):=fun q hq=>
  .tail _ (List.mem_append_right _ (List.mem_append_right _ (List.mem_append_right _ (List.mem_append_right _ hq))))
 refine hGz ?_
 intro x hx
 simp only [List.mem_cons,List.not_mem_nil,or_false] at hx
 rcases hx with rfl | rfl | rfl
 ·exact ⟨_,put _ (List.mem_append_left _ (.head _))⟩
 ·exact ⟨_,put _ (List.mem_append_right _ (.head _))⟩
 ·exact ⟨_,.head _⟩
theorem n27(a:Nat):a+310≤a+27+310:=Nat.add_le_add_right (Nat.le_add_right a 27) 310
section
variable {w:World}{os:OsState}(b1 b2:Bool)(n t g sc:Nat)(sv:Array Value)(se:Nat)(L:List Int)
theorem A3s(hsz:sv.size≤sizeLine)(t2 e1:Nat)(okk:OV)(lv vs:Array Value)(LA LB:List Int)(V:List Nat)(s U W:Nat)
  (evs:vs=#[.int 6 (t+599),.int 3 (t+600)]++lv) (hadd:(#[Value.int 6 (t+599),.int 3 (t+600)]:Array Value).size+lv.size≤sizeLine)
  (D1:∀S,Does (Z w os b1 b2) (vtC w.params n (n+9) (n+10) (n+11)) (Ab [kF,kB] S 0) [(n+9+310,Ad (n+8+310) 0),(n+10+310,Aa #[] 0),(n+11+310,An #[] 0),(n+8+310,Aa (slicePick sv none (some 3) none) 0)] (n+12+310) (t+4+598) g (.ok .next) [(n+9+310,Ar LA.length),(n+10+310,Aa lv e1),(n+11+310,Ai w.params "number" okk),(n+8+310,Aa (slicePick sv none (some 3) none) 0)] (n+12+2+310) (t2+598) g)
  (iB:IntsL (slicePick sv none (some 63) none) LB) (hV:NatL vs V) (h06:∃l,V=6::l) (hV1:∀v∈V,1≤v∧v≤6) (hp2:2≤V.length) (hp5:V.length≤5)
  (hs:((vs.size:Int)+(LB.sum+3).fmod (((V.sum:Nat):Int) - (vs.size:Int)+1))=(s:Int)) (hmod:(((V.sum:Nat):Int) - (vs.size:Int)+1 == 0)=false) (hs30:1≤s∧s≤30) (Gd:Good V s U W):
  ∃n' t' g' ps,Ws ps∧∀S,Does (Z w os b1 b2) (.call (.ref 309) ⟨[.ref (sc+310)],[]⟩) (Ab [kB] S 0) ([(sc+310,Aa sv se),(306,De)]++TB.e.obs) (n+310) (t+598) g (.ok (.ret (.bool true))) ([(sc+310,Aa sv se)]++ps) (n'+310) (t'+598) g':=by
 have hV6:∀v∈V,v≤6:=fun v h=>(hV1 v h).2
 have hp1:1≤V.length:=Nat.le_of_succ_le hp2
 have hvsz:(vs.size:Int)=(V.length:Int):=congrArg Int.ofNat hV.size
 have hfit:(vs.size:Int) < 2 ^ 63:=by rw [hvsz];omega
 have hs2:((vs.size:Int)+(LB.sum+3).fmod (((V.sum:Nat):Int) - (vs.size:Int)+1))+(vs.size:Int)=((s+V.length:Nat):Int):=by rw [hs,hvsz];rfl
 have hsn:-((vs.size:Int)+(LB.sum+3).fmod (((V.sum:Nat):Int) - (vs.size:Int)+1))=-(s:Int):=congrArg Neg.neg hs
 have hs40:s≤40:=Nat.le_trans hs30.2 (by decide)
 have hs40b:s+V.length≤40:=Nat.le_trans (Nat.add_le_add hs30.2 hp5) (by decide)
 have hrs:Builtin.Range.small 0 (vs.size:Int) 1=true:=by rw [hvsz];exact Dv (by omega) (by omega)
 have hH:∀a,(Cr V s a).length=V.length:=fun a=>(Sw s _ _).1.trans (List.length_replicate ..)
 have hu6:=Gd.u6
 have hw6:=Gd.w6
 have hrd:Builtin.Range.small (U:Int) (((6:Nat):Int)+1) 1=true:=small_one (by omega) (by omega) (by decide) (by decide)
 have hro:Builtin.Range.small 1 ((W:Int)+1) 1=true:=small_one (by decide) (by decide) (by omega) (by omega)
 refine Af fun Gz hGz=>?_
 refine Oe (Ps (w:=w) (os:=os) b1 b2 (n+14+11) ((t2+3+1+LB.length+2+1+V.length)+8) g (n+14) 0 ((t2+3+1+LB.length+2+1+V.length)+604) ((t2+3+1+LB.length+2+1+V.length)+605) vs V s 0 ((vs.size:Int)+(LB.sum+3).fmod (((V.sum:Nat):Int) - (vs.size:Int)+1)) 0 hs rfl hV hV6 hp5 hp2 (by decide) hs30.2) fun n5 t5 Na Xa ga ra ega era q1 hga hra Da=>?_
 refine Oe (Ps (w:=w) (os:=os) b1 b2 (n5+3) (t5+2) g (n+14) 0 ((t2+3+1+LB.length+2+1+V.length)+604) (t5+599) vs V s 1 ((vs.size:Int)+(LB.sum+3).fmod (((V.sum:Nat):Int) - (vs.size:Int)+1)) 1 hs rfl hV hV6 hp5 hp2 (by decide) hs30.2) fun n6 t6 Nj Xj gj rj egj erj q4 hgj hrj Dj=>?_
 refine O8 (Mn (w:=w) (os:=os) b1 b2 (n6+3) (t6+2) g (n+14) 0 ((t2+3+1+LB.length+2+1+V.length)+604) (t6+599) vs V s 0 ((vs.size:Int)+(LB.sum+3).fmod (((V.sum:Nat):Int) - (vs.size:Int)+1)) 0 hs rfl hV hV6 hp5 hp2 (by decide) hs30) fun n7 t7 Nc ca eca q7 hca Dc=>?_
 refine O8 (Mn (w:=w) (os:=os) b1 b2 n7 (t7+1) g (n+14) 0 ((t2+3+1+LB.length+2+1+V.length)+604) (t7+598) vs V s 1 ((vs.size:Int)+(LB.sum+3).fmod (((V.sum:Nat):Int) - (vs.size:Int)+1)) 1 hs rfl hV hV6 hp5 hp2 (by decide) hs30) fun n8 t8 Nd cj ecj q9 hcj Dd=>?_
 refine R7 (A7j (w:=w) (os:=os) b1 b2 g n (n8+1) (n8+2) (n8+3) (n8+4) (t8+5) (n+14) (n+14+13) 0 ega vs ga V (Cr V s 0) hV hga (hH 0) hp5 Gd.h0 hp1) fun t9 eu kk2 vv2 ul x9 hul Du=>?_
 obtain ⟨tu,Dmx⟩:=Aa1 hul Gd.up
 refine R7 (A9m (w:=w) (os:=os) b1 b2 g n (n8+10) (n8+11) (n8+12) (n8+13) (t9+1) (n+14) (n5+5) 0 egj vs gj V (Cr V s 1) hV hgj (hH 1) hp5 Gd.h1 hp1) fun ta ell kk3 vv3 ll xa hll Dl=>?_
 obtain ⟨tlo,Dmn⟩:=Afc hll Gd.lo
 obtain ⟨tmv,Dm6⟩:∃tk:Nat,∀(z:Zed) (bl:List (Code×Pos)) (b:Addr) (ep n t g:Nat),Does z (.call (.builtin "max") ⟨[.ref b],[]⟩) bl [(b,Aa vs ep)] n t g (.ok (.ret (.int ((6:Nat):Int) tk))) [(b,Aa vs ep)] (n+4) t g:=by
  obtain ⟨l,e⟩:=h06
  rw [e] at hV hV6
  exact A9r hV fun v h=>hV6 v (.tail _ h)
 refine R7 (A9i (w:=w) (os:=os) b1 b2 g n (n8+24) (n8+25) (n8+26) (n8+27) (ta+5)) fun tb ew kk4 vv4 wl xb hwl Dw=>?_
 have h5:∃v∈V[0]?,5≤v:=by
  obtain ⟨l,e⟩:=h06
  rw [e];exact ⟨6,rfl,by decide⟩
 refine Kn (A9l (w:=w) (os:=os) b1 b2 V ⟨n8+29+7,n8+29+6,n8+29,n+5,n+14,vs,0,⟨n8+29+1,n8+29+2,n8+29+3,n8+29+4,n8+29+5,tb+600,tb+601,tb+602,tb+606,((tb+605:Nat):Int)⟩⟩ (n8+29+8) (tb+9) g (n8+25) (-((vs.size:Int)+(LB.sum+3).fmod (((V.sum:Nat):Int) - (vs.size:Int)+1))) (tb+599) wl ew .e hwl hV hp5 hV1 (.inr ⟨rfl,h5⟩)) fun nc tc1 gc tc T1 q11 hT1 hq1 Db=>?_
 rw [show Dh (Og V (-((vs.size:Int)+(LB.sum+3).fmod (((V.sum:Nat):Int) - (vs.size:Int)+1)))) 6=(U:Int) - 1 from hsn▸Gd.bl] at Db
 refine Kn (A7u (w:=w) (os:=os) b1 b2 V ⟨nc+7,nc+6,nc,n+5,n+14,vs,0,⟨nc+1,nc+2,nc+3,nc+4,nc+5,tc1+601,tc1+602,tc1+603,tc1+607,((tc1+606:Nat):Int)⟩⟩ (nc+8) (tc1+10) gc (n8+25) (-((vs.size:Int)+(LB.sum+3).fmod (((V.sum:Nat):Int) - (vs.size:Int)+1))) (tc1+600) wl ew T1 hwl hV hp5 hV1 Gd.ne hT1) fun nd td1 gd td T2 q12 hT2 hq2 Dk=>?_
 rw [show Dh (Ms V (-((vs.size:Int)+(LB.sum+3).fmod (((V.sum:Nat):Int) - (vs.size:Int)+1)))) 6=(W:Int) from hsn▸Gd.bk] at Dk
 refine O6 (J1 (w:=w) (os:=os) b1 b2 .d nd td1 gd (n+14) 0 tu vs V U T2 hu6 hV hp5 hV1 (.inl hT2)) fun ne te ge r1 er1 T3 q13 hr1 _ hT3 hq3 Dr1=>?_
 refine A69 (Nx (w:=w) (os:=os) b1 b2 ge U vs 0 V ne te (n+14) tu hu6 hV hp5 hV1) fun nf tf r2 er2 q14 hr2 _ Dr2=>?_
 refine O6 (J1 (w:=w) (os:=os) b1 b2 .d nf tf ge (n+14) 0 tlo vs V W T3 hw6 hV hp5 hV1 (.inl hT3)) fun ng tg gg r3 er3 T4 q15 hr3 _ hT4 hq4 Dr3=>?_
 refine A69 (Nx (w:=w) (os:=os) b1 b2 gg W vs 0 V ng tg (n+14) tlo hw6 hV hp5 hV1) fun nh th r4 er4 q16 hr4 _ Dr4=>?_
 refine Ra (A83 (w:=w) (os:=os) b1 b2 gg n nh (nh+1) (nh+2) (nh+3) (th+1) (n+14) 0 vs V hV hp5 hV1 hp1) fun ti eb kk5 vv5 bs hbs Dbj=>?_
 have okT:LeadOk (List.replicate s 9):=A08 s hs30.1 (Nat.le_trans hs30.2 (by decide))
 have okV:LeadOk (List.replicate (s+V.length) 9):=A08 _ (Nat.le_trans hs30.1 (Nat.le_add_right _ _)) (Nat.le_trans hs40b (by decide))
 refine Nv (Io (w:=w) (os:=os) b1 b2 (nh+5) (ti+1) gg (Txt.join (Str.ofString "") (V.map My)) (ti+598) (Gr V) (Ag9 V) Gd.lb) fun nj tj KB q17 KBC KBD KBN KBQ cB bB mB DB=>?_
 refine A65 (A81 (w:=w) (os:=os) b1 b2 gg n (nj+5) (nj+6) (nj+7) (nj+9) (tj+4) (nj+8) (n+14) 0 s ((t2+3+1+LB.length+2+1+V.length)+604) vs V ((vs.size:Int)+(LB.sum+3).fmod (((V.sum:Nat):Int) - (vs.size:Int)+1)) hs hV hp5 hp1 U hu6) fun nk tk ed xd xe kd M1 q18 hd1 hd3 Ddu=>?_
 refine Nv (Io (w:=w) (os:=os) b1 b2 nk (tk+2+Cj (s:Int)) gg (Cs (⟨#[9]⟩:Str) s) (Fz (s:Int) (tk+599) (tk+600)) (List.replicate s 9) (J0 s 9) okT) fun nl tl KT q19 KTC KTD KTN KTQ cT bT mT DT=>?_
 obtain ⟨nm,tm,L1,ey,q20,hw1,hw3,hw4,DN1⟩:=Ul (w:=w) (os:=os) b1 b2 nl tl gg KT KB _ _ cT cB okT.le Gd.lb.le bT bB
 have hval1:Cn L1=Cn M1:=by
  rw [hw1,mT,mB,Gd.n1,hd1]
 refine Ra (A7e (w:=w) (os:=os) b1 b2 gg n nm (nm+1) (nm+2) (nm+3) (tm+1) (n+14) 0 vs V hV hp5 hV6 hp1) fun tp ew2 kk6 vv6 ws2 hwj Dwj=>?_
 refine Nv (Io (w:=w) (os:=os) b1 b2 (nm+5) (tp+1) gg (Txt.join (Str.ofString "") (V.map Mo)) (tp+598) (Gp V) (Agl V) Gd.lw) fun nq tq KW q21 KWC KWD KWN KWQ cW bW mW DW=>?_
 refine A65 (A7z (w:=w) (os:=os) b1 b2 gg n (nq+1) (nq+2) (nq+3) (nq+5) (tq+8) (nq+4) (n+14) 0 (s+V.length) (tq+601) vs V (((vs.size:Int)+(LB.sum+3).fmod (((V.sum:Nat):Int) - (vs.size:Int)+1))+(vs.size:Int)) hs2 hV hp5 hp1 W hw6) fun nr tr eo xg xf kg M2 q22 ho1 ho3 Dow=>?_
 refine Nv (Io (w:=w) (os:=os) b1 b2 nr (tr+2+Cj ((s+V.length:Nat):Int)) gg (Cs (⟨#[9]⟩:Str) (s+V.length)) (Fz ((s+V.length:Nat):Int) (tr+599) (tr+600)) (List.replicate (s+V.length) 9) (J0 _ 9) okV) fun ns ts KV q23 KVC KVD KVN KVQ cV bV mV DV=>?_
 obtain ⟨nu,tu2,L2,ez,q24,hx1,hx3,hx4,DN2⟩:=Ul (w:=w) (os:=os) b1 b2 ns ts gg KW KV _ _ cW cV Gd.lw.le okV.le bW bV
 have hval2:Cn L2=Cn M2:=by
  rw [hx1,mW,mV,Gd.n2,ho1]
 refine hGz ?_
 refine Ci nu tu2 gg _ ⟨A95 hT4 (n8+29) nc L2 M2 L1 M1,fun S=>?_⟩
 refine Sk (w:=w) (os:=os) (S:=S) n t g sc sv se (slicePick sv none (some 3) none) lv vs (slicePick sv none (some 63) none) e1 (n+14) t2 (t2+3+1+LB.length) (t2+3+LB.length+598) LB.sum okk kk2 kk3 kk4 kk5 vv2 vv3 vv4 vv5 LA.length ((V.sum:Nat):Int) (t2+3+1+LB.length+2+V.length+598) (t2+3+1+LB.length+2+1+V.length) ga ra gj rj ca cj ega era egj erj eca ecj Na Xa Nj Xj Nc Nd n5 t5 n6 t6 n7 t7 n8 t8 ul ll eu ell x9 xa (U:Int) (W:Int) ((6:Nat):Int) tu tlo tmv (n8+6) t9 (n8+15) ta wl ew xb (n8+29) tb tc tc1 nc gc td td1 nd gd ne te ge nf tf ng tg gg nh th (nd+4) (ne+1) (nf+4) (ng+1) er1 er2 er3 er4 r1 r2 r3 r4 bs eb V.length 0 (nh+5) ti nj tj (Txt.join (Str.ofString "") (V.map My)) KB KT KW KV xd xe kd nk tk (nl+24) (Ay M1) (Ay L1) (Ay L2) ed ey ez eo (Cs (⟨#[9]⟩:Str) s) (Fz (s:Int) (tk+599) (tk+600)) (tk+2+Cj (s:Int)) nl tl nm tm V.length kk6 (nm+5) tp nq tq ew2 vv6 ws2 (Txt.join (Str.ofString "") (V.map Mo)) xf xg kg nr tr ns ts nu tu2 (ns+24) (Fz ((s+V.length:Nat):Int) (tr+599) (tr+600)) (tr+2+Cj ((s+V.length:Nat):Int)) (Cs (⟨#[9]⟩:Str) (s+V.length)) (Ay M2) TB.e.obs T1.obs T2.obs T3.obs T4.obs (Au M1++T4.obs) (Au L1++(Au M1++T4.obs)) (Au M2++(Au L1++(Au M1++T4.obs))) (Au L2++(Au M2++(Au L1++(Au M1++T4.obs)))) b1 b2
  ⟨?o0,?o1,?o2,?o3,?o4,?o5,?o6,?o7,?o8,?o9,?o10,?o11,?o12,?o13,?o14,?o15,?o16,?o17,?o18,?o19,?o20,?o21,?o22,?o23,?o24,?o25,?o26,?o27,?o28,?o29,?o30,?o31,?o32,?o33,?o34,?o35,?o36,?o37,?o38,?o39,?o40,?o41,?o42,?o43,?o44,?o45,?o46,?o47,?o48,?o49,?o50,?o51,?o52,?o53,?o54,?o55,?o56,?o57,?o58,?o59,?o60,?o61,?o62,?o63,?o64,?o65,trivial⟩
 case o0=>
  exact Ae (fun bl=>Mv .none (.int _ _) hsz) (hn:=Em (Nat.le_refl _))
 case o1=>
  exact Bb D1
 case o2=>
  rw [evs];exact Ae (fun bl=>Pp hadd) (hn:=Em (Nat.le_refl _))
 case o3=>
  exact Ae fun bl=>Bw hfit
 case o4=>
  exact Ae (fun bl=>Mv .none (.int _ _) hsz) (hn:=Em (Nat.le_refl _))
 case o5=>
  exact Ae fun bl=>A9k iB
 case o6=>
  exact Aw
 case o7=>
  exact Ae fun bl=>Ow hV
 case o8=>
  exact Ae fun bl=>Bw hfit
 case o9=>
  exact I8
 case o10=>
  exact Aw
 case o11=>
  exact Yx hmod
 case o12=>
  exact Aw
 case o13=>
  exact Bb (fun S=>Da S) (hn:=q1.2 _ _ _)
 case o14=>
  exact Bb (fun S=>Dj S) (hn:=q4.2 _ _ _)
 case o15=>
  exact Bb (fun S=>Dc S) (hn:=q7.2 _)
 case o16=>
  exact Ae fun bl=>Pw (Gd.c 0 (by decide)▸hca) hra
 case o17=>
  exact Bb (fun S=>Dd S) (hn:=q9.2 _)
 case o18=>
  exact Ae fun bl=>Pw (Gd.c 1 (by decide)▸hcj) hrj
 case o19=>
  exact Ae fun bl=>Bw hfit
 case o20=>
  exact Ae (fun bl=>Be hrs) (hn:=Em (Nat.le_refl _))
 case o21=>
  exact Bb Du
 case o22=>
  exact Ae fun bl=>Dmx _ bl _ _ _ _ _
 case o23=>
  exact Ae (fun bl=>Be hrs) (hn:=Em (Nat.le_refl _))
 case o24=>
  exact Bb Dl
 case o25=>
  exact Ae fun bl=>Dmn _ bl _ _ _ _ _
 case o26=>
  exact Ae fun bl=>Dm6 _ bl _ _ _ _ _
 case o27=>
  exact Aw
 case o28=>
  exact Ae (fun bl=>Be (by decide)) (hn:=Em (Nat.le_refl _))
 case o29=>
  exact Bb Dw
 case o30=>
  exact Ef
 case o31=>
  exact B0 hq1 Db
 case o32=>
  exact I8
 case o33=>
  exact Ae fun bl=>Sj
 case o34=>
  exact Ef
 case o35=>
  exact B0 hq2 Dk
 case o36=>
  exact Ae fun bl=>Sj
 case o37=>
  exact B0 hq3 Dr1 (hn:=Em (Nat.le_add_right _ 4))
 case o38=>
  exact Bb Dr2 (hn:=Em (Nat.le_add_right _ 1))
 case o39=>
  exact Ae fun bl=>Qe hr1 hr2
 case o40=>
  exact B0 hq4 Dr3 (hn:=Em (Nat.le_add_right _ 4))
 case o41=>
  exact Bb Dr4 (hn:=Em (Nat.le_add_right _ 1))
 case o42=>
  exact Ae fun bl=>Qe hr3 hr4
 case o43=>
  exact Bb Dbj
 case o44=>
  exact Ae fun bl=>S7 hbs hp2 hp5 (Abl My Tc fun v h=>Nat.le_trans (Nat.sub_le ..) (hV6 v h))
 case o45=>
  exact Bb DB (hn:=Ks KBC KBD KBN KBQ)
 case o46=>
  exact Ae fun bl=>Dm6 _ bl _ _ _ _ _
 case o47=>
  exact Aw
 case o48=>
  exact Ae (fun bl=>Be hrd) (hn:=Em (Nat.le_refl _))
 case o49=>
  refine B0 (Mc hd3 (Nat.le_refl _)) fun S=>?_
  have A:=(Ddu S).frame T4.obs (Oh rfl hd3)
  rw [List.append_assoc] at A
  exact A
 case o50=>
  exact Ae fun bl=>Uu hs hs40
 case o51=>
  exact Bb DT (hn:=Ks KTC KTD KTN KTQ)
 case o52=>
  refine B0 (Mc hw3 (n27 _)) (fun S=>?_) (hn:=Em (Nat.le_add_right _ 24))
  have A:=(DN1 S).frame (Au M1++T4.obs) (Ua hw3)
  rw [List.append_assoc] at A
  exact A
 case o53=>
  refine B0 newer.same fun S=>?_
  have A:=(Z1 (z:=Z w os b1 b2) (S:=S) (a:=nl+24+310) (b:=nj+6+310) (e:=ey) (e2:=ed) (n:=nm+310) (t:=tm+598) (g:=gg) hval1).frame T4.obs newer.same
  rw [List.append_assoc,List.append_assoc] at A
  exact A
 case o54=>
  exact Bb Dwj
 case o55=>
  exact Ae fun bl=>S7 hwj hp2 hp5 (Abl Mo S9 hV6)
 case o56=>
  exact Bb DW (hn:=Ks KWC KWD KWN KWQ)
 case o57=>
  exact Ae fun bl=>Bw hfit
 case o58=>
  exact Aw
 case o59=>
  exact Aw
 case o60=>
  exact Ae (fun bl=>Be hro) (hn:=Em (Nat.le_refl _))
 case o61=>
  refine B0 (Mc ho3 (Nat.le_refl _)) fun S=>?_
  have A:=(Dow S).frame (Au L1++(Au M1++T4.obs)) (Oh rfl ho3)
  rw [List.append_assoc] at A
  exact A
 case o62=>
  exact Ae fun bl=>Uu hs2 hs40b
 case o63=>
  exact Bb DV (hn:=Ks KVC KVD KVN KVQ)
 case o64=>
  refine B0 (Mc hx3 (n27 _)) (fun S=>?_) (hn:=Em (Nat.le_add_right _ 24))
  have A:=(DN2 S).frame (Au M2++(Au L1++(Au M1++T4.obs))) (Ua hx3)
  rw [List.append_assoc] at A
  exact A
 case o65=>
  refine B0 newer.same fun S=>?_
  have A:=(A06 (z:=Z w os b1 b2) (S:=S) (a:=ns+24+310) (b:=nq+2+310) (e:=ez) (e2:=eo) (n:=nu+310) (t:=tu2+598) (g:=gg) hval2).frame (Au L1++(Au M1++T4.obs)) newer.same
  rw [List.append_assoc,List.append_assoc] at A
  exact A
theorem A22(hI:IntsL sv L)(hsz:sv.size≤sizeLine) (G:∀V' s,(∀v∈V',1≤v∧v≤6)→V'.length≤3→V'.length+2≤s→s≤(6::3::V').sum→∃U W,Good (6::3::V') s U W):
  ∃n' t' g' ps,Ws ps∧∀S,Does (Z w os b1 b2) (.call (.ref 309) ⟨[.ref (sc+310)],[]⟩) (Ab [kB] S 0) ([(sc+310,Aa sv se),(306,De)]++TB.e.obs) (n+310) (t+598) g (.ok (.ret (.bool true))) ([(sc+310,Aa sv se)]++ps) (n'+310) (t'+598) g':=by
 refine Af fun Gz hGz=>?_
 obtain ⟨LA,iA⟩:=Qb hI none (some 3) none
 obtain ⟨LB,iB⟩:=Qb hI none (some 63) none
 have hA3:LA.length≤3:=by rw [← iA.size];exact Ag1 sv
 have hA3':(LA.map fv).length≤3:=by rw [List.length_map];exact hA3
 refine Mh (A88 (w:=w) (os:=os) b1 b2 g n (n+9) (n+10) (n+11) (n+8) 0 _ LA iA hA3 LA.length 0 (n+12) (t+4) .n 0 #[] [] (Nat.zero_add _) rfl rfl) fun t2 e1 okk lv hlv _ D1=>?_
 have hF:∀v∈LA.map fv,1≤v∧v≤6:=fun v hv=>by
  obtain ⟨x,_,rfl⟩:=List.mem_map.mp hv
  exact Ag6 x
 obtain ⟨s,es,em,h1,h2,h3⟩:=A00 hA3' (x:=LB.sum) hF
 obtain ⟨U,W,Gd⟩:=G (LA.map fv) s hF hA3' h1 h2
 have hV:NatL (#[.int 6 (t+599),.int 3 (t+600)]++lv) (6::3::LA.map fv):=A25 hlv
 refine hGz ?_
 refine A3s (w:=w) (os:=os) b1 b2 n t g sc sv se hsz t2 e1 okk lv _ LA LB (6::3::LA.map fv) s U W rfl ?_ (fun S=>A0o (w:=w) (os:=os) (S:=S) (n+12) (t+4) g n (n+9) (n+10) (n+11) (n+8) _ 0 b1 b2 trivial (D1 S)) iB hV ⟨_,rfl⟩ ?_ ?_ ?_ (by rw [hV.size];exact es) (by rw [hV.size];exact em) ⟨Nat.le_trans (Nat.le_add_left 1 _) h1,h3⟩ Gd
 ·rw [(hlv:NatL lv (LA.map fv)).size]
  exact Nat.le_trans (Nat.add_le_add_left hA3' 2) (by decide)
 ·intro v hv
  rcases List.mem_cons.mp hv with rfl | hv
  ·decide
  ·rcases List.mem_cons.mp hv with rfl | hv
   ·decide
   ·exact hF v hv
 ·exact Nat.le_add_left 2 _
 ·exact Nat.add_le_add_right hA3' 2
end
end
theorem Ik{G:List Nat}{b i x:Nat}(hb:b < G.length):(G.set b x).getD i 0=if i=b then x else G.getD i 0:=by
 rw [List.getD_eq_getElem?_getD,List.getD_eq_getElem?_getD,List.getElem?_set]
 by_cases h:b=i
 ·subst h;simp [hb]
 ·rw [if_neg h,if_neg (fun e=>h e.symm)]
theorem Qt{V G:List Nat}{a:Nat}(k:Nat):∀p b,p+k≤V.length→b < p→(∀q,q < p→1≤V.getD q 0)→(∀q,p≤q→q < p+k→1≤V.getD q 0) →
  (∀q,q < p→V.getD q 0*(G.getD b 0+a)≤V.getD b 0*(G.getD q 0+a))→(∀q,q < b→V.getD q 0*(G.getD b 0+a) < V.getD b 0*(G.getD q 0+a)) →
  bestFrom V G a k p b < p+k∧(∀q,q < p+k→V.getD q 0*(G.getD (bestFrom V G a k p b) 0+a)≤V.getD (bestFrom V G a k p b) 0*(G.getD q 0+a)) ∧
  (∀q,q < bestFrom V G a k p b→V.getD q 0*(G.getD (bestFrom V G a k p b) 0+a) < V.getD (bestFrom V G a k p b) 0*(G.getD q 0+a)):=by
 induction k with
 |zero=>intro p b _ hb _ _ h1 h2;exact ⟨hb,h1,h2⟩
 |succ k ih=>
  intro p b hp hb hv hv2 h1 h2
  unfold bestFrom
  have e:p+(k+1)=p+1+k:=by exact Sn
  rw [e]
  have hvp:=hv2 p (Nat.le_refl _) P9
  have hv':∀q,q < p+1→1≤V.getD q 0:=fun q hq=>if h:q < p then hv q h else (show q=p by lia)▸hvp
  have hv2':∀q,p+1≤q→q < p+1+k→1≤V.getD q 0:=fun q h h'=>hv2 q (C6 h) (Nl h')
  by_cases hc:V.getD b 0*(G.getD p 0+a) < V.getD p 0*(G.getD b 0+a)
  ·rw [if_pos hc]
   have st:∀q,q < p→V.getD q 0*(G.getD p 0+a) < V.getD p 0*(G.getD q 0+a):=by
    intro q hq
    have x1:=h1 q hq
    have vq:=hv q hq
    generalize V.getD q 0=vq' at *
    generalize V.getD p 0=vp at *
    generalize V.getD b 0=vb at *
    generalize G.getD q 0+a=gq at *
    generalize G.getD p 0+a=gp at *
    generalize G.getD b 0+a=gb at *
    have hgb:0 < gb:=Nat.pos_of_ne_zero fun h=>by subst h;simp at hc
    have hgq:0 < gq:=Nat.pos_of_ne_zero fun h=>by
     subst h
     rw [Nat.mul_zero] at x1
     have:=Nat.mul_pos vq hgb
     exact Hn x1 this
    refine Nat.lt_of_mul_lt_mul_right (a:=gb) ?_
    calc vq'*gp*gb=vq'*gb*gp:=Nat.mul_right_comm ..
     _≤vb*gq*gp:=Nat.mul_le_mul_right _ x1
     _=vb*gp*gq:=Nat.mul_right_comm ..
     _ < vp*gb*gq:=Nat.mul_lt_mul_of_pos_right hc hgq
     _=vp*gq*gb:=Nat.mul_right_comm ..
   refine ih (p+1) p (E0 hp) S5 hv' hv2' (fun q hq=>?_) st
   by_cases h:q < p
   ·exact Nat.le_of_lt (st q h)
   ·rw [show q=p by lia];exact Nat.le_refl _
  ·rw [if_neg hc]
   refine ih (p+1) b (E0 hp) (Ey hb) hv' hv2' (fun q hq=>?_) h2
   by_cases h:q < p
   ·exact h1 q h
   ·rw [show q=p by lia];exact Nat.le_of_not_lt hc
structure VOk (V:List Nat):Prop where
 n1:1≤V.length
 v1:∀q,q < V.length→1≤V.getD q 0
theorem H4{V:List Nat}(h:VOk V)(G:List Nat)(a:Nat):bestOf V G a < V.length∧(∀q,q < V.length→V.getD q 0*(G.getD (bestOf V G a) 0+a)≤V.getD (bestOf V G a) 0*(G.getD q 0+a)) ∧
  (∀q,q < bestOf V G a→V.getD q 0*(G.getD (bestOf V G a) 0+a) < V.getD (bestOf V G a) 0*(G.getD q 0+a)):=by
 have n1:=h.n1
 have:=Qt (V:=V) (G:=G) (a:=a) (V.length - 1) 1 0 (by lia) F5 (fun q hq=>h.v1 q (G8 hq n1)) (fun q _ hq=>h.v1 q (by lia)) (fun q hq=>by rw [show q=0 by lia];exact Nat.le_refl _) (fun q hq=>absurd hq (by lia))
 rw [show 1+(V.length - 1)=V.length by lia] at this
 exact this
noncomputable def Rz(V:List Nat)(a:Nat)(G:List Nat):Prop:=∀p q,p < V.length→q < V.length→1≤G.getD q 0→V.getD p 0*(G.getD q 0 - 1+a)≤V.getD q 0*(G.getD p 0+a)
theorem Xh{V:List Nat}(h:VOk V){a:Nat}{G:List Nat}(hl:G.length=V.length)(hf:Rz V a G):Rz V a (G.set (bestOf V G a) (G.getD (bestOf V G a) 0+1)):=by
 refine Af fun Gz hGz=>?_
 obtain ⟨b1,b2,_⟩:=H4 h G a
 generalize bestOf V G a=b at *
 refine hGz ?_
 intro p q hp hq h1
 rw [Ik (by exact Dx b1 hl)] at h1 ⊢
 have mono:G.getD p 0+a≤(G.set b (G.getD b 0+1)).getD p 0+a:=by
  rw [Ik (by exact Dx b1 hl)];split
  ·rename_i e;rw [e];exact Dr
  ·exact Nat.le_refl _
 by_cases e:q=b
 ·subst e
  rw [if_pos rfl] at h1 ⊢
  exact Nat.le_trans (b2 p hp) (Nat.mul_le_mul_left _ mono)
 ·rw [if_neg e] at h1 ⊢
  exact Nat.le_trans (hf p q hp hq h1) (Nat.mul_le_mul_left _ mono)
theorem A7w{G:List Nat}{b x:Nat}(hb:b < G.length):(G.set b x).sum+G.getD b 0=G.sum+x:=by
 induction G generalizing b with
 |nil=>exact absurd hb (by simp)
 |cons g G ih=>
  cases b with
  |zero=>simp;lia
  |succ b=>
   have:=ih (b:=b) (by simpa using hb)
   simp only [List.set_cons_succ,List.sum_cons,List.getD_cons_succ]
   lia
theorem A0c{V:List Nat}(h:VOk V){a:Nat}(k:Nat):∀G r,G.length=V.length→Rz V a G→Rz V a (En V a k G r).2∧(En V a k G r).2.sum=G.sum+k:=by
 induction k with
 |zero=>intro G r _ hf;exact ⟨hf,rfl⟩
 |succ k ih=>
  intro G r hl hf
  unfold En
  have hb:=(H4 h G a).1
  obtain ⟨x,y⟩:=ih (G.set (bestOf V G a) (G.getD (bestOf V G a) 0+1)) (r++[bestOf V G a]) (by rw [List.length_set];exact hl) (Xh h hl hf)
  refine ⟨x,?_⟩
  have:=A7w (G:=G) (b:=bestOf V G a) (x:=G.getD (bestOf V G a) 0+1) (Dx hb hl)
  lia
theorem Nw(n i:Nat):(List.replicate n 0).getD i 0=0:=by
 rw [List.getD_eq_getElem?_getD]
 by_cases h:i < n
 ·simp [h]
 ·simp [h]
theorem Is{V:List Nat}(h:VOk V)(s a:Nat):Rz V a (Cr V s a)∧(Cr V s a).sum=s∧(Cr V s a).length=V.length:=by
 obtain ⟨x,y⟩:=A0c h (a:=a) s (List.replicate V.length 0) [] (List.length_replicate ..) (fun p q _ _ h1=>by rw [Nw] at h1;lia)
 refine ⟨x,?_,(Sw s _ _).1.trans (List.length_replicate ..)⟩
 have z:∀n:Nat,(List.replicate n 0).sum=0:=by
  intro n
  induction n with
  |zero=>rfl
  |succ n ih=>rw [List.replicate_succ,List.sum_cons,ih]
 rw [z,Nat.zero_add] at y
 exact y
noncomputable def cl(e e':Int×Int):Prop:=e.1 < e'.1∨(e.1=e'.1∧e.2 < e'.2)
theorem Ky(c q c' q':Int):Km c q c' q'=true↔cl (c,q) (c',q'):=by
 unfold Km cl
 by_cases h:c=c'
 ·rw [if_pos h];subst h;simp
 ·rw [if_neg h];simp [h]
theorem cl.trans{a b c:Int×Int}(h:cl a b)(h':cl b c):cl a c:=by
 unfold cl at *;lia
theorem cl.irr{a:Int×Int}(h:cl a a):False:=by unfold cl at h;lia
theorem cl.tot{a b:Int×Int}(h:a.2≠b.2)(h':¬ cl a b):cl b a:=by unfold cl at *;lia
abbrev Srt (L:List (Int×Int)):Prop:=L.Pairwise cl
theorem Uh {L:List (Int×Int)} {c q:Int} (hs:Srt L) (hq:∀e∈L,e.2≠q):Srt (Hm L c q):=by
 have hk:=Nq (Cp L c q) L.length
 have mono:∀i j:Int,0≤j→j≤i→i < (L.length:Int)→Cp L c q i=true→Cp L c q j=true:=by
  intro i j h0 hji hi h
  refine Af fun Gz hGz=>?_
  obtain ⟨i',rfl⟩:=Int.eq_ofNat_of_zero_le (Int.le_trans h0 hji)
  obtain ⟨j',rfl⟩:=Int.eq_ofNat_of_zero_le h0
  have hi':i' < L.length:=by exact A14 hi
  have hj':j' < L.length:=by lia
  refine hGz ?_
  unfold Cp at h ⊢
  rw [Int.toNat_natCast,List.getElem?_eq_getElem hi'] at h
  rw [Int.toNat_natCast,List.getElem?_eq_getElem hj']
  simp only [Bool.not_eq_true'] at h ⊢
  rcases Nat.lt_or_ge j' i' with hlt | hge
  ·have r:=List.pairwise_iff_getElem.mp hs j' i' hj' hi' hlt
   cases hb:Km c q L[j'].1 L[j'].2 with
   |false=>rfl
   |true=>
    have:=cl.trans ((Ky ..).mp hb) r
    rw [(Ky c q L[i'].1 L[i'].2).mpr this] at h
    cases h
  ·have:j'=i':=by lia
   subst this;exact h
 obtain ⟨f1,f2⟩:=Of (Cp L c q) L.length 0 L.length Bs A0v mono
 have hsp:(spotC L c q:Int)=Dh (Cp L c q) L.length:=Int.toNat_of_nonneg hk.1
 have f1':∀i (h:i < L.length),i < spotC L c q→cl L[i] (c,q):=by
  intro i h hi
  have x:Cp L c q (i:Int)=true:=f1 i Bs (by show (i:Int) < Dh _ _;lia)
  unfold Cp at x
  rw [Int.toNat_natCast,List.getElem?_eq_getElem h] at x
  change (!Km c q L[i].1 L[i].2)=true at x
  refine cl.tot (fun e=>hq L[i] (List.getElem_mem h) e.symm) fun w=>?_
  rw [(Ky c q L[i].1 L[i].2).mpr w] at x
  cases x
 have f2':∀i (h:i < L.length),spotC L c q≤i→cl (c,q) L[i]:=by
  intro i h hi
  have x:Cp L c q (i:Int)=false:=f2 i (by show Dh _ _≤(i:Int);lia) (N8 h)
  unfold Cp at x
  rw [Int.toNat_natCast,List.getElem?_eq_getElem h] at x
  simp only [Bool.not_eq_false'] at x
  exact (Ky ..).mp x
 unfold Hm
 generalize spotC L c q=k at *
 refine List.pairwise_append.mpr ⟨hs.sublist (List.take_sublist ..),List.pairwise_cons.mpr ⟨fun e he=>?_,hs.sublist (List.drop_sublist ..)⟩,fun x hx y hy=>?_⟩
 ·refine Af fun Gz hGz=>?_
  obtain ⟨i,hi,rfl⟩:=List.mem_iff_getElem.mp he
  refine hGz ?_
  rw [List.getElem_drop]
  exact f2' _ _ Er
 ·refine Af fun Gz hGz=>?_
  obtain ⟨i,hi,rfl⟩:=List.mem_iff_getElem.mp hx
  rw [List.length_take] at hi
  refine hGz ?_
  rw [List.getElem_take]
  have a:=f1' i (by lia) (by lia)
  rcases List.mem_cons.mp hy with rfl | hy
  ·exact a
  ·refine Af fun Gz hGz=>?_
   obtain ⟨j,hj,rfl⟩:=List.mem_iff_getElem.mp hy
   refine hGz ?_
   rw [List.getElem_drop]
   rw [List.length_drop] at hj
   exact a.trans (f2' _ (by lia) Er)
theorem Ue {L:List (Int×Int)} {c q:Int} {e:Int×Int}:e∈Hm L c q↔e=(c,q)∨e∈L:=by
 unfold Hm
 have:e∈L↔e∈L.take (spotC L c q)∨e∈L.drop (spotC L c q):=by rw [← List.mem_append,List.take_append_drop]
 rw [this]
 simp only [List.mem_append,List.mem_cons]
 constructor
 ·rintro (h | h | h)
  ·exact .inr (.inl h)
  ·exact .inl h
  ·exact .inr (.inr h)
 ·rintro (h | h | h)
  ·exact .inr (.inl h)
  ·exact .inl h
  ·exact .inr (.inr h)
def Cl(V:List Nat)(F a:Nat)(G:List Nat)(p:Nat):Int:=if a=0∧G.getD p 0=0 then (V.map Int.ofNat).sum*(F:Int)+1 else H5 V F a p (G.getD p 0)
theorem Me(V:List Nat)(F a p g:Nat):H5 V F a p g=((V.getD p 0*(F / (g+a)):Nat):Int):=by
 unfold H5
 rw [show ((g:Int)+(a:Int))=((g+a:Nat):Int) by exact Fq,Kr,Int.natCast_mul]
theorem Mr(V:List Nat)(p:Nat):V.getD p 0≤V.sum:=by
 induction V generalizing p with
 |nil=>simp
 |cons v V ih=>
  cases p with
  |zero=>simp
  |succ p=>have:=ih p;simp only [List.getD_cons_succ,List.sum_cons];lia
theorem Acf{V:List Nat}(h:VOk V){F a:Nat}{G:List Nat}(hF:0 < F) (hd:∀p,p < V.length→1≤G.getD p 0+a→(G.getD p 0+a) ∣ F) (ha:a≤1) {p:Nat} (hp:p < V.length) (hne:p≠bestOf V G a):
  cl (Cl V F a G p,-(p:Int)) (Cl V F a G (bestOf V G a),-((bestOf V G a:Nat):Int)):=by
 refine Af fun Gz hGz=>?_
 obtain ⟨b1,b2,b3⟩:=H4 h G a
 generalize bestOf V G a=b at *
 have vp:=h.v1 p hp
 have vb:=h.v1 b b1
 have x1:=b2 p hp
 have x2:=b3 p
 have cross:1≤G.getD p 0+a→1≤G.getD b 0+a→cl (H5 V F a p (G.getD p 0),-(p:Int)) (H5 V F a b (G.getD b 0),-(b:Int)):=by
  intro gp gb
  obtain ⟨xp,ep⟩:=hd p hp gp
  obtain ⟨xb,eb⟩:=hd b b1 gb
  rw [Me,Me]
  have dp:F / (G.getD p 0+a)=xp:=by rw [ep];exact Nat.mul_div_cancel_left _ gp
  have db:F / (G.getD b 0+a)=xb:=by rw [eb];exact Nat.mul_div_cancel_left _ gb
  rw [dp,db]
  generalize V.getD p 0=v at *
  generalize V.getD b 0=u at *
  generalize G.getD p 0+a=g at *
  generalize G.getD b 0+a=k at *
  have hxp:0 < xp:=Nat.pos_of_ne_zero fun e=>by subst e;simp at ep;lia
  have hxb:0 < xb:=Nat.pos_of_ne_zero fun e=>by subst e;simp at eb;lia
  have up:v*k*(xp*xb)=F*(v*xp):=by rw [eb];simp only [Nat.mul_comm,Nat.mul_left_comm,Nat.mul_assoc]
  have ub:u*g*(xp*xb)=F*(u*xb):=by rw [ep];simp only [Nat.mul_comm,Nat.mul_left_comm,Nat.mul_assoc]
  have hx:0 < xp*xb:=Nat.mul_pos hxp hxb
  have le:v*xp≤u*xb:=by
   refine Nat.le_of_mul_le_mul_left ?_ hF
   rw [← up,← ub];exact Nat.mul_le_mul_right _ x1
  have lt:p < b→v*xp < u*xb:=by
   intro hpb
   refine Nat.lt_of_mul_lt_mul_left (a:=F) ?_
   rw [← up,← ub];exact Nat.mul_lt_mul_of_pos_right (x2 hpb) hx
  unfold cl
  simp only
  rcases Nat.lt_or_ge p b with hpb | hpb
  ·have:=lt hpb;left;exact N8 this
  ·omega
 refine hGz ?_
 unfold Cl
 rcases Nat.lt_or_ge 0 a with a1 | a0
 ·rw [if_neg (by lia),if_neg (by lia)]
  exact cross (by lia) (by lia)
 ·obtain rfl:a=0:=by lia
  by_cases gb:G.getD b 0=0
  ·by_cases gp:G.getD p 0=0
   ·rw [if_pos ⟨rfl,gp⟩,if_pos ⟨rfl,gb⟩]
    unfold cl
    simp only
    rcases Nat.lt_or_ge p b with hpb | hpb
    ·have:=x2 hpb
     rw [gp] at this
     simp at this
    ·exact .inr ⟨trivial,by lia⟩
   ·rw [if_neg (fun w=>gp w.2),if_pos ⟨rfl,gb⟩,Me,Uc]
    left
    simp only
    have l1:=Mr V p
    have l2:F / (G.getD p 0+0)≤F:=Nat.div_le_self ..
    have:=Nat.mul_le_mul l1 l2
    rw [← Int.natCast_mul]
    lia
  ·by_cases gp:G.getD p 0=0
   ·rw [gp] at x1
    simp only [Nat.add_zero,Nat.mul_zero,Nat.le_zero_eq,Nat.mul_eq_zero] at x1
    lia
   ·rw [if_neg (fun w=>gp w.2),if_neg (fun w=>gb w.2)]
    exact cross (by lia) (by lia)
structure Row (V:List Nat) (F a:Nat) (G:List Nat) (L:List (Int×Int)):Prop where
 srt:Srt L
 mem:∀e,e∈L↔∃p,p < V.length∧e=(Cl V F a G p,-(p:Int))
theorem A47{V:List Nat}(h:VOk V){F a:Nat}{G:List Nat} {L:List (Int×Int)} (hF:0 < F) (hd:∀p,p < V.length→1≤G.getD p 0+a→(G.getD p 0+a) ∣ F) (ha:a≤1) (R:Row V F a G L):
  L.getLast?=some (Cl V F a G (bestOf V G a),-((bestOf V G a:Nat):Int))∧L=L.dropLast++[(Cl V F a G (bestOf V G a),-((bestOf V G a:Nat):Int))]:=by
 have hb:=(H4 h G a).1
 have hm:=(R.mem _).mpr ⟨_,hb,rfl⟩
 have hne:L≠[]:=fun e=>by rw [e] at hm;cases hm
 have eL:=List.dropLast_concat_getLast hne
 refine Af fun Gz hGz=>?_
 obtain ⟨p,hp,ep⟩:=(R.mem _).mp (List.getLast_mem hne)
 have:L.getLast hne=(Cl V F a G (bestOf V G a),-((bestOf V G a:Nat):Int)):=by
  by_cases e:p=bestOf V G a
  ·rw [ep,e]
  ·exfalso
   have c1:=Acf h hF hd ha hp e
   rw [← ep] at c1
   rw [← eL] at hm
   rcases List.mem_append.mp hm with hm | hm
   ·have hs:=R.srt
    rw [← eL] at hs
    have c2:=(List.pairwise_append.mp hs).2.2 _ hm _ (.head _)
    exact cl.irr (c1.trans c2)
   ·rw [List.mem_singleton.mp hm] at c1
    exact cl.irr c1
 refine hGz ?_
 refine ⟨by rw [List.getLast?_eq_some_getLast hne,this],?_⟩
 rw [← this]
 exact eL.symm
theorem X0{V:List Nat}(h:VOk V){F a:Nat}(hF:0 < F)(ha:a≤1)(N:Nat)(hd:∀m,1≤m→m≤N→m ∣ F)(k:Nat):∀(L:List (Int×Int)) (G r:List Nat),G.length=V.length→Row V F a G L→(∀p,G.getD p 0+k+a≤N) →
  Id V F a k L G r=(En V a k G r).1:=by
 induction k with
 |zero=>intro L G r _ _ _;rfl
 |succ k ih=>
  intro L G r hl R hN
  have hb:=(H4 h G a).1
  obtain ⟨e1,e2⟩:=A47 h hF (fun p _ h1=>hd _ h1 (by have:=hN p;lia)) ha R
  unfold Id En
  rw [e1]
  simp only [Int.neg_neg,Int.toNat_natCast]
  generalize bestOf V G a=b at *
  refine ih _ _ _ (by rw [List.length_set];exact hl) ?_ fun p=>?_
  ·have srt2:Srt L.dropLast:=R.srt.sublist (List.dropLast_sublist L)
   have memD:∀e,e∈L.dropLast↔∃p,p < V.length∧p≠b∧e=(Cl V F a G p,-(p:Int)):=by
    intro e
    have hs:=R.srt
    rw [e2] at hs
    have cross:=(List.pairwise_append.mp hs).2.2
    constructor
    ·intro he
     refine Af fun Gz hGz=>?_
     obtain ⟨p,hp,ep⟩:=(R.mem e).mp (e2▸List.mem_append_left _ he)
     refine hGz ?_
     refine ⟨p,hp,fun q=>?_,ep⟩
     rw [q] at ep
     have:=cross e he _ (.head _)
     rw [ep] at this
     exact cl.irr this
    ·rintro ⟨p,hp,hpb,ep⟩
     have he:=(R.mem e).mpr ⟨p,hp,ep⟩
     rw [e2] at he
     rcases List.mem_append.mp he with he | he
     ·exact he
     ·rw [List.mem_singleton.mp he] at ep
      have:=congrArg (·.2) ep
      simp only at this
      lia
   refine ⟨Uh srt2 fun e he=>?_,fun e=>?_⟩
   ·refine Af fun Gz hGz=>?_
    obtain ⟨p,hp,hpb,rfl⟩:=(memD e).mp he
    refine hGz ?_
    simp only
    lia
   ·rw [Ue]
    constructor
    ·rintro (rfl | he)
     ·refine ⟨b,hb,?_⟩
      unfold Cl
      rw [Ik (by exact Dx hb hl),if_pos rfl,if_neg (by lia)]
     ·refine Af fun Gz hGz=>?_
      obtain ⟨p,hp,hpb,rfl⟩:=(memD e).mp he
      refine hGz ?_
      refine ⟨p,hp,?_⟩
      unfold Cl
      rw [Ik (by exact Dx hb hl),if_neg hpb]
    ·rintro ⟨p,hp,rfl⟩
     by_cases hpb:p=b
     ·left
      subst hpb
      unfold Cl
      rw [Ik (by exact Dx hp hl),if_pos rfl,if_neg (by lia)]
     ·right
      refine (memD _).mpr ⟨p,hp,hpb,?_⟩
      unfold Cl
      rw [Ik (by exact Dx hb hl),if_neg hpb]
  ·have:=hN p
   have:=hN b
   rw [Ik (by exact Dx hb hl)]
   split<;>lia
theorem A9q(k:Nat):∀i F,F ∣ facF k i F∧∀m,i≤m→m < i+k→m ∣ facF k i F:=by
 induction k with
 |zero=>intro i F;exact ⟨Nat.dvd_refl _,fun m h h'=>absurd h' (by lia)⟩
 |succ k ih=>
  intro i F
  obtain ⟨h1,h2⟩:=ih (i+1) (F*i)
  refine ⟨Nat.dvd_trans (Nat.dvd_mul_right ..) h1,fun m hm hk=>?_⟩
  rcases Nat.lt_or_ge i m with h | h
  ·exact h2 m h (Vk hk)
  ·rw [show m=i by lia]
   exact Nat.dvd_trans (Nat.dvd_mul_left ..) h1
theorem A8h(k:Nat):∀i F,0 < i→0 < F→0 < facF k i F:=by
 induction k with
 |zero=>intro i F _ h;exact h
 |succ k ih=>intro i F hi hF;exact ih (i+1) (F*i) F5 (Nat.mul_pos hF hi)
theorem Vx{V:List Nat}{F a:Nat}(ha:a≤1)(k:Nat):∀p L,p+k=V.length→Srt L→(∀e,e∈L↔∃q,q < p∧e=(Cl V F a (List.replicate V.length 0) q,-(q:Int)))→Row V F a (List.replicate V.length 0) (M5 V F a k p L):=by
 induction k with
 |zero=>
  intro p L hp hs hm
  obtain rfl:p=V.length:=by exact hp
  exact ⟨hs,hm⟩
 |succ k ih=>
  intro p L hp hs hm
  have e0:Eu V F a p=Cl V F a (List.replicate V.length 0) p:=by
   unfold Eu Cl
   rw [Nw]
   rcases Nat.lt_or_ge 0 a with a1 | a0
   ·obtain rfl:a=1:=by lia
    rw [if_neg (by exact Hj),if_neg (by lia),Me,Nat.zero_add,Nat.div_one,Int.natCast_mul]
   ·rw [if_pos (by lia),if_pos ⟨by lia,rfl⟩]
  refine ih (p+1) _ (E4 hp) (Uh hs fun e he=>?_) fun e=>?_
  ·refine Af fun Gz hGz=>?_
   obtain ⟨q,hq,rfl⟩:=(hm e).mp he
   refine hGz ?_
   simp only
   lia
  ·rw [Ue,hm,e0]
   constructor
   ·rintro (rfl | ⟨q,hq,rfl⟩)
    ·exact ⟨p,S5,rfl⟩
    ·exact ⟨q,Ey hq,rfl⟩
   ·rintro ⟨q,hq,rfl⟩
    by_cases h:q=p
    ·exact .inl (by rw [h])
    ·exact .inr ⟨q,z_6 hq h,rfl⟩
theorem T0{V:List Nat}(h:VOk V){s a:Nat}(ha:a≤1):Ju V s a=(En V a s (List.replicate V.length 0) []).1:=by
 unfold Ju
 refine X0 h (A8h s 2 1 (by decide) (by decide)) ha (s+1) (fun m h1 h2=>?_) s _ _ _ (List.length_replicate ..) (Vx ha V.length 0 [] Ep List.Pairwise.nil fun e=>⟨fun h=>(nomatch h),fun ⟨q,hq,_⟩=>absurd hq (by lia)⟩) fun p=>by rw [Nw];lia
 rcases Nat.lt_or_ge m 2 with h | h
 ·rw [show m=1 by lia];exact Nat.one_dvd _
 ·exact (A9q s 2 1).2 m h (by lia)
def Rn(V:List Nat)(W:Nat):Nat:=(V.map (cu · W)).sum
noncomputable def Fn(V:List Nat)(W:Nat):Nat:=(V.map (· / W)).sum
theorem Wh{W x:Nat}(hW:1≤W)(k:Nat):∀(d:List Str) (r:Nat),r≤W→∃m r',Gq W x k (d,r)=(d++List.replicate m (C8 x W),r')∧m*W+r'=r+k∧r'≤W∧(1≤r+k→1≤r'):=by
 induction k with
 |zero=>intro d r hr;exact I0 0 r ⟨by unfold Gq;simp,by lia,hr,fun h=>h⟩
 |succ k ih=>
  intro d r hr
  unfold Gq Sc
  by_cases h:r < W
  ·rw [if_pos h]
   refine Af fun Gz hGz=>?_
   obtain ⟨m,r',e,h1,h2,h3⟩:=ih d (r+1) h
   refine hGz ?_
   exact I0 m r' ⟨e,by lia,h2,fun _=>h3 (by lia)⟩
  ·rw [if_neg h]
   refine Af fun Gz hGz=>?_
   obtain ⟨m,r',e,h1,h2,h3⟩:=ih (d++[C8 x W]) 1 hW
   refine hGz ?_
   refine I0 (m+1) r' ⟨by rw [e,List.append_assoc,List.replicate_succ];rfl,?_,h2,fun _=>h3 Er⟩
   rw [Nat.add_mul];lia
theorem Agm{W v m r:Nat}(h:m*W+r=v)(h1:1≤r)(h2:r≤W):cu v W=m+1:=by
 unfold cu
 rw [show v+W - 1=(r - 1)+W*(m+1) by rw [← h,Nat.mul_add,Nat.mul_comm m W];lia,Nat.add_mul_div_left _ _ (G8 h1 h2),Nat.div_eq_of_lt (by lia)];exact Ep
theorem Wb{W x v:Nat}(hW:1≤W)(hv:1≤v)(done:List Str):∃m r,m*W+r=v∧1≤r∧r≤W∧Fo W x v done=done++(List.replicate m (C8 x W)++[C8 x r]):=by
 refine Af fun Gz hGz=>?_
 refine A6b (Wh (x:=x) hW v done 0 F5) fun m r e h1 h2 h3=>?_
 refine hGz ?_
 refine I0 m r ⟨by lia,h3 (by lia),h2,?_⟩
 unfold Fo
 rw [e,List.append_assoc]
theorem N6(W:Nat)(a b:List Str):D0 W (a++b)=D0 W a+D0 W b:=by
 unfold D0;rw [List.filter_append,List.length_append]
theorem Ss(W x r:Nat):D0 W [C8 x r]=if r=W then 1 else 0:=by
 unfold D0
 have:(C8 x r).length=2*r:=Li x r
 by_cases h:r=W
 ·rw [if_pos h,List.filter_cons_of_pos (by rw [this,h];simp)];rfl
 ·rw [if_neg h,List.filter_cons_of_neg (by rw [this];simp;lia)];rfl
theorem A37(W x m:Nat):D0 W (List.replicate m (C8 x W))=m:=by
 induction m with
 |zero=>rfl
 |succ m ih=>
  rw [List.replicate_succ,← List.singleton_append,N6,ih,Ss,if_pos rfl];exact Ep
theorem Abz{W v m r:Nat}(h:m*W+r=v)(h1:1≤r)(h2:r≤W):v / W=m+if r=W then 1 else 0:=by
 rw [← h,Nat.mul_comm,Nat.mul_add_div (by exact G8 h1 h2)]
 split
 ·rename_i e;rw [e,Nat.div_self (by exact N9 e h1)]
 ·rw [Nat.div_eq_of_lt (by lia)]
theorem A09{W:Nat}(hW:1≤W)(V:List Nat):∀(i:Nat) (done:List Str),(∀v∈V,1≤v)→(Dy W i V done).length=done.length+Rn V W∧D0 W (Dy W i V done)=D0 W done+Fn V W:=by
 induction V with
 |nil=>intro i done _;exact ⟨rfl,rfl⟩
 |cons v V ih=>
  intro i done hV
  unfold Dy
  refine Af fun Gz hGz=>?_
  obtain ⟨h1,h2⟩:=ih (i+1) (Fo W (97+i) v done) fun u hu=>hV u (.tail _ hu)
  refine A6b (Wb (x:=97+i) hW (hV v (.head _)) done) fun m r e1 e2 e3 e4=>?_
  refine hGz ?_
  rw [h1,h2,e4]
  unfold Rn Fn
  rw [List.map_cons,List.map_cons,List.sum_cons,List.sum_cons,Agm e1 e2 e3,Abz e1 e2 e3,N6,N6,A37,Ss]
  simp only [List.length_append,List.length_replicate,List.length_singleton]
  lia
theorem Vq{W:Nat}(hW:1≤W){V:List Nat}(hV:∀v∈V,1≤v):(Cf W V).length=Rn V W∧D0 W (Cf W V)=Fn V W:=by
 have:=A09 hW V 0 [] hV
 unfold Cf
 refine ⟨?_,?_⟩
 ·rw [this.1];simp
 ·rw [this.2];show 0+_=_;exact Ep
theorem Ny{A B:List Nat}(hl:A.length=B.length)(h:∀p,p < A.length→A.getD p 0≤B.getD p 0):A.sum≤B.sum:=by
 induction A generalizing B with
 |nil=>
  cases B with
  |nil=>exact Nat.le_refl _
  |cons b B=>cases hl
 |cons a A ih=>
  cases B with
  |nil=>cases hl
  |cons b B=>
   have h0:=h 0 (by simp)
   have:=ih (B:=B) (by simpa using hl) fun p hp=>by simpa using h (p+1) (by simpa using hp)
   rw [List.sum_cons,List.sum_cons]
   simp at h0
   lia
theorem Sq{A B:List Nat}(hl:A.length=B.length)(h:∀p,p < A.length→A.getD p 0≤B.getD p 0){q:Nat}(hq:q < A.length)(hlt:A.getD q 0 < B.getD q 0):A.sum < B.sum:=by
 induction A generalizing B q with
 |nil=>exact absurd hq (by simp)
 |cons a A ih=>
  cases B with
  |nil=>cases hl
  |cons b B=>
   have h0:=h 0 (by simp)
   simp at h0
   have hl':A.length=B.length:=by simpa using hl
   have h':∀p,p < A.length→A.getD p 0≤B.getD p 0:=fun p hp=>by simpa using h (p+1) (by simpa using hp)
   rw [List.sum_cons,List.sum_cons]
   cases q with
   |zero=>have:=Ny hl' h';simp at hlt;lia
   |succ q=>have:=ih hl' h' (q:=q) (by simpa using hq) (by simpa using hlt);lia
theorem Gk{f:Nat→Nat}{V:List Nat}{p:Nat}(h:p < V.length):(V.map f).getD p 0=f (V.getD p 0):=by
 rw [List.getD_eq_getElem?_getD,List.getElem?_map,List.getElem?_eq_getElem h,Ec h];rfl
theorem Mf{v h U:Nat}(hh:1≤h):cu v h≤U↔v≤U*h:=by
 unfold cu
 rw [← Nat.lt_succ_iff,Nat.div_lt_iff_lt_mul hh,Nat.succ_mul]
 lia
theorem A7c(l:List Nat):∀x:Nat,∃U:Nat,Ku (x:Int) (l.map Int.ofNat)=(U:Int)∧(∀y∈x::l,y≤U)∧U∈x::l:=by
 induction l with
 |nil=>intro x;exact ⟨x,rfl,fun y h=>by rw [List.mem_singleton.mp h];exact Nat.le_refl _,.head _⟩
 |cons a l ih=>
  intro x
  refine Af fun Gz hGz=>?_
  obtain ⟨U,h1,h2,h3⟩:=ih (if x < a then a else x)
  refine hGz ?_
  refine ⟨U,?_,fun y hy=>?_,?_⟩
  ·show Ku (Xx (x:Int) (a:Int)) _=_
   rw [← h1]
   congr 1
   unfold Xx
   split<;>split<;>lia
  ·have h0:=h2 _ (.head _)
   rcases List.mem_cons.mp hy with rfl | hy
   ·split at h0<;>lia
   ·rcases List.mem_cons.mp hy with rfl | hy
    ·split at h0<;>lia
    ·exact h2 y (.tail _ hy)
  ·rcases List.mem_cons.mp h3 with h | h
   ·rw [h];split
    ·exact .tail _ (.head _)
    ·exact .head _
   ·exact .tail _ (.tail _ h)
theorem A8x(l:List Nat):∀x:Nat,∃U:Nat,Nb (x:Int) (l.map Int.ofNat)=(U:Int)∧(∀y∈x::l,U≤y)∧U∈x::l:=by
 induction l with
 |nil=>intro x;exact ⟨x,rfl,fun y h=>by rw [List.mem_singleton.mp h];exact Nat.le_refl _,.head _⟩
 |cons a l ih=>
  intro x
  refine Af fun Gz hGz=>?_
  obtain ⟨U,h1,h2,h3⟩:=ih (if a < x then a else x)
  refine hGz ?_
  refine ⟨U,?_,fun y hy=>?_,?_⟩
  ·show Nb (mn2 (x:Int) (a:Int)) _=_
   rw [← h1]
   congr 1
   unfold mn2
   split<;>split<;>lia
  ·have h0:=h2 _ (.head _)
   rcases List.mem_cons.mp hy with rfl | hy
   ·split at h0<;>lia
   ·rcases List.mem_cons.mp hy with rfl | hy
    ·split at h0<;>lia
    ·exact h2 y (.tail _ hy)
  ·rcases List.mem_cons.mp h3 with h | h
   ·rw [h];split
    ·exact .tail _ (.head _)
    ·exact .head _
   ·exact .tail _ (.tail _ h)
theorem Sf{V H:List Nat}(k:Nat):∀p y,y∈K7 V H k p↔∃q,p≤q∧q < p+k∧y=cu (V.getD q 0) (H.getD q 0):=by
 induction k with
 |zero=>intro p y;exact ⟨fun h=>(nomatch h),fun ⟨q,h1,h2,_⟩=>absurd h2 (by lia)⟩
 |succ k ih=>
  intro p y
  unfold K7
  rw [List.mem_cons,ih]
  constructor
  ·rintro (rfl | ⟨q,h1,h2,h3⟩)
   ·exact ⟨p,Nat.le_refl _,P9,rfl⟩
   ·exact ⟨q,C6 h1,Nl h2,h3⟩
  ·rintro ⟨q,h1,h2,h3⟩
   by_cases e:q=p
   ·exact .inl (by rw [h3,e])
   ·exact .inr ⟨q,by lia,Vk h2,h3⟩
theorem Ta{V H:List Nat}(k:Nat):∀p y,y∈Ir V H k p↔∃q,p≤q∧q < p+k∧0 < H.getD q 0∧y=V.getD q 0 / H.getD q 0:=by
 induction k with
 |zero=>intro p y;exact ⟨fun h=>(nomatch h),fun ⟨q,h1,h2,_⟩=>absurd h2 (by lia)⟩
 |succ k ih=>
  intro p y
  unfold Ir
  by_cases hc:0 < H.getD p 0
  ·rw [if_pos hc,List.mem_cons,ih]
   constructor
   ·rintro (rfl | ⟨q,h1,h2,h3⟩)
    ·exact ⟨p,Nat.le_refl _,P9,hc,rfl⟩
    ·exact ⟨q,C6 h1,Nl h2,h3⟩
   ·rintro ⟨q,h1,h2,h4,h3⟩
    by_cases e:q=p
    ·exact .inl (by rw [h3,e])
    ·exact .inr ⟨q,by lia,Vk h2,h4,h3⟩
  ·rw [if_neg hc,ih]
   constructor
   ·rintro ⟨q,h1,h2,h3⟩
    exact ⟨q,C6 h1,Nl h2,h3⟩
   ·rintro ⟨q,h1,h2,h4,h3⟩
    by_cases e:q=p
    ·rw [e] at h4;exact absurd h4 hc
    ·exact ⟨q,by lia,Vk h2,h4,h3⟩
theorem Agu{V:List Nat}(h:VOk V)(h6:∀q,q < V.length→V.getD q 0≤6){s:Nat}(hs:V.length≤s):
  (∀q,q < V.length→1≤(Cr V s 0).getD q 0)∧∃U:Nat,(∃(x:Nat) (l:List Nat),K7 V (Cr V s 0) V.length 0=x::l∧Ku (x:Int) (l.map Int.ofNat)=(U:Int))∧1≤U∧U≤6∧∀W,1≤W→(Rn V W≤s↔U≤W):=by
 refine Af fun Gz hGz=>?_
 obtain ⟨fair,sumH,lenH⟩:=Is h s 0
 generalize Cr V s 0=H at *
 have n1:=h.n1
 have pos:∀q,q < V.length→1≤H.getD q 0:=by
  intro q hq
  refine Nat.pos_of_ne_zero fun e=>?_
  have:H.sum < (List.replicate H.length 1).sum:=by
   refine Sq (q:=q) (by simp) (fun p hp=>?_) (Dx hq lenH) ?_
   ·rw [List.getD_eq_getElem?_getD (l:=List.replicate _ _),List.getElem?_replicate,if_pos hp]
    show _≤1
    rcases Nat.eq_zero_or_pos (H.getD p 0) with z | z
    ·lia
    ·have:=fair q p hq (N9 lenH hp) z
     rw [e,Nat.add_zero,Nat.add_zero,Nat.mul_zero,Nat.le_zero_eq,Nat.mul_eq_zero] at this
     have:=h.v1 q hq
     lia
   ·rw [List.getD_eq_getElem?_getD (l:=List.replicate _ _),List.getElem?_replicate,if_pos (by exact Dx hq lenH),e];exact Nat.zero_lt_one
  have z:∀n:Nat,(List.replicate n 1).sum=n:=by
   intro n
   induction n with
   |zero=>rfl
   |succ n ih=>rw [List.replicate_succ,List.sum_cons,ih];exact Ep
  rw [z] at this
  lia
 refine hGz ?_
 refine ⟨pos,?_⟩
 refine Af fun Gz hGz=>?_
 obtain ⟨x,l,exl⟩:∃x l,K7 V H V.length 0=x::l:=by
  cases e:K7 V H V.length 0 with
  |nil=>
   have:=(Sf (V:=V) (H:=H) V.length 0 _).mpr ⟨0,Nat.le_refl _,by lia,rfl⟩
   rw [e] at this;cases this
  |cons x l=>exact ⟨x,l,rfl⟩
 obtain ⟨U,m1,m2,m3⟩:=A7c l x
 rw [← exl] at m2 m3
 obtain ⟨p0,_,hp0,eU⟩:=(Sf V.length 0 U).mp m3
 rw [Nat.zero_add] at hp0
 have all:∀q,q < V.length→V.getD q 0≤U*H.getD q 0:=fun q hq=>(Mf (pos q hq)).mp (m2 _ ((Sf V.length 0 _).mpr ⟨q,Nat.zero_le _,by lia,rfl⟩))
 refine hGz ?_
 refine ⟨U,⟨x,l,exl,m1⟩,?_,?_,fun W hW=>⟨fun hR=>?_,fun hU=>?_⟩⟩
 ·refine Nat.pos_of_ne_zero fun e=>?_
  have a1:=all p0 hp0
  have:=h.v1 p0 hp0
  rw [e,Nat.zero_mul] at a1
  exact Hn a1 this
 ·rw [eU]
  refine (Mf (pos p0 hp0)).mpr ?_
  have:=h6 p0 hp0
  have:=pos p0 hp0
  lia
 ·refine Nat.le_of_not_lt fun hlt=>?_
  have q0:W*H.getD p0 0 < V.getD p0 0:=by
   rw [eU] at hlt
   refine Nat.lt_of_not_le fun w=>?_
   have:=(Mf (pos p0 hp0)).mpr w
   exact Hn this hlt
  have:H.sum < Rn V W:=by
   unfold Rn
   refine Sq (q:=p0) (by rw [List.length_map];exact lenH) (fun p hp=>?_) (Dx hp0 lenH) ?_
   ·rw [Gk (by exact N9 lenH hp)]
    have hp':p < V.length:=by exact N9 lenH hp
    refine Nat.le_of_not_lt fun w=>?_
    have w:=(Mf (v:=V.getD p 0) (U:=H.getD p 0 - 1) hW).mp (Af7 w)
    have f:=fair p0 p hp0 hp' (pos p hp')
    rw [Nat.add_zero,Nat.add_zero] at f
    rcases Nat.eq_zero_or_pos (H.getD p 0 - 1) with z | z
    ·rw [z,Nat.zero_mul] at w
     have:=h.v1 p hp'
     exact Hn w this
    ·have a1:=Nat.mul_lt_mul_of_pos_right q0 z
     have a2:=Nat.mul_le_mul_right (H.getD p0 0) w
     have a3:W*H.getD p0 0*(H.getD p 0 - 1)=(H.getD p 0 - 1)*W*H.getD p0 0:=by rw [Nat.mul_comm (W*_),← Nat.mul_assoc]
     lia
   ·rw [Gk hp0]
    refine Nat.lt_of_not_le fun w=>?_
    have:=(Mf hW).mp w
    rw [Nat.mul_comm] at this
    exact Hn this q0
  lia
 ·rw [← sumH]
  unfold Rn
  refine Ny (by rw [List.length_map];exact lenH.symm) fun p hp=>?_
  rw [List.length_map] at hp
  rw [Gk hp]
  refine (Mf hW).mpr (Nat.le_trans (all p hp) ?_)
  rw [Nat.mul_comm]
  exact Nat.mul_le_mul_left _ hU
theorem Xm{V:List Nat}(h:VOk V)(h6:∀q,q < V.length→V.getD q 0≤6){s:Nat}(hs:1≤s)(hs2:s≤V.sum):
  ∃W:Nat,(∃(x:Nat) (l:List Nat),Ir V (Cr V s 1) V.length 0=x::l∧Nb (x:Int) (l.map Int.ofNat)=(W:Int))∧1≤W∧W≤6∧∀w,1≤w→(s≤Fn V w↔w≤W):=by
 refine Af fun Gz hGz=>?_
 obtain ⟨fair,sumH,lenH⟩:=Is h s 1
 generalize Cr V s 1=H at *
 have n1:=h.n1
 obtain ⟨x,l,exl⟩:∃x l,Ir V H V.length 0=x::l:=by
  cases e:Ir V H V.length 0 with
  |nil=>
   exfalso
   have z:H.sum≤(List.replicate H.length 0).sum:=Ny (by simp) fun p hp=>by
    refine Nat.le_of_not_lt fun w=>?_
    rw [Nw] at w
    have:=(Ta (V:=V) (H:=H) V.length 0 _).mpr ⟨p,Nat.zero_le _,by lia,w,rfl⟩
    rw [e] at this;cases this
   have z0:∀n:Nat,(List.replicate n 0).sum=0:=by
    intro n
    induction n with
    |zero=>rfl
    |succ n ih=>rw [List.replicate_succ,List.sum_cons,ih]
   rw [z0] at z
   lia
  |cons x l=>exact ⟨x,l,rfl⟩
 obtain ⟨W,m1,m2,m3⟩:=A8x l x
 rw [← exl] at m2 m3
 obtain ⟨p0,_,hp0,hk,eW⟩:=(Ta V.length 0 W).mp m3
 rw [Nat.zero_add] at hp0
 have all:∀q,q < V.length→W*H.getD q 0≤V.getD q 0:=fun q hq=>by
  rcases Nat.eq_zero_or_pos (H.getD q 0) with z | z
  ·rw [z];exact Nat.zero_le _
  ·exact (Nat.le_div_iff_mul_le z).mp (m2 _ ((Ta V.length 0 _).mpr ⟨q,Nat.zero_le _,by lia,z,rfl⟩))
 have low:∀w,1≤w→w≤W→s≤Fn V w:=by
  intro w hw hle
  rw [← sumH]
  unfold Fn
  refine Ny (by rw [List.length_map];exact lenH) fun p hp=>?_
  rw [Gk (by exact N9 lenH hp)]
  refine (Nat.le_div_iff_mul_le hw).mpr (Nat.le_trans ?_ (all p (N9 lenH hp)))
  rw [Nat.mul_comm]
  exact Nat.mul_le_mul_right _ hle
 have high:∀w,1≤w→W < w→Fn V w < s:=by
  intro w hw hlt
  have q0:V.getD p0 0 < w*H.getD p0 0:=by
   rw [eW] at hlt
   exact (Nat.div_lt_iff_lt_mul hk).mp hlt
  rw [← sumH]
  unfold Fn
  refine Sq (q:=p0) (by rw [List.length_map];exact lenH.symm) (fun p hp=>?_) (by rw [List.length_map];exact hp0) ?_
  ·rw [List.length_map] at hp
   rw [Gk hp]
   refine Nat.lt_succ_iff.mp ((Nat.div_lt_iff_lt_mul hw).mpr ?_)
   have f:=fair p p0 hp hp0 hk
   rw [show H.getD p0 0 - 1+1=H.getD p0 0 by lia] at f
   refine Nat.lt_of_mul_lt_mul_right (a:=H.getD p0 0) (Nat.lt_of_le_of_lt f ?_)
   have:=Nat.mul_lt_mul_of_pos_right q0 (show 0 < H.getD p 0+1 by exact F5)
   rw [show (H.getD p 0).succ*w*H.getD p0 0=w*H.getD p0 0*(H.getD p 0+1) by rw [Nat.mul_assoc,Nat.mul_comm]]
   exact this
  ·rw [Gk hp0]
   exact (Nat.div_lt_iff_lt_mul hw).mpr (by rw [Nat.mul_comm];exact q0)
 have W1:1≤W:=by
  refine Nat.pos_of_ne_zero fun e=>?_
  have:=high 1 (Nat.le_refl _) (by lia)
  have e1:Fn V 1=V.sum:=by
   unfold Fn
   congr 1
   have:(fun x:Nat=>x / 1)=id:=funext fun x=>Nat.div_one x
   rw [this,List.map_id]
  lia
 refine hGz ?_
 refine ⟨W,⟨x,l,exl,m1⟩,W1,?_,fun w hw=>⟨fun hF=>Nat.le_of_not_lt fun hlt=>?_,low w hw⟩⟩
 ·have:=all p0 hp0
  have:=h6 p0 hp0
  have:W*1≤W*H.getD p0 0:=Nat.mul_le_mul_left _ hk
  lia
 ·have:=high w hw hlt
  exact Hn hF this
theorem Sv{f:Int→Bool}{k:Int}(h0:0≤k)(h6:k≤6) (h:∀i:Int,0≤i→i < 6→(f i=true↔i < k)):Dh f 6=k:=by
 have hk:=Nq f 6
 obtain ⟨f1,f2⟩:=Of f 6 0 6 (by decide) (by decide) fun i j a b c d=>(h j a (by lia)).mpr (by have:=(h i (J9 a b) c).mp d;lia)
 show Cz f 6 0 6=k
 have hk:0≤Cz f 6 0 6∧Cz f 6 0 6≤6:=hk
 generalize Cz f 6 0 6=x at *
 rcases Int.lt_trichotomy x k with hlt | he | hgt
 ·have a:=f2 x (Int.le_refl _) (J9 hlt h6)
  have b:=(h x (by lia) (J9 hlt h6)).mpr hlt
  rw [a] at b;cases b
 ·exact he
 ·have a:=f1 k h0 hgt
  have:=(h k h0 (by lia)).mp a
  lia
noncomputable def wt(g:Nat→Nat):List Nat→Nat→Nat
 |[],_=>0
 |c::C,i=>g i*c+wt g C (i+1)
theorem Acz(g:Nat→Nat)(C:List Nat):∀i b,b < C.length→wt g (C.set b (C.getD b 0+1)) i=wt g C i+g (i+b):=by
 induction C with
 |nil=>intro i b h;exact absurd h (by simp)
 |cons c C ih=>
  intro i b h
  cases b with
  |zero=>
   show g i*(c+1)+_=g i*c+_+g i
   rw [Nat.mul_add,Nat.mul_one];exact Dp
  |succ b=>
   show g i*c+wt g (C.set b (C.getD b 0+1)) (i+1)=_
   rw [ih (i+1) b (by simpa using h)]
   show _=g i*c+wt g C (i+1)+g (i+(b+1))
   rw [show i+(b+1)=i+1+b by exact Sn];lia
theorem Acc(g:Nat→Nat)(k:Nat)(C:List Nat):∀i,wt g (C++List.replicate k 0) i=wt g C i:=by
 induction C with
 |nil=>
  intro i
  show wt g (List.replicate k 0) i=0
  induction k generalizing i with
  |zero=>rfl
  |succ k ih=>rw [List.replicate_succ];show g i*0+_=0;rw [ih];exact Ep
 |cons c C ih=>intro i;show g i*c+wt g (C++_) (i+1)=_;rw [ih];rfl
theorem A0m(g:Nat→Nat)(C:List Nat)(b:Nat):wt g (Di C b) 0=wt g C 0+g b:=by
 unfold Di
 rw [Acz g _ 0 b (It C b).1,Nat.zero_add]
 unfold Eb
 split
 ·rfl
 ·rw [Acc]
theorem A3a{C:List Nat}{b:Nat}(h:b < C.length):(Di C b).length=C.length:=by
 unfold Di Eb
 rw [if_pos h,List.length_set]
theorem Qd(k:Nat)(l C:List Nat):∀b n m,Bt (List.replicate k 32++9::l) C b n m=Bt l (Di C (b+k)) 0 (n+k+1) (m+1):=by
 induction k with
 |zero=>
  intro b n m
  show (if (9:Nat)=32 then _ else _)=_
  rw [if_neg (by decide)];rfl
 |succ k ih=>
  intro b n m
  rw [List.replicate_succ]
  show (if (32:Nat)=32 then Bt (List.replicate k 32++9::l) C (b+1) (n+1) m else _)=_
  rw [if_pos rfl,ih,show b+1+k=b+(k+1) by exact Dp,show n+1+k=n+(k+1) by exact Dp]
theorem W8(f:Nat→Nat)(N:Nat)(V:List Nat):∀C n m,C.length=N→(∀v∈V,f v < N) →
  ∃C' n',Bt (V.flatMap fun v=>List.replicate (f v) 32++[9]) C 0 n m=(C',0,n',m+V.length)∧C'.length=N∧∀g,wt g C' 0=wt g C 0+(V.map fun v=>g (f v)).sum:=by
 induction V with
 |nil=>intro C n m hC _;exact I0 C n ⟨rfl,hC,fun g=>rfl⟩
 |cons v V ih=>
  intro C n m hC hV
  have hv:=hV v (.head _)
  rw [List.flatMap_cons,List.append_assoc,List.singleton_append,Qd,Nat.zero_add]
  refine Af fun Gz hGz=>?_
  obtain ⟨C',n',e,h1,h2⟩:=ih (Di C (f v)) (n+f v+1) (m+1) (by rw [A3a (by exact Dx hv hC)];exact hC) fun u hu=>hV u (.tail _ hu)
  refine hGz ?_
  refine I0 C' n' ⟨by rw [e,List.length_cons,Nat.add_right_comm,Nat.add_assoc],h1,fun g=>?_⟩
  rw [h2,A0m,List.map_cons,List.sum_cons,Nat.add_assoc]
theorem Lf(f:Nat→Nat)(N v:Nat)(V:List Nat)(hv:f v+1=N)(hV:∀u∈V,f u < N):
  ∃C n,Bt ((v::V).flatMap fun v=>List.replicate (f v) 32++[9]) [] 0 0 0=(C,0,n,V.length+1)∧C.length=N∧∀g,wt g C 0=((v::V).map fun v=>g (f v)).sum:=by
 rw [List.flatMap_cons,List.append_assoc,List.singleton_append,Qd,Nat.zero_add]
 have hl:(Di [] (f v)).length=N:=by
  unfold Di Eb
  rw [if_neg (by simp),List.length_set];simp;exact hv
 refine Af fun Gz hGz=>?_
 refine Rd (W8 f N V (Di [] (f v)) (f v+1) (0+1) hl hV) fun C n e h1 h2=>?_
 refine hGz ?_
 refine I0 C n ⟨by rw [e,Nat.zero_add,Nat.add_comm],h1,fun g=>?_⟩
 rw [h2,A0m,List.map_cons,List.sum_cons]
 show 0+_+_=_
 lia
theorem Aat(C:List Nat)(e:Nat)(k:Nat):∀i s,i+k=C.length→ilS C e k i s=s+wt (· / e) (C.drop i) i:=by
 induction k with
 |zero=>intro i s h;rw [List.drop_of_length_le (by exact Mz h)];rfl
 |succ k ih=>
  intro i s h
  have hi:i < C.length:=by exact E1 h
  unfold ilS
  rw [ih (i+1) _ (by exact E4 h),Gc hi,Ec hi]
  show _=s+(i / e*C[i]+wt (· / e) (C.drop (i+1)) (i+1))
  lia
theorem Uy(C:List Nat)(e:Nat)(k:Nat):∀i,i+k≤e→wt (· / e) C i=wt (· / e) (C.drop k) (i+k):=by
 induction k generalizing C with
 |zero=>intro i _;rfl
 |succ k ih=>
  intro i h
  cases C with
  |nil=>rfl
  |cons c C=>
   show i / e*c+wt (· / e) C (i+1)=wt (· / e) (C.drop k) (i+(k+1))
   rw [Nat.div_eq_of_lt (by lia),Nat.zero_mul,Nat.zero_add,ih C (i+1) (by exact E0 h),Nat.add_right_comm,Nat.add_assoc]
theorem Nm(C:List Nat)(m e:Nat):Bj C 0 m e=e*(wt (· / e) C 0+m):=by
 unfold Bj
 rw [Nat.zero_add]
 congr 2
 rcases Nat.lt_or_ge C.length e with h | h
 ·rw [show C.length - e=0 by lia,Uy C e e 0 (by lia),List.drop_of_length_le (by lia)];rfl
 ·rw [Aat C e (C.length - e) e 0 (by lia),Nat.zero_add,Uy C e e 0 (by lia),Nat.zero_add]
theorem Ov(f:Nat→Nat)(V:List Nat):(V.map f).sum+V.length=(V.map fun v=>f v+1).sum:=by
 induction V with
 |nil=>rfl
 |cons v V ih=>rw [List.map_cons,List.map_cons,List.sum_cons,List.sum_cons,← ih,List.length_cons];lia
theorem Rx(s:Nat)(h1:1≤s):Dt (List.replicate s 9)=[s]∧I7 (List.replicate s 9)=s:=by
 refine Af fun Gz hGz=>?_
 obtain ⟨k,rfl⟩:∃k,s=k+1:=⟨s - 1,A2j h1⟩
 have H:∀k a n m,Bt (List.replicate k 9) [a] 0 n m=([a+k],0,n+k,m+k):=by
  intro k
  induction k with
  |zero=>intro a n m;rfl
  |succ k ih=>
   intro a n m
   rw [List.replicate_succ]
   show Bt (List.replicate k 9) [a+1] 0 (n+1) (m+1)=_
   rw [ih,Nat.add_right_comm a,Nat.add_right_comm n,Nat.add_right_comm m];rfl
 have e:Bt (List.replicate (k+1) 9) [] 0 0 0=([1+k],0,1+k,1+k):=by
  rw [List.replicate_succ]
  show Bt (List.replicate k 9) [1] 0 1 1=_
  rw [H]
 refine hGz ?_
 unfold Dt I7
 rw [e,Nat.add_comm]
 exact ⟨rfl,rfl⟩
theorem In(s e:Nat)(he:1≤e):Bj [s] 0 s e=e*s:=by
 rw [Nm]
 show e*(0 / e*s+0+s)=_
 rw [Nat.zero_div,Nat.zero_mul,Nat.zero_add]
theorem Ur(la lb:Nat→Nat)(j k:Nat):∀z,Df la lb (j+k) z=Df la lb j z++Df la lb k (z+j):=by
 induction j with
 |zero=>intro z;rw [Nat.zero_add];rfl
 |succ j ih=>
  intro z
  have hs:∀k z,Df la lb (k+1) z=if lb z≤la z then (z,la z,lb z)::Df la lb k (z+1) else Df la lb k (z+1):=fun _ _=>rfl
  rw [Nat.succ_add,hs,hs,ih (z+1),Nat.add_assoc,Nat.add_comm 1 j]
  split
  ·rfl
  ·rfl
theorem Ry{la lb:Nat→Nat}(k:Nat):∀z,(∀e,z≤e→e < z+k→¬ lb e≤la e)→Df la lb k z=[]:=by
 induction k with
 |zero=>intro z _;rfl
 |succ k ih=>
  intro z h
  unfold Df
  rw [if_neg (h z (Nat.le_refl _) (by exact P9))]
  exact ih (z+1) fun e a b=>h e (C6 a) (Nl b)
theorem Af2{la lb:Nat→Nat}{V:List Nat}{s:Nat}(k:Nat):∀z,(∀e,z≤e→e < z+k→lb e≤la e∧la e=e*s∧lb e=e*Rn V e)→Df la lb k z=Rk V s k z:=by
 induction k with
 |zero=>intro z _;rfl
 |succ k ih=>
  intro z h
  refine Af fun Gz hGz=>?_
  obtain ⟨a,b,c⟩:=h z (Nat.le_refl _) P9
  refine hGz ?_
  unfold Df Rk
  rw [if_pos a,b,c,ih (z+1) fun e a b=>h e (by exact C6 a) (by exact Nl b)];rfl
theorem Ach{la lb:Nat→Nat}{V:List Nat}{s:Nat}(k:Nat):∀z,(∀e,z≤e→e < z+k→lb e≤la e∧la e=e*(V.map (· / e+1)).sum∧lb e=e*s)→Df la lb k z=Sx V s k z:=by
 induction k with
 |zero=>intro z _;rfl
 |succ k ih=>
  intro z h
  refine Af fun Gz hGz=>?_
  obtain ⟨a,b,c⟩:=h z (Nat.le_refl _) P9
  refine hGz ?_
  unfold Df Sx
  rw [if_pos a,b,c,ih (z+1) fun e a b=>h e (by exact C6 a) (by exact Nl b)]
theorem A4g{f:Nat→Nat}(V:List Nat):∀c∈V.flatMap (fun v=>List.replicate (f v) 32++[9]),c=32∨c=9:=by
 intro c hc
 obtain ⟨v,_,h⟩:=List.mem_flatMap.mp hc
 rcases List.mem_append.mp h with h | h
 ·exact .inl (List.eq_of_mem_replicate h)
 ·exact .inr (List.mem_singleton.mp h)
theorem Uf{f:Nat→Nat}{v:Nat}{V:List Nat}(hv:f v≤6)(h5:V.length≤4)(hV:∀u∈V,f u≤f v):LeadOk ((v::V).flatMap fun v=>List.replicate (f v) 32++[9]):=by
 refine Af fun Gz hGz=>?_
 refine Rd (Lf f (f v+1) v V rfl fun u hu=>by have:=hV u hu;lia) fun C n e h1 _=>?_
 refine hGz ?_
 refine ⟨⟨f v,V.flatMap fun v=>List.replicate (f v) 32++[9],by rw [List.flatMap_cons,List.append_assoc,List.singleton_append],A4g V,?_⟩,by rw [e],?_⟩
 ·have:=A8i (fun v=>List.replicate (f v) 32++[9]) V fun u hu=>by
   rw [List.length_append,List.length_replicate]
   have:=hV u hu
   show f u+1≤7
   lia
  lia
 ·unfold Dt
  rw [e]
  show 1≤C.length∧C.length < 8
  lia
theorem X7(V':List Nat)(s:Nat)(hV':∀v∈V',1≤v∧v≤6)(h3:V'.length≤3)(h1:V'.length+2≤s) (h2:s≤(6::3::V').sum):∃U W,Good (6::3::V') s U W:=by
 have hV:∀v∈6::3::V',1≤v∧v≤6:=by
  intro v hv
  rcases List.mem_cons.mp hv with rfl | hv
  ·decide
  ·rcases List.mem_cons.mp hv with rfl | hv
   ·decide
   ·exact hV' v hv
 have hsum:(6::3::V').sum≤30:=by
  have H:∀l:List Nat,(∀v∈l,1≤v∧v≤6)→l.sum≤6*l.length:=by
   intro l
   induction l with
   |nil=>intro _;simp
   |cons a l ih=>
    intro h
    have:=ih fun v hv=>h v (.tail _ hv)
    have:=h a (.head _)
    rw [List.sum_cons,List.length_cons];lia
  have:=H _ hV
  simp only [List.length_cons] at this
  lia
 have hlen:(6::3::V').length=V'.length+2:=rfl
 generalize eT:3::V'=T at *
 have hT:T.length=V'.length+1:=by rw [← eT];rfl
 have ok:VOk (6::T):=⟨by lia,fun q hq=>(hV _ (Gi hq)).1⟩
 have h6:∀q,q < (6::T).length→(6::T).getD q 0≤6:=fun q hq=>(hV _ (Gi hq)).2
 have hv1:∀v∈6::T,1≤v:=fun v h=>(hV v h).1
 refine Af fun Gz hGz=>?_
 obtain ⟨pos,U,hu,u1,u6,hR⟩:=Agu ok h6 (s:=s) (Acg h1 hlen)
 obtain ⟨W,hw,w1,w6,hF⟩:=Xm ok h6 (s:=s) (by lia) h2
 have held_le:∀a,∀x∈Cr (6::T) s a,x≤40:=by
  intro a x hx
  obtain ⟨_,e,el⟩:=Is ok s a
  obtain ⟨i,hi,rfl⟩:=List.mem_iff_getElem.mp hx
  have:=Mr (Cr (6::T) s a) i
  rw [Ec hi] at this
  lia
 have ht:∀u∈T,u≤6:=fun u h=>(hV u (.tail _ h)).2
 refine Rd (Lf (fun v=>v - 1) 6 6 T rfl fun u h=>by have:=ht u h;lia) fun CB nB eB lB wB=>?_
 refine Rd (Lf (fun v=>v) 7 6 T rfl fun u h=>by have:=ht u h;lia) fun CW nW eW lW wW=>?_
 have cB:Dt (Gr (6::T))=CB:=by unfold Dt Gr;rw [eB]
 have tB:I7 (Gr (6::T))=T.length+1:=by unfold I7 Gr;rw [eB]
 have cW:Dt (Gp (6::T))=CW:=by unfold Dt Gp;rw [eW]
 have tW:I7 (Gp (6::T))=T.length+1:=by unfold I7 Gp;rw [eW]
 have lvB:∀e,1≤e→Bj CB 0 (T.length+1) e=e*Rn (6::T) e:=by
  intro e he
  rw [Nm,wB]
  have:=Ov (fun v=>(v - 1) / e) (6::T)
  rw [List.length_cons] at this
  rw [this]
  unfold Rn
  congr 2
  refine List.map_congr_left fun v hv=>?_
  have:=hv1 v hv
  unfold cu
  rw [show v+e - 1=v - 1+e by lia,Nat.add_div_right _ (by lia)]
 have lvW:∀e,Bj CW 0 (T.length+1) e=e*((6::T).map (· / e+1)).sum:=by
  intro e
  rw [Nm,wW]
  have:=Ov (fun v=>v / e) (6::T)
  rw [List.length_cons] at this
  rw [this]
 have fw:∀e,((6::T).map (· / e+1)).sum=Fn (6::T) e+(6::T).length:=fun e=>(Ov (fun v=>v / e) (6::T)).symm
 obtain ⟨r1,r2⟩:=Rx s (by lia)
 obtain ⟨r3,r4⟩:=Rx (s+(6::T).length) (by lia)
 refine hGz ?_
 refine ⟨U,W,⟨fun a ha=>T0 ok ha,fun x hx=>⟨?_,held_le 0 x hx⟩,held_le 1,hu,hw,fun w a b=>?_,⟨u1,u6⟩,⟨w1,w6⟩,?_,?_,?_,?_,?_,?_⟩⟩
 ·refine Af fun Gz hGz=>?_
  obtain ⟨i,hi,rfl⟩:=List.mem_iff_getElem.mp hx
  have:=pos i (by rw [← (Is ok s 0).2.2];exact hi)
  rw [Ec hi] at this
  refine hGz ?_
  exact this
 ·rw [(Vq a hv1).1]
  unfold Rn
  rw [List.map_cons,List.sum_cons]
  have:1≤cu 6 w:=by
   unfold cu
   exact (Nat.le_div_iff_mul_le a).mpr (by lia)
  lia
 ·refine Sv (by lia) (by lia) fun i i0 i6=>?_
  obtain ⟨j,rfl⟩:=Int.eq_ofNat_of_zero_le i0
  unfold Og
  rw [Int.toNat_natCast,(Vq (by lia) hv1).1,decide_eq_true_iff]
  have:=hR (j+1) (by lia)
  lia
 ·refine Sv (by lia) (by lia) fun i i0 i6=>?_
  obtain ⟨j,rfl⟩:=Int.eq_ofNat_of_zero_le i0
  unfold Ms
  rw [Int.toNat_natCast,(Vq (by lia) hv1).2,Bool.not_eq_true',decide_eq_false_iff_not]
  have:=hF (j+1) (by lia)
  lia
 ·exact Uf (f:=fun v=>v - 1) (by decide) (by lia) fun u h=>by have:=ht u h;show u - 1≤6 - 1;lia
 ·exact Uf (f:=fun v=>v) (by decide) (by lia) fun u h=>by have:=ht u h;show u≤6;lia
 ·rw [cB,tB,r1,r2,lB]
  show Df _ _ 6 1=_
  have A:=Ur (Bj [s] 0 s) (Bj CB 0 (T.length+1)) (U - 1) (7 - U) 1
  rw [show U - 1+(7 - U)=6 by lia] at A
  rw [A,Ry,List.nil_append,show 1+(U - 1)=U by lia]
  ·refine Af2 _ _ fun e a b=>?_
   rw [In s e (by lia),lvB e (by lia)]
   exact ⟨Nat.mul_le_mul_left _ ((hR e (by lia)).mpr a),rfl,rfl⟩
  ·intro e a b w
   rw [In s e a,lvB e a] at w
   have:=(hR e a).mp (Nat.le_of_mul_le_mul_left w a)
   lia
 ·rw [cW,tW,r3,r4,lW]
  show Df _ _ 7 1=_
  have A:=Ur (Bj CW 0 (T.length+1)) (Bj [s+(6::T).length] 0 (s+(6::T).length)) W (7 - W) 1
  rw [show W+(7 - W)=7 by lia] at A
  rw [A,Ry (7 - W) (1+W),List.append_nil]
  ·refine Ach _ _ fun e a b=>?_
   rw [In _ e a,lvW e]
   refine ⟨Nat.mul_le_mul_left _ ?_,rfl,rfl⟩
   rw [fw]
   have:=(hF e a).mpr (by lia)
   lia
  ·intro e a b w
   rw [In _ e (by lia),lvW e] at w
   have w:=Nat.le_of_mul_le_mul_left w (show 0 < e by lia)
   rw [fw] at w
   have:=(hF e (by lia)).mp (by lia)
   lia
theorem Tp(w:World):wf w (w.params.followText "special-get-raises") (w.params.followText "comprehension-iter-twice")=w:=by
 unfold wf
 exact (congrArg (fun x:World=>x.withFollow "comprehension-iter-twice" (w.params.followText "comprehension-iter-twice")) (World.withFollow_self w "special-get-raises")).trans (World.withFollow_self w _)
theorem Zj:∀{vs:List Value} {V:List Int},IntsAre vs V→IntsL vs.toArray V
 |_,_,.nil=>rfl
 |_,_,.cons n t h=>by
  have:=Zj h
  unfold IntsL at this ⊢
  simp only [List.map_cons] at this ⊢
  rw [this];rfl
theorem A2k{h:Heap}(A:List Nat)(O:List Obj)(hl:A.length=O.length)(y:A.map h.get?=O.map some):KT.Holds h 1 0 (KT.of (A.zip O)):=by
 refine holds_of (allIn_of ?_)
 have e1:(A.zip O).map (·.1)=A:=List.map_fst_zip (Abq hl)
 have e2:(A.zip O).map (·.2)=O:=List.map_snd_zip (Mz hl)
 rw [e1,y]
 conv=>lhs;rw [← e2]
 rw [List.map_map];rfl
theorem A0g{w:World}{s:Shared}(y:N2 s=N7 w):statAt.map s.heap.get?=(Jl w.params).map some∧s.heap.objs.size=310∧s.toks=598:=by
 unfold N2 N7 at y
 obtain ⟨y1,y2⟩:=Prod.mk.inj y
 exact ⟨y1,Prod.mk.inj y2⟩
theorem A4x(P:Params):statAt.length=(Jl P).length:=by kernel_rfl
theorem A2q{h:Heap}(A:List Nat)(O:List Obj)(T:KT) (q:KT.of (A.zip O)=T) (hl:A.length=O.length) (y:A.map h.get?=O.map some):∀a o,T.get a=some o→h.get? a=some o:=by
 subst q
 exact fun a o e=>kt_at (A2k A O hl y) e
theorem Qa{w:World}{s:Shared}(y:N2 s=N7 w):(∀a o,(I3 w.params).get a=some o→s.heap.get? a=some o)∧s.heap.objs.size=310∧s.toks=598:=
 have z:=A0g y
 And.intro (A2q statAt (Jl w.params) (I3 w.params) (Aa2 w.params) (A4x w.params) z.1) z.2
theorem T7(P:Params):(I3 P).get 237=some (V9 P)∧(I3 P).get 244=some (V3 P)∧(I3 P).get 308=some (W7 P)∧(I3 P).get 233=some De∧(I3 P).get 240=some De∧(I3 P).get 306=some De∧(I3 P).get 3=some (ob3 P):=by
 refine ⟨?_,?_,?_,?_,?_,?_,?_⟩<;>kernel_rfl
theorem A48(P:Params):∃es ep,(ob3 P).data=.dict es ep∧nsFind es (Str.ofString "law")=some (.ref 309):=by
 refine I0 _ _ ⟨rfl,?_⟩
 kernel_rfl
theorem A80{w:World}{h:Heap} (H:∀a o,(I3 w.params).get a=some o→h.get? a=some o) {mg:Str→Option Value} (G:h.Ns mainGlobals mg):mg (Str.ofString "law")=some (.ref 309):=by
 refine Af fun Gz hGz=>?_
 obtain ⟨o,es,ep,ho,hd,_,hm⟩:=G
 have h3:=H _ _ (T7 w.params).2.2.2.2.2.2
 have:mainGlobals=3:=rfl
 rw [this,h3] at ho
 refine hGz ?_
 cases ho
 refine Af fun Gz hGz=>?_
 refine Agk (A48 w.params) fun es' ep' hd' hf=>?_
 rw [hd'] at hd
 refine hGz ?_
 cases hd
 rw [← hm];exact hf
theorem A8v{w:World}{s₀ s₁:Shared}{V:List Int}{vs:List Value}{a:Addr}{as:List Addr}{R:WRecords}(y:N2 s₀=N7 w) (L:Laid R w s₀ s₁ [ofPy (PyData.list (V.map PyData.int))] [.ref a] as)
  (hL:s₁.heap.IsList a vs.toArray) (hI:IntsAre vs V) (hz:V.length≤63) {Q:Value→Pos→Shared→Prop} {E:Value→Pos→Shared→Prop} {p:Pos}
  (H:∀s',s'.os=s₁.os→AllBare s'.gens→OldK s₁.heap s'.heap→Q (.bool true) p s'):Sem.wp (model pw w) G0 (PySem.call (.ref 309) [.ref a]) Q E p s₁:=by
 refine Af fun Gz hGz=>?_
 obtain ⟨h0,hs,ht⟩:=Qa y
 have h1:∀a o,(I3 w.params).get a=some o→s₁.heap.get? a=some o:=fun a o e=>L.keeps _ _ (h0 a o e)
 obtain ⟨ha,hsz⟩:=script_at L
 have ho:=script_obj L hL
 have htk:=script_toks L ht
 have hgens:=L.gens
 obtain ⟨b1,b2,hw⟩:∃b1 b2,wf w b1 b2=w:=⟨_,_,Tp w⟩
 obtain ⟨t,ht1⟩:∃t,s₁.toks=t+598:=⟨s₁.toks - 598,Ajp htk⟩
 have hn1:s₁.heap.objs.size=1+310:=by rw [hsz,hs]
 have hsv:vs.toArray.size≤sizeLine:=by
  have:vs.length=V.length:=hI.length
  rw [List.size_toArray]
  exact Nat.le_trans (Acg hz this) (show 63≤sizeLine from by decide)
 refine Iv (A22 (w:=w) (os:=s₁.os) b1 b2 1 t 0 0 vs.toArray 0 V (Zj hI) hsv X7) fun n' t' g' ps2 hT D=>?_
 obtain ⟨c1,c2,c3,t1,t2,t3,_⟩:=T7 w.params
 have S:St (Z w s₁.os b1 b2) s₁ (1+310) (t+598) 0 ([(0+310,Aa vs.toArray 0),(306,De)]++[(233,De),(240,De)]):=by
  have hk:(Z w s₁.os b1 b2).kt=I3 w.params:=by show I3 (wf w b1 b2).params=_;rw [hw]
  refine ⟨⟨fun b o e=>?_⟩,?_,by show ([0+310,306,233,240]:List Nat).Nodup;decide,by show ∀a∈([0+310,306,233,240]:List Nat),Jb [233,240,306] a=true∨310≤a;decide,fun b o e _=>?_,by show 310≤311;decide,.of_eq hgens,rfl,hn1,ht1,by rw [hgens];rfl⟩
  ·rw [hk] at e
   have:=h0 _ _ e
   show b < 310
   rw [← hs]
   exact Heap.lt_size this
  ·intro q hq
   simp only [List.cons_append,List.nil_append,List.mem_cons,List.not_mem_nil,or_false] at hq
   rcases hq with rfl | rfl | rfl | rfl
   ·show s₁.heap.get? 310=_
    rw [← hs,← ha];exact ho
   ·exact h1 _ _ t3
   ·exact h1 _ _ t1
   ·exact h1 _ _ t2
  ·rw [hk] at e
   exact h1 _ _ e
 have W:=D (fun _=>⟨[],[],default,default,[],default,default,default,0,p,default⟩) s₁ p S
 have hz:model (Z w s₁.os b1 b2).prog (Z w s₁.os b1 b2).w=model pw w:=by show model pw (wf w b1 b2)=_;rw [hw]
 rw [hz] at W
 refine hGz ?_
 unfold PySem.call runValue
 rw [Sem.wp_bind']
 unfold run
 rw [Sem.wp_call]
 have ha8:a=0+310:=by rw [ha,hs]
 subst ha8
 refine wpCode_mono ?_ W
 rintro r s' ⟨rfl,S',K⟩
 show Sem.wp (model pw w) G0 (Sem.pure (Flow.ret (Value.bool true))) _ _ p s'
 rw [Sem.wp_pure]
 show Sem.wp (model pw w) G0 (pure (Value.bool true)) _ _ p s'
 rw [Sem.wp_pure']
 refine H s' S'.os S'.bare ?_
 have tb:∀{c x:Nat} {o:Obj} {vs:Array Value},x∈[233,240,306]→s₁.heap.get? c=some o→o.cls=.type "code"→o.data=.fields vs→vs[11]?=some (.ref x)→s₁.heap.get? x=some De→asItWas s₁.heap s'.heap x De:=by
  intro c x o vs hx hc ho hd hv he
  obtain ⟨m,hm⟩:=hT x hx
  refine .inr (.inl ⟨⟨c,o,vs,hc,ho,hd,hv⟩,rfl,#[],m,rfl,?_⟩)
  have:=S'.knows _ (List.mem_append_right _ hm)
  rw [Array.empty_append]
  exact this
 have hcase:∀b o,s₁.heap.get? b=some o→asItWas s₁.heap s'.heap b o∧∃o',s'.heap.get? b=some o':=by
  intro b o e
  by_cases hb:b∈[0+310,306,233,240]
  ·simp only [List.mem_cons,List.not_mem_nil,or_false] at hb
   rcases hb with rfl | rfl | rfl | rfl
   ·have k:s'.heap.get? (0+310)=some (Aa vs.toArray 0):=S'.knows _ (List.mem_append_left _ (.head _))
    rw [ho] at e;cases e
    exact ⟨.inl k,_,k⟩
   ·have he:=h1 _ _ t3
    rw [he] at e;cases e
    obtain ⟨m,hm⟩:=hT 306 (by decide)
    exact ⟨tb (by decide) (h1 _ _ c3) rfl rfl rfl he,_,S'.knows _ (List.mem_append_right _ hm)⟩
   ·have he:=h1 _ _ t1
    rw [he] at e;cases e
    obtain ⟨m,hm⟩:=hT 233 (by decide)
    exact ⟨tb (by decide) (h1 _ _ c1) rfl rfl rfl he,_,S'.knows _ (List.mem_append_right _ hm)⟩
   ·have he:=h1 _ _ t2
    rw [he] at e;cases e
    obtain ⟨m,hm⟩:=hT 240 (by decide)
    exact ⟨tb (by decide) (h1 _ _ c2) rfl rfl rfl he,_,S'.knows _ (List.mem_append_right _ hm)⟩
  ·have:=K.heap b o e hb
   exact ⟨.inl this,_,this⟩
 exact ⟨fun b o e=>(hcase b o e).1,fun b o e=>(hcase b o e).2⟩
theorem main:PySem.Challenge.rw_rl0134_01.Holds:=by
 refine ⟨by decide +kernel,A4e (q:=qv) (loose:=O4) (Xt:=xt) (XP:=XL qv []) (Yf:=N2) (Ya:=N7) (N:=4000) left (fun s e=>xl_of s (Bool.and_eq_true_iff.mp e).1) XL.keeps (by rfl) (by rfl) (by rfl) (fun s e=>recFacts_of (Bool.and_eq_true_iff.mp e).2) (by rfl) (by decide +kernel) (by decide +kernel) ⟨rfl,rfl,rfl,rfl,rfl,by decide +kernel⟩ ?hw ?hc⟩
 case hw=>w_witness2
 case hc=>
  intro w s₀ s₁ mg mb G y fa o pm cd doc dV kV ho hd hcd hD hmg hg args vals as L hpre hlay hrd hwl hlo
  have T:=G.T
  have hr:=A80 (w:=w) (h:=s₁.heap) (fun a o e=>L.keeps _ _ ((Qa y).1 a o e)) T.g
  rw [hr] at hmg
  obtain rfl:(309:Nat)=fa:=by injection hmg with h;injection h
  clear hcd hD hd ho hr G
  wrow_args hpre hlay hrd hwl hlo
  refine A8v y L (by assumption) (by assumption) (by lia) fun s' h1 h2 h3=>?_
  exact ⟨.inl ⟨_,_,[],rfl,fun _=>rfl,.bool true,by kernel_rfl,fun _=>⟨List.nodup_nil,fun _ hm=>(nomatch hm)⟩⟩,h3,h1,h2⟩
end Mine
end
theorem PySem.Challenge.cw_rl0134_01_holds : PySem.Challenge.rw_rl0134_01.Holds :=
 Mine.main
