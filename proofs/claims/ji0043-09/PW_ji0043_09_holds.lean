import PyProof.Rows.All
import Wide.All
import OpenK.AllK
import Wide.FinOn
import Lean
import PySem.Challenge.RW_ji0043_09
set_option bootstrap.genMatcherCode false
set_option genSizeOf false
set_option genInjectivity false
set_option genSizeOfSpec false
set_option tactic.hygienic false
set_option Elab.async false
set_option maxRecDepth 100000
set_option autoImplicit false
set_option linter.unusedVariables false
namespace Mini
section
open PySem
open SetTable (Probe)
noncomputable def advM (M:Nat) (p:Probe):Probe:=
 if p.more > 0 then {p with j:=p.j + 1,more:=p.more - 1} else
 let r:=SetTable.leap M p.i p.perturb
 {p with j:=r.1,more:=SetTable.runEnd M r.1 - r.1,i:=r.1,perturb:=r.2}
theorem advance_eq (t:SetTable) (p:Probe):t.advance p=advM t.mask p:=rfl
noncomputable def stp (M:Nat):Nat->Probe->Probe
 | 0,p=>p
 | k + 1,p=>stp M k (advM M p)
theorem stp_add (M:Nat): ∀ (a b:Nat) (p:Probe),stp M (a + b) p=stp M b (stp M a p)
 | 0,b,p=>by rw [Nat.zero_add];rfl
 | a + 1,b,p=>by rw [Nat.add_right_comm];exact stp_add M a b (advM M p)
theorem stp_succ (M k:Nat) (p:Probe):stp M (k + 1) p=advM M (stp M k p):=by rw [stp_add];rfl
noncomputable def rs (M i pt:Nat):Probe:={j:=i,more:=SetTable.runEnd M i - i,i:=i,perturb:=pt,dummy:=none}
noncomputable def pst (M:Nat) (h:Int):Probe:=rs M (SetTable.bits h % (M + 1)) (SetTable.bits h)
theorem stp_more (M:Nat): ∀ (k:Nat) (p:Probe),k<=p.more->stp M k p= {p with j:=p.j + k,more:=p.more - k}
 | 0,p,_=>rfl
 | k + 1,p,h=>by
  have hp:p.more > 0:=by lia
  have e:advM M p= {p with j:=p.j + 1,more:=p.more - 1}:=by unfold advM;rw [if_pos hp]
  show stp M k (advM M p)=_
  rw [e,stp_more M k _ (by dsimp only;lia)]
  dsimp only
  congr 1 <;> lia
theorem stp_run (M i pt:Nat):stp M (SetTable.runEnd M i - i + 1) (rs M i pt)=rs M (SetTable.leap M i pt).1 (SetTable.leap M i pt).2:=by
 rw [stp_succ,stp_more M (SetTable.runEnd M i - i) (rs M i pt) (Nat.le_refl _)]
 have e: ¬ (rs M i pt).more - (SetTable.runEnd M i - i) > 0:=by show¬ (SetTable.runEnd M i - i - (SetTable.runEnd M i - i) > 0);lia
 unfold advM
 rw [if_neg e]
 rfl
theorem run_len (M i:Nat):SetTable.runEnd M i - i + 1<=10:=by unfold SetTable.runEnd;split <;> lia
noncomputable def lp (M:Nat):Nat->Nat × Nat->Nat × Nat
 | 0,x=>x
 | n + 1,x=>lp M n (SetTable.leap M x.1 x.2)
theorem stp_lp (M:Nat): ∀ (n i pt:Nat),∃k,k<=10 * n/\stp M k (rs M i pt)=rs M (lp M n (i,pt)).1 (lp M n (i,pt)).2
 | 0,i,pt=>⟨0,Nat.le_refl _,rfl⟩
 | n + 1,i,pt=>by
  obtain⟨k,h1,h2⟩:=stp_lp M n (SetTable.leap M i pt).1 (SetTable.leap M i pt).2
  refine⟨SetTable.runEnd M i - i + 1 + k,by have:=run_len M i;lia, ?_⟩
  rw [stp_add,stp_run,h2]
  rfl
theorem lp_add (M:Nat): ∀ (a b:Nat) (x:Nat × Nat),lp M (a + b) x=lp M b (lp M a x)
 | 0,b,x=>by rw [Nat.zero_add];rfl
 | a + 1,b,x=>by rw [Nat.add_right_comm];exact lp_add M a b _
theorem lp_pt (M:Nat): ∀ (n i pt:Nat),(lp M n (i,pt)).2=pt / 32 ^ n
 | 0,i,pt=>(Nat.div_one pt).symm
 | n + 1,i,pt=>by
  show(lp M n (SetTable.leap M i pt)).2=_
  have e:SetTable.leap M i pt=((SetTable.leap M i pt).1,pt / 32):=rfl
  rw [e,lp_pt M n,Nat.div_div_eq_div_mul, <- Nat.pow_succ']
noncomputable def lcg (M:Nat):Nat->Nat->Nat
 | 0,i=>i
 | n + 1,i=>lcg M n ((i * 5 + 1) % (M + 1))
theorem lp_lcg (M:Nat): ∀ (n i:Nat),lp M n (i,0)=(lcg M n i,0)
 | 0,i=>rfl
 | n + 1,i=>by
  show lp M n (SetTable.leap M i 0)=_
  have e:SetTable.leap M i 0=((i * 5 + 1) % (M + 1),0):=by unfold SetTable.leap;simp
  rw [e,lp_lcg M n];rfl
theorem lcg_add (M:Nat): ∀ (a b i:Nat),lcg M (a + b) i=lcg M b (lcg M a i)
 | 0,b,i=>by rw [Nat.zero_add];rfl
 | a + 1,b,i=>by rw [Nat.add_right_comm];exact lcg_add M a b _
noncomputable def orb (M:Nat):Nat->Nat->List Nat
 | 0,_=> []
 | n + 1,i=>i :: orb M n ((i * 5 + 1) % (M + 1))
theorem orb_mem (M:Nat): ∀ (n i j:Nat),j∈orb M n i->∃k,k < n/\lcg M k i=j
 | 0,_,_,h=>nomatch h
 | n + 1,i,j,h=>by
  rcases List.mem_cons.mp h with rfl | h
  ·exact⟨0,by lia,rfl⟩
  ·obtain⟨k,h1,h2⟩:=orb_mem M n _ j h
   exact⟨k + 1,by lia,h2⟩
theorem orb7:((List.range 8).all λj=>(orb 7 8 0).contains j)=true/\lcg 7 8 0=0:=by decide +kernel
theorem orb31:((List.range 32).all λj=>(orb 31 32 0).contains j)=true/\lcg 31 32 0=0:=by decide +kernel
theorem orb127:((List.range 128).all λj=>(orb 127 128 0).contains j)=true/\lcg 127 128 0=0:=by decide +kernel
noncomputable def MaskOK (M:Nat):Prop:=M=7\/M=31\/M=127
theorem orbM {M:Nat} (h:MaskOK M):(∀j,j<=M->∃k,k<=M/\lcg M k 0=j)/\lcg M (M + 1) 0=0:=by
 have key: ∀M,((List.range (M + 1)).all λj=>(orb M (M + 1) 0).contains j)=true->∀j,j<=M->∃k,k<=M/\lcg M k 0=j:=λM hm j hj=>by
  have:=List.all_eq_true.mp hm j (List.mem_range.mpr (by lia))
  obtain⟨k,h1,h2⟩:=orb_mem M _ _ j (List.contains_iff_mem.mp this)
  exact⟨k,by lia,h2⟩
 rcases h with rfl | rfl | rfl
 ·exact⟨key _ orb7.1,orb7.2⟩
 ·exact⟨key _ orb31.1,orb31.2⟩
 ·exact⟨key _ orb127.1,orb127.2⟩
theorem lcg_cover {M:Nat} (h:MaskOK M) {i j:Nat} (hi:i<=M) (hj:j<=M): ∃k,k<=M/\lcg M k i=j:=by
 obtain⟨c,hz⟩:=orbM h
 obtain⟨a,ha,ea⟩:=c i hi
 obtain⟨b,hb,eb⟩:=c j hj
 by_cases hab:a<=b
 ·refine⟨b - a,by lia, ?_⟩
  rw [<- ea, <- lcg_add,show a + (b - a)=b by lia];exact eb
 ·refine⟨b + (M + 1) - a,by lia, ?_⟩
  rw [<- ea, <- lcg_add,show a + (b + (M + 1) - a)=(M + 1) + b by lia,lcg_add,hz];exact eb
theorem cover {M:Nat} (hM:MaskOK M) (h:Int) {j:Nat} (hj:j<=M): ∃k,k < 10 * (M + 15)/\(stp M k (pst M h)).j=j:=by
 have hb:SetTable.bits h < 2 ^ 64:=by
  unfold SetTable.bits
  have h1:=Int.emod_nonneg h (show(2 ^ 64:Int)≠0 by decide)
  have h2:=Int.emod_lt_of_pos h (show(0:Int) < 2 ^ 64 by decide)
  lia
 obtain⟨i13,e13,hi13⟩: ∃i,lp M 13 (SetTable.bits h % (M + 1),SetTable.bits h)=(i,0)/\i<=M:=by
  refine⟨(lp M 13 (SetTable.bits h % (M + 1),SetTable.bits h)).1, ?_, ?_⟩
  ·have h2:=lp_pt M 13 (SetTable.bits h % (M + 1)) (SetTable.bits h)
   have h3:SetTable.bits h / 32 ^ 13=0:=Nat.div_eq_of_lt (Nat.lt_of_lt_of_le hb (by decide))
   rw [h3] at h2
   exact Prod.ext rfl h2
  ·have e:lp M 13 (SetTable.bits h % (M + 1),SetTable.bits h)=SetTable.leap M (lp M 12 (SetTable.bits h % (M + 1),SetTable.bits h)).1 (lp M 12 (SetTable.bits h % (M + 1),SetTable.bits h)).2:=by rw [show 13=12 + 1 from rfl,lp_add];rfl
   rw [e]
   show(_ % (M + 1))<=M
   exact Nat.le_of_lt_succ (Nat.mod_lt _ (Nat.succ_pos _))
 obtain⟨n,hn,en⟩:=lcg_cover hM hi13 hj
 obtain⟨k,hk,ek⟩:=stp_lp M (13 + n) (SetTable.bits h % (M + 1)) (SetTable.bits h)
 refine⟨k,by lia, ?_⟩
 unfold pst
 rw [ek,lp_add,e13,lp_lcg]
 exact en
noncomputable def Ris (xs:Array Nat):Prop:=∀i j,i < j->j < xs.size->xs.getD i 0 < xs.getD j 0
theorem below_go {xs:Array Nat}{j:Nat} (hr:Ris xs): ∀ (fuel lo hi:Nat),hi - lo<=fuel->lo<=hi->hi<=xs.size->(∀i,i < lo->xs.getD i 0 < j)->(∀i,hi<=i->i < xs.size->j<=xs.getD i 0)->
 (SetTable.below.go xs j fuel lo hi<=xs.size/\(∀i,i < SetTable.below.go xs j fuel lo hi->xs.getD i 0 < j)/\∀i,SetTable.below.go xs j fuel lo hi<=i->i < xs.size->j<=xs.getD i 0)
 | 0,lo,hi,h1,h2,h3,h4,h5=>by
  have:lo=hi:=by lia
  subst this
  exact⟨h3,h4,h5⟩
 | fuel + 1,lo,hi,h1,h2,h3,h4,h5=>by
  by_cases hlt:lo < hi
  ·rw [show SetTable.below.go xs j (fuel + 1) lo hi=_ from if_pos hlt]
   dsimp only
   have eg:xs.getD ((lo + hi) / 2) j=xs.getD ((lo + hi) / 2) 0:=by
    have:(lo + hi) / 2 < xs.size:=by lia
    simp [Array.getD,this]
   rw [eg]
   by_cases hm:xs.getD ((lo + hi) / 2) 0 < j
   ·rw [if_pos hm]
    refine below_go hr fuel _ _ (by lia) (by lia) h3 (λi hi'=> ?_) h5
    by_cases e:i=(lo + hi) / 2
    ·rw [e];exact hm
    ·exact Nat.lt_trans (hr i ((lo + hi) / 2) (by lia) (by lia)) hm
   ·rw [if_neg hm]
    refine below_go hr fuel _ _ (by lia) (by lia) (by lia) h4 (λi hi' hi2=> ?_)
    by_cases e:i=(lo + hi) / 2
    ·rw [e];lia
    ·exact Nat.le_of_lt (Nat.lt_of_le_of_lt (Nat.le_of_not_lt hm) (hr _ i (by lia) hi2))
  ·rw [show SetTable.below.go xs j (fuel + 1) lo hi=_ from if_neg hlt]
   have:lo=hi:=by lia
   subst this
   exact⟨h3,h4,h5⟩
theorem below_spec {xs:Array Nat} (hr:Ris xs) (j:Nat):SetTable.below xs j<=xs.size/\(∀i,i < SetTable.below xs j->xs.getD i 0 < j)/\∀i,SetTable.below xs j<=i->i < xs.size->j<=xs.getD i 0:=
 below_go hr xs.size 0 xs.size (by lia) (Nat.zero_le _) (Nat.le_refl _) (λi h=>absurd h (Nat.not_lt_zero i)) (λi h1 h2=>absurd h2 (by lia))
theorem slot_live {t:SetTable} (hr:Ris t.place) {i:Nat} (hi:i < t.place.size):t.slot (t.place.getD i 0)= .live i:=by
 obtain⟨h1,h2,h3⟩:=below_spec hr (t.place.getD i 0)
 have e:SetTable.below t.place (t.place.getD i 0)=i:=by
  rcases Nat.lt_trichotomy (SetTable.below t.place (t.place.getD i 0)) i with h | h | h
  ·have:=h3 _ (Nat.le_refl _) (Nat.lt_trans h hi)
   have:=hr _ i h hi
   lia
  ·exact h
  ·have:=h2 i h;lia
 unfold SetTable.slot
 dsimp only
 rw [e]
 have:t.place[i]? =some (t.place.getD i 0):=by simp [Array.getD,hi]
 rw [this]
 simp
theorem slot_empty {t:SetTable} (hr:Ris t.place) (hd:t.dummies= #[]) {j:Nat} (hj: ∀i,i < t.place.size->t.place.getD i 0≠j):t.slot j= .empty:=by
 unfold SetTable.slot
 dsimp only
 have h1:(t.place[SetTable.below t.place j]? == some j)=false:=by
  cases h:t.place[SetTable.below t.place j]? with
  | none=>rfl
  | some x=>
   obtain⟨hi,e⟩:=Array.getElem?_eq_some_iff.mp h
   have:t.place.getD (SetTable.below t.place j) 0=x:=by simp [Array.getD,hi,e]
   have:=hj _ hi
   simp;lia
 rw [h1]
 simp only [Bool.false_eq_true,if_false]
 have h2:SetTable.has t.dummies j=false:=by rw [hd];unfold SetTable.has;simp
 rw [h2]
 simp
end
section
open PySem
open SetTable (Probe)
theorem php {α:Type} [BEq α] [LawfulBEq α]: ∀ {a b:List α},a.Nodup->(∀x∈a,x∈b)->a.length<=b.length
 | [],_,_,_=>Nat.zero_le _
 | x :: r,b,nd,h=>by
  rw [List.nodup_cons] at nd
  have h1:=php (a:=r) (b:=b.erase x) nd.2 λy hy=>by
   refine(List.mem_erase_of_ne ?_).mpr (h y (.tail _ hy))
   rintro rfl;exact nd.1 hy
  have h2:=List.length_erase_of_mem (h x (.head _))
  have h3:0 < b.length:=List.length_pos_of_mem (h x (.head _))
  rw [List.length_cons];lia
structure TabOK (es:Array (Int × Value)) (t:SetTable):Prop where
 mask:MaskOK t.mask
 dum:t.dummies= #[]
 size:t.place.size=es.size
 ris:Ris t.place
 le: ∀i,i < es.size->t.place.getD i 0<=t.mask
 lt:es.size<=t.mask
 path: ∀i (hi:i < es.size),∃k,k < 10 * (t.mask + 15)/\(stp t.mask k (pst t.mask es[i].1)).j=t.place.getD i 0/\∀k',k' < k->∃i',i' < es.size/\t.place.getD i' 0=(stp t.mask k' (pst t.mask es[i].1)).j
theorem stp_dummy (M:Nat): ∀ (k:Nat) (p:Probe),p.dummy=none->(stp M k p).dummy=none
 | 0,p,h=>h
 | k + 1,p,h=>stp_dummy M k _ (by unfold advM;split <;> exact h)
theorem stp_i_le (M:Nat): ∀ (k:Nat) (p:Probe),p.i<=M->p.j + p.more<=SetTable.runEnd M p.i->p.i<=p.j->(stp M k p).j<=M/\(stp M k p).i<=M
 | 0,p,h,h2,h3=>by
  have:SetTable.runEnd M p.i<=M:=by unfold SetTable.runEnd;split <;> lia
  exact⟨by show p.j<=M;lia,h⟩
 | k + 1,p,h,h2,h3=>by
  refine stp_i_le M k _ ?_ ?_ ?_ <;> unfold advM <;> split
  ·exact h
  ·exact Nat.le_of_lt_succ (Nat.mod_lt _ (Nat.succ_pos _))
  ·dsimp only;lia
  ·dsimp only
   have:(SetTable.leap M p.i p.perturb).1<=SetTable.runEnd M (SetTable.leap M p.i p.perturb).1:=by unfold SetTable.runEnd;split <;> lia
   lia
  ·dsimp only;lia
  ·exact Nat.le_refl _
theorem pst_le (M:Nat) (h:Int) (k:Nat):(stp M k (pst M h)).j<=M:=by
 have hi:SetTable.bits h % (M + 1)<=M:=Nat.le_of_lt_succ (Nat.mod_lt _ (Nat.succ_pos _))
 refine(stp_i_le M k _ hi ?_ (Nat.le_refl _)).1
 show SetTable.bits h % (M + 1) + (SetTable.runEnd M (SetTable.bits h % (M + 1)) - SetTable.bits h % (M + 1))<=SetTable.runEnd M (SetTable.bits h % (M + 1))
 have:SetTable.bits h % (M + 1)<=SetTable.runEnd M (SetTable.bits h % (M + 1)):=by unfold SetTable.runEnd;split <;> lia
 lia
noncomputable def plc (t:SetTable):List Nat:=(List.range t.place.size).map λi=>t.place.getD i 0
theorem mem_plc {t:SetTable}{j:Nat}:j∈plc t ↔ ∃i,i < t.place.size/\t.place.getD i 0=j:=by
 unfold plc
 rw [List.mem_map]
 exact⟨λ ⟨i,h1,h2⟩=>⟨i,List.mem_range.mp h1,h2⟩,λ ⟨i,h1,h2⟩=>⟨i,List.mem_range.mpr h1,h2⟩⟩
theorem first_of {p:Nat->Prop} [DecidablePred p]: ∀ (n:Nat),(∃k,k < n/\p k)->∃k,k < n/\p k/\∀k',k' < k->¬p k'
 | 0,h=>by obtain⟨k,h,_⟩:=h;lia
 | n + 1,h=>by
  by_cases hn: ∃k,k < n/\p k
  ·obtain⟨k,h1,h2,h3⟩:=first_of n hn
   exact⟨k,by lia,h2,h3⟩
  ·obtain⟨k,h1,h2⟩:=h
   have:k=n:=by
    by_cases e:k=n
    ·exact e
    ·exact absurd ⟨k,by lia,h2⟩ hn
   subst this
   exact⟨k,h1,h2,λk' hk' hp=>hn ⟨k',hk',hp⟩⟩
theorem TabOK.first {es:Array (Int × Value)}{t:SetTable} (T:TabOK es t) (h:Int): ∃k,k < 10 * (t.mask + 15)/\(stp t.mask k (pst t.mask h)).j∉plc t/\∀k',k' < k->(stp t.mask k' (pst t.mask h)).j∈plc t:=by
 have he: ∃j,j<=t.mask/\j∉plc t:=by
  by_cases hq: ∃j,j<=t.mask/\j∉plc t
  ·exact hq
  ·exfalso
   have h1:=php (a:=List.range (t.mask + 1)) (b:=plc t) List.nodup_range λx hx=>by
    by_cases hc:x∈plc t
    ·exact hc
    ·exact absurd ⟨x,by have:=List.mem_range.mp hx;lia,hc⟩ hq
   have h2:(plc t).length=es.size:=by unfold plc;rw [List.length_map,List.length_range,T.size]
   rw [List.length_range,h2] at h1
   have:=T.lt;lia
 obtain⟨j,hj,hn⟩:=he
 obtain⟨k,hk,ek⟩:=cover T.mask h hj
 obtain⟨k0,h1,h2,h3⟩:=first_of (p:=λk=>(stp t.mask k (pst t.mask h)).j∉plc t) _ ⟨k,hk,by rw [ek];exact hn⟩
 exact⟨k0,h1,h2,λk' hk'=>Decidable.not_not.mp (h3 k' hk')⟩
theorem probe_go {es:Array (Int × Value)}{t:SetTable} (T:TabOK es t) (f:Nat->Int) (hf: ∀i (hi:i < es.size),f i=es[i].1) (h:Int) (k0:Nat)
 (h1:(stp t.mask k0 (pst t.mask h)).j∉plc t) (h2: ∀k',k' < k0->(stp t.mask k' (pst t.mask h)).j∈plc t): ∀ (fuel c:Nat),c<=k0->k0 - c < fuel->
 (∃ k i,∃hi:i < es.size,c<=k/\k < k0/\t.place.getD i 0=(stp t.mask k (pst t.mask h)).j/\es[i].1=h/\(∀k' i',∀hi':i' < es.size,c<=k'->k' < k->t.place.getD i' 0=(stp t.mask k' (pst t.mask h)).j->es[i'].1≠h)/\
  SetTable.probe.go t f h fuel (stp t.mask c (pst t.mask h))=some (.candidate (stp t.mask k (pst t.mask h)).j i (stp t.mask (k + 1) (pst t.mask h))))\/
 ((∀k' i',∀hi':i' < es.size,c<=k'->k' < k0->t.place.getD i' 0=(stp t.mask k' (pst t.mask h)).j->es[i'].1≠h)/\SetTable.probe.go t f h fuel (stp t.mask c (pst t.mask h))=some (.empty (stp t.mask k0 (pst t.mask h)).j none))
 | 0,c,hc,hl=>by lia
 | fuel + 1,c,hc,hl=>by
  by_cases hcc:c=k0
  ·subst hcc
   refine .inr ⟨λk' i' hi' a b=>by lia, ?_⟩
   conv=>lhs;whnf
   rw [slot_empty T.ris T.dum λi hi e=>h1 (mem_plc.mpr ⟨i,hi,e⟩)]
   dsimp only
   rw [stp_dummy t.mask c _ rfl]
  ·obtain ⟨i,hi,ei⟩:=mem_plc.mp (h2 c (by lia))
   have hi':i < es.size:=by rw [<- T.size];exact hi
   have hs:=slot_live T.ris hi
   rw [ei] at hs
   rw [show SetTable.probe.go t f h (fuel + 1) (stp t.mask c (pst t.mask h))=_ by conv=>lhs;whnf]
   rw [hs]
   dsimp only
   have ea:t.advance (stp t.mask c (pst t.mask h))=stp t.mask (c + 1) (pst t.mask h):=by rw [advance_eq,stp_succ]
   rw [ea]
   by_cases hq:f i=h
   ·rw [if_pos (by simpa using hq)]
    exact .inl ⟨c,i,hi',Nat.le_refl _,by lia,ei,by rw [<- hf i hi'];exact hq,λk' i' hi' a b=>by lia,rfl⟩
   ·rw [if_neg (by simpa using hq)]
    have one: ∀k' i',∀hi':i' < es.size,k'=c->t.place.getD i' 0=(stp t.mask k' (pst t.mask h)).j->es[i'].1≠h:=λk' i' hi2 e1 e2 e3=>by
     subst e1
     have:i'=i:=by
      rcases Nat.lt_trichotomy i' i with hl | hl | hl
      ·have:=T.ris _ _ hl hi;lia
      ·exact hl
      ·have:=T.ris _ _ hl (by rw [T.size];exact hi2);lia
     subst this
     exact hq (by rw [hf i' hi2];exact e3)
    rcases probe_go T f hf h k0 h1 h2 fuel (c + 1) (by lia) (by lia) with⟨k,i2,hi2,a1,a2,a3,a4,a5,a6⟩ | ⟨b1,b2⟩
    ·refine .inl ⟨k,i2,hi2,by lia,a2,a3,a4,λk' i' hi' c1 c2 c3=> ?_,a6⟩
     by_cases e:k'=c
     ·exact one k' i' hi' e c3
     ·exact a5 k' i' hi' (by lia) c2 c3
    ·refine .inr ⟨λk' i' hi' c1 c2 c3=> ?_,b2⟩
     by_cases e:k'=c
     ·exact one k' i' hi' e c3
     ·exact b1 k' i' hi' (by lia) c2 c3
theorem TabOK.there {es:Array (Int × Value)}{t:SetTable} (T:TabOK es t) {i:Nat} (hi:i < es.size) {k0:Nat} (h1:(stp t.mask k0 (pst t.mask es[i].1)).j∉plc t): ∃k,k < k0/\t.place.getD i 0=(stp t.mask k (pst t.mask es[i].1)).j:=by
 obtain⟨k,a,b,c⟩:=T.path i hi
 refine⟨k, ?_,b.symm⟩
 rcases Nat.lt_trichotomy k k0 with h | h | h
 ·exact h
 ·exfalso;subst h;exact h1 (mem_plc.mpr ⟨i,by rw [T.size];exact hi,b.symm⟩)
 ·exfalso
  obtain⟨i',d1,d2⟩:=c k0 h
  exact h1 (mem_plc.mpr ⟨i',by rw [T.size];exact d1,d2⟩)
end
section
open PySem
open SetTable (Probe insertAt)
theorem ins_size {α:Type} (xs:Array α) (p:Nat) (x:α) (hp:p<=xs.size):(insertAt xs p x).size=xs.size + 1:=by
 unfold SetTable.insertAt
 simp only [Array.size_append,Array.size_push,Array.size_extract]
 lia
theorem ins_get {α:Type} (xs:Array α) (p:Nat) (x:α) (hp:p<=xs.size) (i:Nat) :
 (insertAt xs p x)[i]? =if i < p then xs[i]? else if i=p then some x else xs[i - 1]? :=by
 unfold SetTable.insertAt
 rw [Array.getElem?_append]
 have hs:((xs.extract 0 p).push x).size=p + 1:=by simp only [Array.size_push,Array.size_extract];lia
 rw [hs]
 by_cases h1:i < p
 ·rw [if_pos (by lia),if_pos h1,Array.getElem?_push]
  have: ¬i=(xs.extract 0 p).size:=by simp only [Array.size_extract];lia
  rw [if_neg this,Array.getElem?_extract]
  rw [if_pos (by lia),Nat.zero_add]
 ·rw [if_neg h1]
  by_cases h2:i=p
  ·subst h2
   rw [if_pos (by lia),if_pos rfl,Array.getElem?_push]
   have:i=(xs.extract 0 i).size:=by simp only [Array.size_extract];lia
   rw [if_pos this]
  ·rw [if_neg (by lia),if_neg h2,Array.getElem?_extract]
   by_cases h3:i - 1 < xs.size
   ·rw [if_pos (by lia)]
    congr 1;lia
   ·rw [if_neg (by lia)]
    symm
    rw [Array.getElem?_eq_none_iff];lia
theorem getD_of {xs:Array Nat}{i v:Nat} (h:xs[i]? =some v):xs.getD i 0=v:=by
 obtain⟨h1,h2⟩:=Array.getElem?_eq_some_iff.mp h
 simp [Array.getD,h1,h2]
theorem of_getD {xs:Array Nat}{i:Nat} (h:i < xs.size):xs[i]? =some (xs.getD i 0):=by simp [Array.getD,h]
theorem TabOK.put {es:Array (Int × Value)}{t:SetTable} (T:TabOK es t) {h:Int}{x:Value}{k0:Nat} (hl:es.size + 1<=t.mask) (hk:k0 < 10 * (t.mask + 15))
 (h1:(stp t.mask k0 (pst t.mask h)).j∉plc t) (h2: ∀k',k' < k0->(stp t.mask k' (pst t.mask h)).j∈plc t) {t':SetTable}{p:Nat} (he:t.put (stp t.mask k0 (pst t.mask h)).j=(t',p)) :
 p<=es.size/\t'= {t with place:=insertAt t.place p (stp t.mask k0 (pst t.mask h)).j}/\TabOK (insertAt es p (h,x)) t':=by
 generalize hj:(stp t.mask k0 (pst t.mask h)).j=j at *
 have hjM:j<=t.mask:=by rw [<- hj];exact pst_le _ _ _
 obtain⟨b1,b2,b3⟩:=below_spec T.ris j
 have hd:SetTable.has t.dummies j=false:=by rw [T.dum];unfold SetTable.has;simp
 unfold SetTable.put at he
 dsimp only at he
 rw [hd] at he
 simp only [Bool.false_eq_true,if_false,Prod.mk.injEq] at he
 obtain⟨e1,e2⟩:=he
 rw [e2] at b1 b2 b3
 have hp:p<=es.size:=by rw [<- T.size];exact b1
 subst e1
 rw [e2]
 have ne: ∀i,i < t.place.size->t.place.getD i 0≠j:=λi hi e=>h1 (mem_plc.mpr ⟨i,hi,e⟩)
 have pg: ∀i,i < t.place.size + 1->(insertAt t.place p j).getD i 0=if i < p then t.place.getD i 0 else if i=p then j else t.place.getD (i - 1) 0:=λi hi=>by
  refine getD_of ?_
  rw [ins_get _ _ _ b1]
  by_cases q1:i < p
  ·rw [if_pos q1,if_pos q1];exact of_getD (by lia)
  ·rw [if_neg q1,if_neg q1]
   by_cases q2:i=p
   ·rw [if_pos q2,if_pos q2]
   ·rw [if_neg q2,if_neg q2];exact of_getD (by lia)
 have psz:(insertAt t.place p j).size=t.place.size + 1:=ins_size _ _ _ b1
 have esz:(insertAt es p (h,x)).size=es.size + 1:=ins_size _ _ _ hp
 have old: ∀i,i < t.place.size->∃i',i' < t.place.size + 1/\(insertAt t.place p j).getD i' 0=t.place.getD i 0:=λi hi=>by
  by_cases q:i < p
  ·exact⟨i,by lia,by rw [pg i (by lia),if_pos q]⟩
  ·exact⟨i + 1,by lia,by rw [pg (i + 1) (by lia),if_neg (by lia),if_neg (by lia)];simp⟩
 refine⟨hp,rfl,⟨T.mask,T.dum,by show(insertAt t.place p j).size=_;rw [psz,esz,T.size], ?_, ?_,by rw [esz];exact hl, ?_⟩⟩
 ·intro i i' hlt hi'
  change i' < (insertAt t.place p j).size at hi'
  show(insertAt t.place p j).getD i 0 < (insertAt t.place p j).getD i' 0
  rw [psz] at hi'
  rw [pg i (by lia),pg i' hi']
  by_cases q1:i' < p
  ·rw [if_pos (by lia),if_pos q1];exact T.ris _ _ hlt (by lia)
  ·rw [if_neg q1]
   by_cases q2:i'=p
   ·rw [if_pos q2,if_pos (by lia)];exact b2 i (by lia)
   ·rw [if_neg q2]
    by_cases q3:i < p
    ·rw [if_pos q3];exact Nat.lt_of_lt_of_le (b2 i q3) (b3 _ (by lia) (by lia))
    ·rw [if_neg q3]
     by_cases q4:i=p
     ·rw [if_pos q4]
      have:=b3 (i' - 1) (by lia) (by lia)
      have:=ne (i' - 1) (by lia)
      lia
     ·rw [if_neg q4];exact T.ris _ _ (by lia) (by lia)
 ·intro i hi
  rw [esz] at hi
  show(insertAt t.place p j).getD i 0<=t.mask
  rw [pg i (by rw [T.size];exact hi)]
  split
  ·exact T.le i (by lia)
  ·split
   ·exact hjM
   ·exact T.le _ (by lia)
 ·intro i hi
  have hi':=hi
  rw [esz] at hi'
  show∃k,k < 10 * (t.mask + 15)/\(stp t.mask k (pst t.mask (insertAt es p (h,x))[i].1)).j=(insertAt t.place p j).getD i 0/\∀k',k' < k->∃i',i' < (insertAt es p (h,x)).size/\(insertAt t.place p j).getD i' 0=(stp t.mask k' (pst t.mask (insertAt es p (h,x))[i].1)).j
  rw [pg i (by rw [T.size];exact hi'),esz]
  have eget:(insertAt es p (h,x))[i]? =some (insertAt es p (h,x))[i]:=Array.getElem?_eq_getElem hi
  rw [ins_get _ _ _ hp] at eget
  have back: ∀k',(∃i',i' < es.size/\t.place.getD i' 0=k')->∃i',i' < es.size + 1/\(insertAt t.place p j).getD i' 0=k':=λk' ⟨i',a,b⟩=>by
   obtain⟨i2,c,d⟩:=old i' (by rw [T.size];exact a)
   exact⟨i2,by rw [<- T.size];exact c,by rw [d];exact b⟩
  by_cases q1:i < p
  ·rw [if_pos q1] at eget ⊢
   have hie:i < es.size:=by lia
   obtain⟨k,a,b,c⟩:=T.path i hie
   have:(insertAt es p (h,x))[i]=es[i]:=by
    rw [Array.getElem?_eq_getElem hie] at eget;exact(Option.some.inj eget).symm
   rw [this]
   exact⟨k,a,b,λk' hk'=>back _ (c k' hk')⟩
  ·rw [if_neg q1] at eget ⊢
   by_cases q2:i=p
   ·rw [if_pos q2] at eget ⊢
    have:(insertAt es p (h,x))[i]=(h,x):=(Option.some.inj eget).symm
    rw [this]
    refine⟨k0,hk,hj,λk' hk'=>back _ ?_⟩
    obtain⟨i',a,b⟩:=mem_plc.mp (h2 k' hk')
    exact⟨i',by rw [<- T.size];exact a,b⟩
   ·rw [if_neg q2] at eget ⊢
    have hie:i - 1 < es.size:=by lia
    obtain⟨k,a,b,c⟩:=T.path (i - 1) hie
    have:(insertAt es p (h,x))[i]=es[i - 1]:=by
     rw [Array.getElem?_eq_getElem hie] at eget;exact(Option.some.inj eget).symm
    rw [this]
    exact⟨k,a,b,λk' hk'=>back _ (c k' hk')⟩
theorem ins_perm {α:Type} (xs:Array α) (p:Nat) (x:α) (hp:p<=xs.size):(insertAt xs p x).toList.Perm (x :: xs.toList):=by
 unfold SetTable.insertAt
 simp only [Array.toList_append,Array.toList_push,Array.toList_extract,List.extract_eq_drop_take]
 have e:xs.toList=(xs.toList.drop 0).take (p - 0) ++ (xs.toList.drop p).take (xs.size - p):=by
  rw [List.drop_zero,Nat.sub_zero,List.take_of_length_le (l:=xs.toList.drop p) (by simp)]
  exact(List.take_append_drop p xs.toList).symm
 conv=>rhs;rw [e]
 rw [List.append_assoc,List.singleton_append]
 exact List.perm_middle
end
section
open PySem
open SetTable (Probe)
theorem coverL {M:Nat} (hM:MaskOK M) (h:Int) {j:Nat} (hj:j<=M): ∃n,n<=13 + M/\(lp M n (SetTable.bits h % (M + 1),SetTable.bits h)).1=j:=by
 have hb:SetTable.bits h < 2 ^ 64:=by
  unfold SetTable.bits
  have h1:=Int.emod_nonneg h (show(2 ^ 64:Int)≠0 by decide)
  have h2:=Int.emod_lt_of_pos h (show(0:Int) < 2 ^ 64 by decide)
  lia
 obtain⟨i13,e13,hi13⟩: ∃i,lp M 13 (SetTable.bits h % (M + 1),SetTable.bits h)=(i,0)/\i<=M:=by
  refine⟨(lp M 13 (SetTable.bits h % (M + 1),SetTable.bits h)).1, ?_, ?_⟩
  ·have h2:=lp_pt M 13 (SetTable.bits h % (M + 1)) (SetTable.bits h)
   have h3:SetTable.bits h / 32 ^ 13=0:=Nat.div_eq_of_lt (Nat.lt_of_lt_of_le hb (by decide))
   rw [h3] at h2
   exact Prod.ext rfl h2
  ·have e:lp M 13 (SetTable.bits h % (M + 1),SetTable.bits h)=SetTable.leap M (lp M 12 (SetTable.bits h % (M + 1),SetTable.bits h)).1 (lp M 12 (SetTable.bits h % (M + 1),SetTable.bits h)).2:=by rw [show 13=12 + 1 from rfl,lp_add];rfl
   rw [e]
   show(_ % (M + 1))<=M
   exact Nat.le_of_lt_succ (Nat.mod_lt _ (Nat.succ_pos _))
 obtain⟨n,hn,en⟩:=lcg_cover hM hi13 hj
 exact⟨13 + n,by lia,by rw [lp_add,e13,lp_lcg];exact en⟩
theorem free_spec {M:Nat}{ow:Array (Option Nat)} (hsz:ow.size=M + 1): ∀ (n fuel i pt:Nat),i<=M->n < fuel->ow[(lp M n (i,pt)).1]? =some none->
 ∃c,c<=10 * n + 9/\SetTable.layClean.free M ow fuel i pt=some (stp M c (rs M i pt)).j/\ow[(stp M c (rs M i pt)).j]? =some none/\∀c',c' < c->∃k',ow[(stp M c' (rs M i pt)).j]? =some (some k')
 | n,0,i,pt,hi,hf,hn=>by lia
 | n, fuel + 1,i,pt,hi,hf,hn=>by
  have hre:i<=SetTable.runEnd M i/\SetTable.runEnd M i<=M:=by unfold SetTable.runEnd;split <;> lia
  have hrl:=run_len M i
  have inb: ∀k,k < SetTable.runEnd M i + 1 - i->ow.getD (i + k) (some 0)=ow[i + k]! /\∃x,ow[i + k]? =some x/\ow.getD (i + k) (some 0)=x:=λk hk=>by
   have:i + k < ow.size:=by lia
   refine⟨by simp [Array.getD,this],ow[i + k],by simp [this],by simp [Array.getD,this]⟩
  have hst: ∀k,k < SetTable.runEnd M i + 1 - i->(stp M k (rs M i pt)).j=i + k:=λk hk=>by
   rw [stp_more M k (rs M i pt) (by show k<=SetTable.runEnd M i - i;lia)];rfl
  rw [show SetTable.layClean.free M ow (fuel + 1) i pt=_ by conv=>lhs;whnf]
  cases hq:(List.range (SetTable.runEnd M i + 1 - i)).find? λk=>(ow.getD (i + k) (some 0)).isNone with
  | some k=>
   obtain⟨a,b,c⟩:=List.find?_range_eq_some.mp hq
   have hk:=List.mem_range.mp b
   dsimp only
   refine⟨k,by lia,by rw [hst k hk], ?_,λc' hc'=> ?_⟩
   ·rw [hst k hk]
    obtain⟨x,e1,e2⟩:=(inb k hk).2
    rw [e2] at a
    rw [e1]
    cases x with
    | none=>rfl
    | some y=>cases a
   ·rw [hst c' (by lia)]
    obtain⟨x,e1,e2⟩:=(inb c' (by lia)).2
    have d:=c c' hc'
    rw [e2] at d
    rw [e1]
    cases x with
    | none=>cases d
    | some y=>exact⟨y,rfl⟩
  | none =>
   have c:=List.find?_range_eq_none.mp hq
   dsimp only
   have occ: ∀k,k < SetTable.runEnd M i + 1 - i->∃y,ow[i + k]? =some (some y):=λk hk=>by
    obtain⟨x,e1,e2⟩:=(inb k hk).2
    have d:=c k hk
    rw [e2] at d
    rw [e1]
    cases x with
    | none=>cases d
    | some y=>exact⟨y,rfl⟩
   cases n with
   | zero=>
    exfalso
    obtain⟨y,hy⟩:=occ 0 (by lia)
    have hn':ow[i]? =some none:=hn
    rw [Nat.add_zero,hn'] at hy
    cases hy
   | succ n=>
    obtain⟨c2,h1,h2,h3,h4⟩:=free_spec hsz n fuel (SetTable.leap M i pt).1 (SetTable.leap M i pt).2 (Nat.le_of_lt_succ (Nat.mod_lt _ (Nat.succ_pos _))) (by lia) hn
    have es: ∀x,stp M (SetTable.runEnd M i - i + 1 + x) (rs M i pt)=stp M x (rs M (SetTable.leap M i pt).1 (SetTable.leap M i pt).2):=λx=>by rw [stp_add,stp_run]
    refine⟨SetTable.runEnd M i - i + 1 + c2,by lia,by rw [es];exact h2,by rw [es];exact h3,λc' hc'=> ?_⟩
    by_cases hl:c' < SetTable.runEnd M i + 1 - i
    ·rw [hst c' hl];exact occ c' hl
    ·obtain⟨x,rfl⟩: ∃x,c'=SetTable.runEnd M i - i + 1 + x:=⟨c' - (SetTable.runEnd M i - i + 1),by lia⟩
     rw [es]
     exact h4 x (by lia)
structure OwOK (M:Nat) (hs:List Int) (ow:Array (Option Nat)):Prop where
 size:ow.size=M + 1
 lt: ∀ (j k:Nat),ow[j]? =some (some k)->k < hs.length
 all: ∀ (k:Nat),k < hs.length->∃j:Nat,ow[j]? =some (some k)
 inj: ∀ (j j' k:Nat),ow[j]? =some (some k)->ow[j']? =some (some k)->j=j'
 path: ∀ (j k:Nat) (h:Int),ow[j]? =some (some k)->hs[k]? =some h->∃c,c < 10 * (M + 15)/\(stp M c (pst M h)).j=j/\∀c',c' < c->∃k',ow[(stp M c' (pst M h)).j]? =some (some k')
theorem OwOK.nil (M:Nat):OwOK M [] (Array.replicate (M + 1) none) where
 size:=by simp
 lt:=λj k h=>by rw [Array.getElem?_replicate] at h;split at h <;> cases h
 all:=λk h=>absurd h (Nat.not_lt_zero k)
 inj:=λj j' k h=>by rw [Array.getElem?_replicate] at h;split at h <;> cases h
 path:=λj k h h1=>by rw [Array.getElem?_replicate] at h1;split at h1 <;> cases h1
theorem OwOK.hole {M:Nat}{hs:List Int}{ow:Array (Option Nat)} (o:OwOK M hs ow) (hl:hs.length<=M): ∃j,j<=M/\ow[j]? =some none:=by
 by_cases hq: ∃j,j<=M/\ow[j]? =some none
 ·exact hq
 ·exfalso
  have key: ∀j:Nat,j<=M->∃k,ow[j]? =some (some k):=λj hj=>by
   have:j < ow.size:=by rw [o.size];lia
   cases e:ow[j]? with
   | none=>rw [Array.getElem?_eq_none_iff] at e;lia
   | some x=>
    cases x with
    | none=>exact absurd ⟨j,hj,e⟩ hq
    | some k=>exact⟨k,rfl⟩
  have h1:=php (a:=(List.range (M + 1)).map λj=>((ow[j]?).getD none).getD 0) (b:=List.range hs.length) (by
   rw [List.nodup_iff_pairwise_ne,List.pairwise_map]
   refine List.Pairwise.imp_of_mem (R:=(· < ·)) (λ {a b} ha hb hab e=> ?_) List.pairwise_lt_range
   obtain⟨k1,e1⟩:=key a (by have:=List.mem_range.mp ha;lia)
   obtain⟨k2,e2⟩:=key b (by have:=List.mem_range.mp hb;lia)
   rw [e1,e2] at e
   simp only [Option.getD_some] at e
   subst e
   have:=o.inj _ _ _ e1 e2
   lia) λx hx=>by
    obtain⟨j,hj,rfl⟩:=List.mem_map.mp hx
    obtain⟨k,e⟩:=key j (by have:=List.mem_range.mp hj;lia)
    rw [e]
    exact List.mem_range.mpr (o.lt _ _ e)
  rw [List.length_map,List.length_range,List.length_range] at h1
  lia
theorem OwOK.step {M:Nat} (hM:MaskOK M) {hs:List Int}{ow:Array (Option Nat)} (o:OwOK M hs ow) (hl:hs.length<=M) (h:Int) :
 ∃j,SetTable.layClean.free M ow (SetTable.turns M) (SetTable.bits h % (M + 1)) (SetTable.bits h)=some j/\OwOK M (hs ++ [h]) (ow.setIfInBounds j (some hs.length)):=by
 obtain⟨j0,hj0,hn0⟩:=o.hole hl
 obtain⟨n,hn,en⟩:=coverL hM h hj0
 obtain⟨c,h1,h2,h3,h4⟩:=free_spec o.size n (SetTable.turns M) (SetTable.bits h % (M + 1)) (SetTable.bits h) (Nat.le_of_lt_succ (Nat.mod_lt _ (Nat.succ_pos _))) (by unfold SetTable.turns;lia) (by rw [en];exact hn0)
 refine⟨_,h2, ?_⟩
 change ow[(stp M c (pst M h)).j]? =some none at h3
 show OwOK M (hs ++ [h]) (ow.setIfInBounds (stp M c (pst M h)).j (some hs.length))
 generalize hj:(stp M c (pst M h)).j=j at *
 have hjs:j < ow.size:=by
  cases q:decide (j < ow.size) with
  | true=>exact of_decide_eq_true q
  | false=>
   have:=of_decide_eq_false q
   rw [Array.getElem?_eq_none_iff.mpr (by lia)] at h3;cases h3
 have g: ∀i:Nat,(ow.setIfInBounds j (some hs.length))[i]? =if i=j then some (some hs.length) else ow[i]? :=λi=>by
  rw [Array.getElem?_setIfInBounds]
  by_cases e:j=i
  ·subst e;rw [if_pos rfl,if_pos rfl,if_pos hjs]
  ·rw [if_neg e,if_neg (Ne.symm e)]
 have keep: ∀i:Nat,(∃k:Nat,ow[i]? =some (some k))->∃k:Nat,(ow.setIfInBounds j (some hs.length))[i]? =some (some k):=λi ⟨k,e⟩=>by
  rw [g i]
  by_cases q:i=j
  ·exact⟨hs.length,by rw [if_pos q]⟩
  ·exact⟨k,by rw [if_neg q];exact e⟩
 refine⟨by rw [Array.size_setIfInBounds];exact o.size,λi k e=> ?_,λk hk=> ?_,λi i' k e e'=> ?_,λi k h' e e'=> ?_⟩
 ·rw [g i] at e
  rw [List.length_append,List.length_singleton]
  split at e
  ·cases e;lia
  ·have:=o.lt _ _ e;lia
 ·rw [List.length_append,List.length_singleton] at hk
  by_cases q:k=hs.length
  ·exact⟨j,by rw [g j,if_pos rfl,q]⟩
  ·obtain⟨i,e⟩:=o.all k (by lia)
   refine⟨i, ?_⟩
   rw [g i,if_neg ?_]
   ·exact e
   ·rintro rfl;rw [h3] at e;cases e
 ·rw [g i] at e
  rw [g i'] at e'
  split at e
  ·cases e
   split at e'
   ·lia
   ·have:=o.lt _ _ e';lia
  ·split at e'
   ·cases e';have:=o.lt _ _ e;lia
   ·exact o.inj _ _ _ e e'
 ·rw [g i] at e
  split at e
  ·rename_i q
   cases e
   rw [List.getElem?_append_right (Nat.le_refl _),Nat.sub_self] at e'
   cases e'
   refine⟨c,by lia,by rw [hj,q],λc' hc'=>keep _ (h4 c' hc')⟩
  ·have hk:=o.lt _ _ e
   rw [List.getElem?_append_left hk] at e'
   obtain⟨c',a1,a2,a3⟩:=o.path _ _ _ e e'
   exact⟨c',a1,a2,λd hd=>keep _ (a3 d hd)⟩
theorem layClean_ok {M:Nat} (hM:MaskOK M) (hs:Array Int) (hl:hs.size<=M + 1): ∃ow,SetTable.layClean M hs=some ow/\OwOK M hs.toList ow:=by
 unfold SetTable.layClean
 rw [<- Array.foldl_toList]
 have key : ∀ (rest pre:List Int) (ow:Array (Option Nat)),OwOK M pre ow->pre.length + rest.length<=M + 1->
  ∃ ow',rest.foldl (λ (acc:Option (Array (Option Nat) × Nat)) h=>do
   let (owner,k) <- acc
   let j <- SetTable.layClean.free M owner (SetTable.turns M) (SetTable.bits h % (M + 1)) (SetTable.bits h)
   pure (owner.setIfInBounds j (some k),k + 1)) (some (ow,pre.length))=some (ow',pre.length + rest.length)/\OwOK M (pre ++ rest) ow':=by
  intro rest
  induction rest with
  | nil=>intro pre ow o _;exact⟨ow,rfl,by rw [List.append_nil];exact o⟩
  | cons h r ih=>
   intro pre ow o hl'
   rw [List.length_cons] at hl'
   obtain⟨j,e,o'⟩:=o.step hM (by lia) h
   obtain⟨ow',a,b⟩:=ih (pre ++ [h]) _ o' (by rw [List.length_append,List.length_singleton];lia)
   refine⟨ow', ?_,by rw [List.append_assoc] at b;exact b⟩
   rw [List.foldl_cons]
   have e2:(do
    let (owner,k) <- (some (ow,pre.length):Option (Array (Option Nat) × Nat))
    let j <- SetTable.layClean.free M owner (SetTable.turns M) (SetTable.bits h % (M + 1)) (SetTable.bits h)
    pure (owner.setIfInBounds j (some k),k + 1))=some (ow.setIfInBounds j (some pre.length),pre.length + 1):=by
    show(do
     let j <- SetTable.layClean.free M ow (SetTable.turns M) (SetTable.bits h % (M + 1)) (SetTable.bits h)
     pure (ow.setIfInBounds j (some pre.length),pre.length + 1))=_
    rw [e];rfl
   rw [e2]
   rw [List.length_append,List.length_singleton] at a
   rw [a,List.length_cons]
   congr 2;lia
 obtain⟨ow',a,b⟩:=key hs.toList [] _ (OwOK.nil M) (by simpa using hl)
 refine⟨ow', ?_,b⟩
 have a':=a
 simp only [List.length_nil] at a'
 rw [a'];rfl
theorem laid_ok {M finger moves:Nat}{led plain:Bool} (hM:MaskOK M) (es:Array (Int × Value)) (hl:es.size<=M) :
 ∃ t order,SetTable.laid M finger moves led plain (es.map (·.1))=some (t,order)/\t.mask=M/\t.led=led/\t.plain=plain/\(order.filterMap (es[·]?)).size=es.size/\
  (order.filterMap (es[·]?)).toList.Perm es.toList/\TabOK (order.filterMap (es[·]?)) t:=by
 obtain⟨ow,e,o⟩:=layClean_ok hM (es.map (·.1)) (by rw [Array.size_map];lia)
 unfold SetTable.laid
 rw [e]
 refine⟨_,_,rfl,rfl,rfl,rfl, ?_⟩
 have hlen:((es.map (·.1)).toList).length=es.size:=by simp
 generalize hlive:(List.range (M + 1)).filterMap (λj=>(ow.getD j none).map (j, ·))=live
 have gd: ∀j k,(ow.getD j none).map (j, ·)=some k ↔ ∃q,k=(j,q)/\ow[j]? =some (some q):=λj k=>by
  by_cases h:j < ow.size
  ·have:ow.getD j none=ow[j]:=by simp [Array.getD,h]
   rw [this,Array.getElem?_eq_getElem h]
   cases ow[j] with
   | none=>simp
   | some q=>simp;exact eq_comm
  ·have:ow.getD j none=none:=by simp [Array.getD,h]
   rw [this,Array.getElem?_eq_none_iff.mpr (by lia)]
   simp
 have hmem: ∀x,x∈live ↔ ow[x.1]? =some (some x.2):=λx=>by
  rw [<- hlive,List.mem_filterMap]
  constructor
  ·rintro ⟨j,hj,ej⟩
   obtain⟨q,rfl,e2⟩:=(gd j x).mp ej
   exact e2
  ·intro h
   refine⟨x.1,List.mem_range.mpr ?_,(gd _ _).mpr ⟨x.2,rfl,h⟩⟩
   have:=(Array.getElem?_eq_some_iff.mp h).1
   rw [o.size] at this;exact this
 have hsort:live.Pairwise (λa b=>a.1 < b.1):=by
  rw [<- hlive,List.pairwise_filterMap]
  refine List.Pairwise.imp (λ {a b} hab x hx y hy=> ?_) List.pairwise_lt_range
  obtain⟨_,rfl,_⟩:=(gd _ _).mp hx
  obtain⟨_,rfl,_⟩:=(gd _ _).mp hy
  exact hab
 have hnd:(live.map (·.2)).Nodup:=by
  rw [List.nodup_iff_pairwise_ne,List.pairwise_map]
  refine List.Pairwise.imp_of_mem (λ {a b} ha hb hab e=> ?_) hsort
  have:=o.inj _ _ _ ((hmem a).mp ha) (by rw [e];exact(hmem b).mp hb)
  lia
 have hperm:(live.map (·.2)).Perm (List.range es.size):=by
  rw [List.perm_ext_iff_of_nodup hnd List.nodup_range]
  intro k
  rw [List.mem_map,List.mem_range]
  constructor
  ·rintro ⟨x,hx,rfl⟩
   have:=o.lt _ _ ((hmem x).mp hx)
   rw [hlen] at this;exact this
  ·intro hk
   obtain⟨j,hj⟩:=o.all k (by rw [hlen];exact hk)
   exact⟨(j,k),(hmem _).mpr hj,rfl⟩
 have hll:live.length=es.size:=by have:=hperm.length_eq;rw [List.length_map,List.length_range] at this;exact this
 have hfm: ∀l:List Nat,(∀k∈l,k < es.size)->l.filterMap (es[·]?)=l.map (λk=>es.getD k default):=by
  intro l
  induction l with
  | nil=>intro _;rfl
  | cons k r ih=>
   intro h
   have hk:=h k (.head _)
   rw [List.filterMap_cons,Array.getElem?_eq_getElem hk]
   dsimp only
   rw [ih λx hx=>h x (.tail _ hx),List.map_cons]
   congr 1
   simp [Array.getD,hk]
 have hlt: ∀k∈live.map (·.2),k < es.size:=λk hk=>List.mem_range.mp (hperm.mem_iff.mp hk)
 have hto:((live.map (·.2)).toArray.filterMap (es[·]?)).toList=(live.map (·.2)).map (λk=>es.getD k default):=by
  rw [Array.toList_filterMap];exact hfm _ hlt
 have hsz:((live.map (·.2)).toArray.filterMap (es[·]?)).size=es.size:=by
  rw [<- Array.length_toList,hto,List.length_map,List.length_map,hll]
 refine⟨hsz, ?_, ?_⟩
 ·rw [hto]
  have e1:es.toList=(List.range es.size).map (λk=>es.getD k default):=by
   apply List.ext_getElem
   ·simp
   ·intro i h1 h2
    simp at h1
    simp [Array.getD,h1]
  rw [e1]
  exact hperm.map _
 ·have pg: ∀i (hi:i < live.length),((live.map (·.1)).toArray).getD i 0=live[i].1:=λi hi=>by simp [Array.getD,hi]
  have egt: ∀i (hi:i < live.length),((live.map (·.2)).toArray.filterMap (es[·]?))[i]? =some (es.getD live[i].2 default):=λi hi=>by
   rw [<- Array.getElem?_toList,hto]
   simp [hi]
  generalize ((live.map (·.2)).toArray.filterMap (es[·]?))=es' at hsz hto egt ⊢
  refine⟨hM,rfl,by rw [hsz, <- hll];simp, ?_, ?_,by rw [hsz];exact hl, ?_⟩
  ·intro i i' hlt' hi'
   have hi2:i' < live.length:=by simpa using hi'
   show((live.map (·.1)).toArray).getD i 0 < ((live.map (·.1)).toArray).getD i' 0
   rw [pg i (by lia),pg i' hi2]
   exact List.pairwise_iff_getElem.mp hsort i i' (by lia) hi2 hlt'
  ·intro i hi
   rw [hsz, <- hll] at hi
   show((live.map (·.1)).toArray).getD i 0<=M
   rw [pg i hi]
   have:=(Array.getElem?_eq_some_iff.mp ((hmem _).mp (List.getElem_mem hi))).1
   rw [o.size] at this;lia
  ·intro i hi
   have hi2:i < live.length:=by rw [hsz, <- hll] at hi;exact hi
   have hx:=(hmem _).mp (List.getElem_mem hi2)
   have hk:=hlt live[i].2 (List.mem_map_of_mem (List.getElem_mem hi2))
   have eh:es'[i].1=(es.getD live[i].2 default).1:=by
    have:=egt i hi2
    rw [Array.getElem?_eq_getElem hi] at this
    rw [Option.some.inj this]
   have eg:((es.map (·.1)).toList)[live[i].2]? =some (es.getD live[i].2 default).1:=by
    simp [Array.getD,hk]
   obtain⟨c,a1,a2,a3⟩:=o.path _ _ _ hx eg
   refine⟨c,a1, ?_,λc' hc'=> ?_⟩
   ·show(stp M c (pst M _)).j=((live.map (·.1)).toArray).getD i 0
    rw [pg i hi2,eh];exact a2
   ·obtain⟨k',e'⟩:=a3 c' hc'
    obtain⟨i',hi',ei'⟩:=List.getElem_of_mem ((hmem ((stp M c' (pst M (es.getD live[i].2 default).1)).j,k')).mpr e')
    refine⟨i',by rw [hsz, <- hll];exact hi', ?_⟩
    show((live.map (·.1)).toArray).getD i' 0=(stp M c' (pst M _)).j
    rw [pg i' hi',ei',eh]
end
open PySem PySem.W PyProof.Rows
set_option backward.match.sparseCases false
inductive B where
 | len | range | sorted | set | int | isinstance | max | abs | iter | bool | tstr
 deriving DecidableEq
inductive G where
 | cls (k:Nat) | fn (k:Nat) | bi (b:B)
 deriving DecidableEq
inductive V where
 | none | bool (b:Bool) | int (i:Int) | str (s:Str) | tup (vs:List V) | ref (l:Nat)
 | g (g:G) | rng (a b:Int) | it (l:Nat) | set (vs:List V) | scr
 deriving Inhabited
inductive O where
 | inst (c:Nat) (at_:List (Nat × V)) | list (vs:List V) | dict (kvs:List (Int × V)) | cell (v:Option V)
 deriving Inhabited
noncomputable abbrev Hp:=List O
inductive Res (α:Type) where
 | ok (a:α) (h:Hp) | ex (h:Hp) | no
theorem Res.okI {α:Type}{a b:α}{h h':Hp} (e:Res.ok a h= .ok b h'):a=b/\h=h':=by injection e with e1 e2;exact⟨e1,e2⟩
theorem V.itI {a b:Nat} (e:V.it a= .it b):a=b:=by injection e
noncomputable abbrev M (α:Type):=Hp->Res α
@[inline] noncomputable def M.pure {α:Type} (a:α):M α:=λh=> .ok a h
@[inline] noncomputable def M.bind {α β:Type} (m:M α) (f:α->M β):M β:=λh=>match m h with
 | .ok a h'=>f a h' | .ex h'=> .ex h' | .no=> .no
noncomputable instance:Monad M where
 pure:=M.pure
 bind:=M.bind
noncomputable def stuck {α:Type}:M α:=λ_=> .no
noncomputable def tyErr {α:Type}:M α:=λh=> .ex h
noncomputable def getO (l:Nat):M O:=λh=>match h[l]? with | some o=> .ok o h | none=> .no
noncomputable def setO (l:Nat) (o:O):M Unit:=λh=> .ok () (h.set l o)
noncomputable def alloc (o:O):M Nat:=λh=> .ok h.length (h ++ [o])
noncomputable def noEx {α:Type} (m:M α):M α:=λh=>match m h with
 | .ex _=> .no
 | r=>r
inductive NT where
 | n (i:Nat) | t (is:List Nat)
inductive X where
 | none | bool (b:Bool) | int (i:Int) | str (s:Str)
 | loc (i:Nat) | cel (i:Nat) | glob (g:G)
 | attr (e:X) (a:Nat)
 | call (f:X) (args:List X) (kn:List Str) (kv:List X)
 | meth (e:X) (m:Nat) (args:List X) (kn:List Str) (kv:List X)
 | sub (e i:X)
 | bin (op:Operator) (a b:X)
 | neg (a:X) | not (a:X) | truth (a:X)
 | cmp (op:CmpOp) (a b:X)
 | cmp2 (a:X) (op1:CmpOp) (b:X) (op2:CmpOp) (c:X)
 | and (a b:X) | or (a b:X)
 | ite (t a b:X)
 | tup (es:List X) | lst (es:List X) | dict0
 | comp (n:Nat) (free:List (Nat × Nat)) (elt:X) (tgt:NT) (iter:X) (ifs:List X)
inductive T where
 | n (i:Nat) | c (i:Nat) | attr (e:X) (a:Nat) | sub (e i:X)
inductive S where
 | expr (e:X) | assign (t:T) (e:X) | unpack (is:List Nat) (e:X) | augSub (o i:X) (op:Operator) (e:X)
 | ret (e:X) | retIter (e:X) | ite (t:X) (a b:List S) | for_ (t:NT) (e:X) (body:List S)
 | tryTE (a b c:X) (h:List S) | bad
structure Fn where
 params:List Str
 pix:List Nat
 dflt:List V
 nsl:Nat
 own:List Nat
 body:List S
 deriving Inhabited
structure Prog where
 fns:List (Option Fn)
 meth:List (List (Nat × Nat))
 cms:List Nat
 ats:List (List Nat)
 hd:Bool:=false
 scr:List Int:= []
structure Lo where
 loc:List (Option V)
 cel:List (Option Nat)
noncomputable abbrev CallT:=Nat->List (Nat × Nat)->List V->List (Str × V)->M V
noncomputable abbrev nInit:Nat:=0
noncomputable abbrev nIter:Nat:=1
noncomputable abbrev nLen:Nat:=2
noncomputable abbrev nBool:Nat:=3
noncomputable abbrev nContains:Nat:=4
noncomputable abbrev nEq:Nat:=5
noncomputable abbrev nLt:Nat:=6
noncomputable abbrev nGt:Nat:=7
noncomputable abbrev nGetitem:Nat:=8
noncomputable abbrev nSetitem:Nat:=9
noncomputable abbrev nAppend:Nat:=10
noncomputable def Prog.getM (P:Prog) (c m:Nat):Option Nat:=match P.meth[c]? with | some l=>l.lookup m | none=>none
noncomputable def Prog.isAt (P:Prog) (c a:Nat):Bool:=match P.ats[c]? with | some l=>l.contains a | none=>false
noncomputable def ofO {α:Type}:Option α->M α
 | some a=>pure a
 | none=>stuck
noncomputable def om {α β:Type} (o:Option α) (b:M β) (f:α->M β):M β:=match o with
 | none=>b
 | some a=>f a
noncomputable def vRef:V->Option Nat
 | .ref l=>some l
 | _=>none
noncomputable def vInt:V->Option Int
 | .int i=>some i
 | _=>none
noncomputable def vBool:V->Option Bool
 | .bool b=>some b
 | _=>none
noncomputable def vTup:V->Option (List V)
 | .tup vs=>some vs
 | _=>none
noncomputable def vIt:V->Option Nat
 | .it l=>some l
 | _=>none
noncomputable def vSet:V->Option (List V)
 | .set vs=>some vs
 | _=>none
noncomputable def oInst:O->Option (Nat × List (Nat × V))
 | .inst c a=>some (c,a)
 | _=>none
noncomputable def oList:O->Option (List V)
 | .list vs=>some vs
 | _=>none
noncomputable def oDict:O->Option (List (Int × V))
 | .dict kvs=>some kvs
 | _=>none
noncomputable def oCell:O->Option (Option V)
 | .cell v=>some v
 | _=>none
noncomputable def getLs (l:Nat):M (List V):=do ofO (oList (<- getO l))
noncomputable def chkIt (v:V):M V:=if(vIt v).isSome then stuck else pure v
noncomputable def clsOf (v:V):M (Option Nat):=om (vRef v) (pure none) λl=>do
 let o <- getO l
 pure ((oInst o).map (·.1))
noncomputable def isInt (v:V):Bool:=(vInt v).isSome
noncomputable def asBool (v:V):M Bool:=ofO (vBool v)
noncomputable def asInt (v:V):M Int:=ofO (vInt v)
noncomputable def truthy (C:CallT) (P:Prog) (v:V):M Bool:=match v with
 | .none=>pure false
 | .bool b=>pure b
 | .int i=>pure (decide (i≠0))
 | .ref l=>do
  let o <- getO l
  om (oInst o) (do
   let vs <- ofO (oList o)
   pure (!vs.isEmpty)) λq=>
   om (P.getM q.1 nBool) (if(P.getM q.1 nLen).isSome then stuck else pure true) λf=>do asBool (<- C f [] [.ref l] [])
 | _=>stuck
mutual
noncomputable def toPy:V->Option PyData
 | .none=>some .none
 | .bool b=>some (.bool b)
 | .int i=>some (.int i)
 | .str s=>if PyData.strOk s then some (.str s) else none
 | .tup vs=>(toPys vs).map .tuple
 | _=>none
noncomputable def toPys:List V->Option (List PyData)
 | []=>some []
 | v :: r=>(toPy v).bind λd=>(toPys r).map (d :: ·)
end
noncomputable def peqO (a b:Option PyData):Option Bool:=a.bind λd=>b.bind λe=>if SeqAt.shaped d && SeqAt.shaped e then some (PyData.eqv d e) else none
noncomputable def peq (a b:V):Option Bool:=peqO (toPy a) (toPy b)
noncomputable def peqL (a b:List V):Option Bool:=peqO ((toPys a).map .list) ((toPys b).map .list)
inductive LtR where
 | val (b:Bool) | err | no
 deriving DecidableEq
theorem LtR.valI {a b:Bool} (e:LtR.val a= .val b):a=b:=by injection e
noncomputable def str_lt (a b:Str):Bool:=decide (a.cps.toList < b.cps.toList)
noncomputable def kd:V->Nat
 | .none=>1
 | .int _=>2
 | .str _=>3
 | _=>0
noncomputable def intOf:V->Int
 | .int i=>i
 | _=>0
noncomputable def strOf:V->Str
 | .str s=>s
 | _=>default
noncomputable def pord0 (g:Bool) (a b:V):LtR:=
 if kd a=2/\kd b=2 then .val (if g then decide (intOf a > intOf b) else decide (intOf a < intOf b)) else
 if kd a=3/\kd b=3 then .val (if g then str_lt (strOf b) (strOf a) else str_lt (strOf a) (strOf b)) else
 if kd a≠0/\kd b≠0/\g=false/\kd a≠kd b then .err else .no
noncomputable def LtR.val? :LtR->Option Bool
 | .val b=>some b
 | _=>none
noncomputable def pords (g:Bool):List V->List V->Option Bool
 | [],q=>match q with
  | []=>some false
  | _ :: _=>some (!g)
 | a :: r,q=>match q with
  | []=>some g
  | b :: q=>(peq a b).bind λe=>if e then pords g r q else(pord0 g a b).val?
noncomputable def pord (g:Bool) (a b:V):LtR:=match vTup a with
 | none=>pord0 g a b
 | some x=>match (vTup b).bind (pords g x) with
  | some r=> .val r
  | none=> .no
noncomputable def ofLtR (P:Prog):LtR->M Bool
 | .val b=>pure b
 | .err=>if P.hd then stuck else tyErr
 | .no=>stuck
noncomputable def eqv (C:CallT) (P:Prog) (a b:V):M Bool:=do
 let c <- clsOf a
 om c (om (vRef a) (ofO (peq a b)) λl=>do
  let k <- ofO (vRef b)
  let x <- getLs l
  let y <- getLs k
  ofO (peqL x y)) λc=>do
  let f <- ofO (P.getM c nEq)
  let d <- clsOf b
  if d=some c then asBool (<- C f [] [a,b] []) else stuck
noncomputable def contains (C:CallT) (P:Prog) (a o:V):M Bool:=do
 let l <- ofO (vRef o)
 let ob <- getO l
 om (oInst ob) (do
  let kvs <- ofO (oDict ob)
  let i <- asInt a
  pure (kvs.any λp=>p.1 == i)) λq=>do
  let f <- ofO (P.getM q.1 nContains)
  truthy C P (<- C f [] [o,a] [])
noncomputable def ltv (g:Bool) (C:CallT) (P:Prog) (a b:V):M Bool:=do
 let c <- clsOf a
 let d <- clsOf b
 om c (if d=none then ofLtR P (pord g a b) else stuck) λc=>do
  let f <- ofO (P.getM c (if g then nGt else nLt))
  if d=some c\/isInt b=true then asBool (<- C f [] [a,b] []) else stuck
noncomputable def isBi:V->Bool
 | .g (.bi _)=>true
 | _=>false
noncomputable def isScr:V->Bool
 | .scr=>true
 | _=>false
noncomputable def isNone:V->Bool
 | .none=>true
 | _=>false
noncomputable def int2 (a b:V) (f:Int->Int->M V):M V:=do
 let x <- asInt a
 let y <- asInt b
 f x y
noncomputable def cmpOp (C:CallT) (P:Prog) (op:CmpOp) (a b:V):M V:=match op with
 | .Eq=>do pure (.bool (<- eqv C P a b))
 | .NotEq=>do
  let c <- clsOf a
  if c=none then(do pure (.bool (!(<- eqv C P a b)))) else stuck
 | .Lt=>do pure (.bool (<- ltv false C P a b))
 | .Gt=>do pure (.bool (<- ltv true C P a b))
 | .LtE=>int2 a b λx y=>pure (.bool (decide (x<=y)))
 | .GtE=>int2 a b λx y=>pure (.bool (decide (y<=x)))
 | .Is=>if(isNone b && !isBi a)=true then pure (.bool (isNone a)) else stuck
 | .IsNot=>if(isNone b && !isBi a)=true then pure (.bool (!isNone a)) else stuck
 | .In=>do pure (.bool (<- contains C P a b))
 | .NotIn=>do pure (.bool (!(<- contains C P a b)))
noncomputable def binOp (op:Operator) (a b:V):M V:=match op with
 | .Add=>om (vRef a) (int2 a b λx y=>pure (.int (x + y))) λl=>do
  let k <- ofO (vRef b)
  let x <- getLs l
  let y <- getLs k
  if x.length + y.length<=2 ^ 19 then do pure (.ref (<- alloc (.list (x ++ y)))) else stuck
 | .Sub=>int2 a b λx y=>pure (.int (x - y))
 | .Mult=>int2 a b λx y=>if Builtin.Int.intBits x<=shortFactorBits\/Builtin.Int.intBits y<=shortFactorBits then pure (.int (x * y)) else stuck
 | .Mod=>int2 a b λx y=>if y=0 then stuck else pure (.int (x.fmod y))
 | .FloorDiv=>int2 a b λx y=>if y=0\/Builtin.divisionGoesByPylong x y then stuck else pure (.int (x.fdiv y))
 | _=>stuck
noncomputable def augOp (op:Operator) (a b:V):M V:=if op= .Add then int2 a b λx y=>pure (.int (x + y)) else stuck
noncomputable def getA (P:Prog) (v:V) (a:Nat):M V:=do
 let l <- ofO (vRef v)
 let o <- getO l
 let q <- ofO (oInst o)
 if P.isAt q.1 a then ofO (q.2.lookup a) else stuck
noncomputable def putA (a:Nat) (v:V):List (Nat × V)->List (Nat × V)
 | []=> [(a,v)]
 | p :: r=>if p.1=a then(a,v) :: r else p :: putA a v r
noncomputable def setA (P:Prog) (o:V) (a:Nat) (v:V):M Unit:=do
 let l <- ofO (vRef o)
 let ob <- getO l
 let q <- ofO (oInst ob)
 if P.isAt q.1 a=true/\q.2.length<=800 then setO l (.inst q.1 (putA a v q.2)) else stuck
noncomputable def dput (k:Int) (v:V) (l:List (Int × V)):List (Int × V) :=
 if l.any (λp=>p.1=k) then l.map (λp=>if p.1=k then(p.1,v) else p) else l ++ [(k,v)]
noncomputable def dget (k:Int) (l:List (Int × V)):Option V:=(l.find? λp=>p.1=k).map (·.2)
noncomputable def lidx (vs:List V) (i:Int):Option V:=
 if 0<=i then vs[i.toNat]? else none
noncomputable def listAt (vs:List V) (i:V):M V:=do ofO (lidx vs (<- asInt i))
noncomputable def getItem (C:CallT) (P:Prog) (o i:V):M V:=om (vRef o) (if isScr o then listAt (P.scr.map .int) i else do
 let vs <- ofO (vTup o)
 if vs.length<=2 ^ 20 then listAt vs i else stuck) λl=>do
 let ob <- getO l
 om (oInst ob) (do
  let vs <- ofO (oList ob)
  listAt vs i) λq=>do
  let f <- ofO (P.getM q.1 nGetitem)
  chkIt (<- C f [] [o,i] [])
noncomputable def getD (o i:V):M V:=do
 let l <- ofO (vRef o)
 let ob <- getO l
 let kvs <- ofO (oDict ob)
 ofO (dget (<- asInt i) kvs)
noncomputable def setItem (C:CallT) (P:Prog) (o i v:V):M Unit:=do
 let l <- ofO (vRef o)
 let ob <- getO l
 om (oInst ob) (do
  let kvs <- ofO (oDict ob)
  let k <- asInt i
  if kvs.length<=2 ^ 19 then setO l (.dict (dput k v kvs)) else stuck) λq=>do
  let f <- ofO (P.getM q.1 nSetitem)
  let r <- C f [] [o,i,v] []
  if isNone r then pure () else stuck
noncomputable def openIt (C:CallT) (P:Prog) (v:V):M Nat:=do
 let l <- ofO (vRef v)
 let o <- getO l
 om (oInst o) (do
  let _ <- ofO (oList o)
  pure l) λq=>do
  let f <- ofO (P.getM q.1 nIter)
  ofO (vIt (<- C f [] [v] []))
noncomputable def rngItems (a b:Int):List V:=(List.range (b - a).toNat).map λ (k:Nat)=> .int (a + (k:Int))
noncomputable def iterOf (C:CallT) (P:Prog) (v:V):M (Option Nat × List V):=if P.hd then stuck else match v with
 | .ref l=>do
  let k <- openIt C P (.ref l)
  let vs <- getLs k
  pure (some k,vs)
 | .tup vs=>pure (none,vs)
 | .rng a b=>if a.natAbs < 2 ^ 20/\b.natAbs < 2 ^ 20 then pure (none,rngItems a b) else stuck
 | _=>stuck
noncomputable def still (l:Option Nat) (vs:List V):M Unit:=match l with
 | none=>pure ()
 | some l=>do
  let ws <- getLs l
  if ws.length=vs.length then pure () else stuck
noncomputable def make (C:CallT) (P:Prog) (k:Nat) (args:List V) (kw:List (Str × V)):M V:=do
 let l <- alloc (.inst k [])
 let f <- ofO (P.getM k nInit)
 let r <- C f [] (.ref l :: args) kw
 if isNone r then pure (.ref l) else stuck
noncomputable def runKas {α:Type} (cmp:Nat->Nat->M Bool):KasT α->M α
 | .ret a=>pure a
 | .ask i j k=>do
  let b <- cmp i j
  runKas cmp (k b)
noncomputable def allCls (c:Nat):List V->M Bool
 | []=>pure true
 | v :: r=>do
  let d <- clsOf v
  if d=some c then allCls c r else pure false
noncomputable def isTupI (v:V):Bool:=match vTup v with
 | some (x :: _)=>isInt x
 | _=>false
noncomputable def kindOK (vs:List V):M Bool:=if vs.all isTupI then pure true else do
 let c <- clsOf (vs.headD .none)
 om c (pure false) λc=>allCls c vs
noncomputable def sortV (C:CallT) (P:Prog) (vs:List V):M (List V) :=
 if vs.length < 2 then pure vs
 else if vs.length ≥ 64 then stuck
 else do
  let b <- kindOK vs
  if b then do
   let p <- noEx (runKas (λi j=>ltv false C P (vs.getD i .none) (vs.getD j .none)) (kas_sort vs.length))
   pure (p.toList.map λi=>vs.getD i .none)
  else stuck
noncomputable def isInst (k:Nat) (v:V):M V:=om (vRef v) (if isInt v then pure (.bool false) else stuck) λl=>do
 let o <- getO l
 let q <- ofO (oInst o)
 pure (.bool (q.1 == k))
noncomputable def isB (b:B) (v:V):M V:=if kd v=2 then pure (.bool (decide (b= .int))) else if kd v=3 then pure (.bool (decide (b= .tstr))) else stuck
noncomputable def lenI (C:CallT) (P:Prog) (c l:Nat):M Int:=do
 let f <- ofO (P.getM c nLen)
 let n <- asInt (<- C f [] [.ref l] [])
 if 0<=n/\n < 2 ^ 20 then pure n else stuck
noncomputable def collectV (C:CallT) (P:Prog) (v:V):M (List V):=do
 let l <- ofO (vRef v)
 let o <- getO l
 om (oInst o) (ofO (oList o)) λ_=>do
  let kv <- iterOf C P v
  let k <- ofO kv.1
  let q <- ofO (oInst (<- getO l))
  let _ <- lenI C P q.1 l
  let ws <- getLs k
  if ws.length=kv.2.length then pure ws else stuck
noncomputable def plt (a b:V):Bool:=match pord false a b with
 | .val true=>true
 | _=>false
noncomputable def pge (a b:V):Bool:=match pord false a b with
 | .val false=>true
 | _=>false
noncomputable def insV (x:V):List V->List V
 | []=> [x]
 | y :: r=>if plt y x then y :: insV x r else x :: y :: r
noncomputable def isortV:List V->List V
 | []=> []
 | x :: r=>insV x (isortV r)
noncomputable def strictV:List V->Bool
 | []=>true
 | x :: r=>r.all (λy=>plt x y && pge y x) && strictV r
noncomputable def isItem (v:V):Bool:=decide (kd v=2\/kd v=3)
noncomputable def isFlat (v:V):Bool:=match vTup v with
 | some vs=>vs.all isItem
 | none=>false
noncomputable def dedup:List V->List V->Option (List V)
 | acc,[]=>some acc
 | acc,x :: r=>match acc.mapM (λy=>peq y x) with
  | some bs=>if bs.any id then dedup acc r else dedup (acc ++ [x]) r
  | none=>Option.none
noncomputable def arg1 (args:List V) (kw:List (Str × V)) (k:V->M V):M V:=match kw with
 | _ :: _=>stuck
 | [] =>match args with
  | []=>stuck
  | v :: r=>match r with
   | []=>k v
   | _ :: _=>stuck
noncomputable def arg2 (args:List V) (kw:List (Str × V)) (k:V->V->M V):M V:=match args with
 | []=>stuck
 | v :: r=>arg1 r kw (k v)
noncomputable def bLen (P:Prog) (v:V):M V:=if isScr v then pure (.int P.scr.length) else do
 let l <- ofO (vRef v)
 let vs <- getLs l
 pure (.int vs.length)
noncomputable def bRange (v:V):M V:=do
 let n <- asInt v
 if n.natAbs < 2 ^ 20 then pure (.rng 0 n) else stuck
noncomputable def bInt (v:V):M V:=do
 let b <- asBool v
 pure (.int (if b then 1 else 0))
noncomputable def bAbs (v:V):M V:=do
 let i <- asInt v
 pure (.int i.natAbs)
noncomputable def bMax (P:Prog) (v w:V):M V:=if P.hd then stuck else int2 v w λa b=>pure (.int (if b > a then b else a))
noncomputable def vCls:V->Option Nat
 | .g (.cls k)=>some k
 | _=>none
noncomputable def vBi:V->Option B
 | .g (.bi b)=>some b
 | _=>none
noncomputable def bIsi (v c:V):M V:=om (vCls c) (do
 let b <- ofO (vBi c)
 if b= .int\/b= .bool\/b= .tstr then isB b v else stuck) λk=>isInst k v
noncomputable def bSorted (C:CallT) (P:Prog) (v:V):M V:=if P.hd then stuck else om (vSet v) (do
 let vs <- collectV C P v
 let ws <- sortV C P vs
 pure (.ref (<- alloc (.list ws)))) λvs=>
 if (vs.all isTupI && strictV (isortV vs) && vs.all (λv=>pge v v) && decide (vs.length<=63))=true then do
  pure (.ref (<- alloc (.list (isortV vs))))
 else stuck
noncomputable def bSet (P:Prog) (v:V):M V:=if P.hd then stuck else do
 let l <- ofO (vRef v)
 let vs <- getLs l
 if (vs.all isFlat && decide (vs.length<=63))=true then(do
  let ws <- ofO (dedup [] vs)
  pure (.set ws)) else stuck
noncomputable def bcall (C:CallT) (P:Prog) (b:B) (args:List V) (kw:List (Str × V)):M V:=match b with
 | .len=>arg1 args kw (bLen P)
 | .range=>arg1 args kw bRange
 | .int=>arg1 args kw bInt
 | .abs=>arg1 args kw bAbs
 | .max=>arg2 args kw (bMax P)
 | .isinstance=>arg2 args kw bIsi
 | .sorted=>arg1 args kw (bSorted C P)
 | .set=>arg1 args kw (bSet P)
 | _=>stuck
noncomputable def callV (C:CallT) (P:Prog) (f:V) (args:List V) (kw:List (Str × V)):M V:=match f with
 | .g (.fn k)=>C k [] args kw
 | .g (.cls k)=>make C P k args kw
 | .g (.bi b)=>bcall C P b args kw
 | _=>stuck
inductive Mt where
 | fn (f:Nat) (self:V) | app (l:Nat)
noncomputable def methOf (P:Prog) (o:V) (m:Nat):M Mt:=om (vCls o) (do
 let l <- ofO (vRef o)
 let ob <- getO l
 om (oInst ob) (do
  let _ <- ofO (oList ob)
  if m=nAppend then pure (.app l) else stuck) λq=>do
  let f <- ofO (P.getM q.1 m)
  if(P.cms.contains f || (q.2.lookup m).isSome)=true then stuck else pure (.fn f o)) λk=>do
 let f <- ofO (P.getM k m)
 if P.cms.contains f then pure (.fn f o) else stuck
noncomputable def appendL (l:Nat) (x:V):M V:=do
 let vs <- getLs l
 if vs.length < 2 ^ 19 then(do setO l (.list (vs ++ [x]));pure .none) else stuck
noncomputable def callMt (C:CallT) (mt:Mt) (args:List V) (kw:List (Str × V)):M V:=match mt with
 | .fn f self=>C f [] (self :: args) kw
 | .app l=>arg1 args kw (appendL l)
noncomputable def ldLoc (ρ:Lo) (i:Nat):M V:=do ofO (<- ofO ρ.loc[i]?)
noncomputable def ldCel (ρ:Lo) (i:Nat):M V:=do
 let l <- ofO (<- ofO ρ.cel[i]?)
 ofO (<- ofO (oCell (<- getO l)))
noncomputable def bindIs:List Nat->List V->Lo->M Lo
 | [],vs,ρ=>if vs.isEmpty then pure ρ else stuck
 | i :: is,vs,ρ=>do
  let v <- ofO vs.head?
  bindIs is vs.tail {ρ with loc:=ρ.loc.set i (some v) }
noncomputable def bindNT (t:NT) (v:V) (ρ:Lo):M Lo:=match t with
 | .n i=>pure {ρ with loc:=ρ.loc.set i (some v) }
 | .t is=>do
  let vs <- ofO (vTup v)
  bindIs is vs ρ
noncomputable def compEnv (n:Nat) (free:List (Nat × Nat)) (ρ:Lo):Lo:=
 {loc:=List.replicate n none,cel:=free.foldl (λl p=>l.set p.1 (match ρ.cel[p.2]? with | some c=>c | none=>none)) (List.replicate n none) }
noncomputable def curItem (l:Option Nat) (all:List V) (i:Nat):M V:=match l with
 | none=>ofO all[i]?
 | some l=>do
  let ws <- getLs l
  if ws.length=all.length then ofO ws[i]? else stuck
noncomputable def compLoop (elt:Lo->M V) (test:Lo->M Bool) (tgt:NT) (l:Option Nat) (all:List V):Nat->Nat->Nat->Lo->M Unit
 | 0,_,_,_=>still l all
 | k + 1,i,acc,σ=>do
  let v <- curItem l all i
  let σ <- bindNT tgt v σ
  if <- test σ then do
   let x <- elt σ
   let _ <- appendL acc x
   compLoop elt test tgt l all k (i + 1) acc σ
  else compLoop elt test tgt l all k (i + 1) acc σ
noncomputable def compM (C:CallT) (P:Prog) (iter:M V) (elt:Lo->M V) (test:Lo->M Bool) (n:Nat) (free:List (Nat × Nat)) (tgt:NT) (ρ:Lo):M Nat:=do
 let v <- iter
 let li <- iterOf C P v
 let acc <- alloc (.list [])
 noEx (compLoop elt test tgt li.1 li.2 li.2.length 0 acc (compEnv n free ρ))
 pure acc
mutual
noncomputable def ev (C:CallT) (P:Prog):X->Lo->M V
 | .none,_=>pure .none
 | .bool b,_=>pure (.bool b)
 | .int i,_=>pure (.int i)
 | .str s,_=>pure (.str s)
 | .loc i,ρ=>ldLoc ρ i
 | .cel i,ρ=>ldCel ρ i
 | .glob g,_=>pure (.g g)
 | .attr e a,ρ=>do getA P (<- ev C P e ρ) a
 | .call f args kn kv,ρ=>do
  let fv <- ev C P f ρ
  let vs <- evs C P args ρ
  let ks <- evs C P kv ρ
  chkIt (<- callV C P fv vs (kn.zip ks))
 | .meth e m args kn kv,ρ=>do
  let o <- ev C P e ρ
  let mt <- methOf P o m
  let vs <- evs C P args ρ
  let ks <- evs C P kv ρ
  chkIt (<- callMt C mt vs (kn.zip ks))
 | .sub e i,ρ=>do
  let o <- ev C P e ρ
  let k <- ev C P i ρ
  getItem C P o k
 | .bin op a b,ρ=>do
  let x <- ev C P a ρ
  let y <- ev C P b ρ
  binOp op x y
 | .neg a,ρ=>do
  let i <- asInt (<- ev C P a ρ)
  pure (.int (-i))
 | .not a,ρ=>do pure (.bool (!(<- truthy C P (<- ev C P a ρ))))
 | .cmp op a b,ρ=>do
  let x <- ev C P a ρ
  let y <- ev C P b ρ
  cmpOp C P op x y
 | .cmp2 a op1 b op2 c,ρ=>do
  let x <- ev C P a ρ
  let y <- ev C P b ρ
  let r <- asBool (<- cmpOp C P op1 x y)
  if r then do
   let z <- ev C P c ρ
   cmpOp C P op2 y z
  else pure (.bool false)
 | .and a b,ρ=>do
  let x <- ev C P a ρ
  if <- truthy C P x then ev C P b ρ else pure x
 | .ite t a b,ρ=>do
  if <- evT C P t ρ then ev C P a ρ else ev C P b ρ
 | .tup es,ρ=>do pure (.tup (<- evs C P es ρ))
 | .lst es,ρ=>do pure (.ref (<- alloc (.list (<- evs C P es ρ))))
 | .dict0,_=>do pure (.ref (<- alloc (.dict [])))
 | .comp n free elt tgt iter ifs,ρ=>do
  let a <- compM C P (ev C P iter ρ) (λ σ=>ev C P elt σ) (λ σ=>evTests C P ifs σ) n free tgt ρ
  pure (.ref a)
 | .truth _,_=>stuck
 | .or _ _,_=>stuck
noncomputable def evT (C:CallT) (P:Prog):X->Lo->M Bool
 | .not a,ρ=>do pure (!(<- evT C P a ρ))
 | .truth a,ρ=>do truthy C P (<- ev C P a ρ)
 | .cmp op a b,ρ=>do
  let x <- ev C P a ρ
  let y <- ev C P b ρ
  asBool (<- cmpOp C P op x y)
 | .and a b,ρ=>do if <- evT C P a ρ then evT C P b ρ else pure false
 | .or a b,ρ=>do if <- evT C P a ρ then pure true else evT C P b ρ
 | _,_=>stuck
noncomputable def evs (C:CallT) (P:Prog):List X->Lo->M (List V)
 | [],_=>pure []
 | e :: r,ρ=>do
  let v <- ev C P e ρ
  let vs <- evs C P r ρ
  pure (v :: vs)
noncomputable def evTests (C:CallT) (P:Prog):List X->Lo->M Bool
 | [],_=>pure true
 | e :: r,ρ=>do
  if <- evT C P e ρ then evTests C P r ρ else pure false
end
inductive Fl where
 | nx | rt (v:V)
noncomputable def forLoop (body:Lo->M (Fl × Lo)) (tgt:NT) (l:Option Nat) (all:List V):Nat->Nat->Lo->M (Fl × Lo)
 | 0,_,ρ=>do
  still l all
  pure (.nx,ρ)
 | k + 1,i,ρ=>do
  let v <- curItem l all i
  let ρ <- bindNT tgt v ρ
  let (f,ρ) <- body ρ
  match f with
  | .rt v=>pure (.rt v,ρ)
  | .nx=>forLoop body tgt l all k (i + 1) ρ
noncomputable def asg (C:CallT) (P:Prog) (t:T) (v:V) (ρ:Lo):M Lo:=match t with
 | .n i=>pure {ρ with loc:=ρ.loc.set i (some v) }
 | .c i=>do
  let l <- ofO (<- ofO ρ.cel[i]?)
  let _ <- ofO (oCell (<- getO l))
  setO l (.cell (some v))
  pure ρ
 | .attr e a=>do
  let o <- ev C P e ρ
  setA P o a v
  pure ρ
 | .sub e i=>do
  let o <- ev C P e ρ
  let k <- ev C P i ρ
  setItem C P o k v
  pure ρ
mutual
noncomputable def exs (C D:CallT) (P:Prog):List S->Lo->M (Fl × Lo)
 | [],ρ=>pure (.nx,ρ)
 | s :: r,ρ=>do
  let (f,ρ) <- exe C D P s ρ
  match f with
  | .nx=>exs C D P r ρ
  | .rt v=>pure (.rt v,ρ)
noncomputable def exe (C D:CallT) (P:Prog):S->Lo->M (Fl × Lo)
 | .expr e,ρ=>do
  let _ <- ev C P e ρ
  pure (.nx,ρ)
 | .assign t e,ρ=>do
  let v <- ev C P e ρ
  let ρ <- asg C P t v ρ
  pure (.nx,ρ)
 | .unpack is e,ρ=>if P.hd then stuck else do
  let vs <- ofO (vTup (<- ev C P e ρ))
  let ρ <- bindIs is vs ρ
  pure (.nx,ρ)
 | .augSub o i op e,ρ=>do
  let ov <- ev C P o ρ
  let iv <- ev C P i ρ
  let a <- getD ov iv
  let b <- ev C P e ρ
  let c <- augOp op a b
  setItem C P ov iv c
  pure (.nx,ρ)
 | .ret e,ρ=>do pure (.rt (<- ev C P e ρ),ρ)
 | .retIter e,ρ=>do
  let v <- ev C P e ρ
  let k <- openIt C P v
  pure (.rt (.it k),ρ)
 | .ite t a b,ρ=>do
  if <- evT C P t ρ then exs C D P a ρ else exs C D P b ρ
 | .for_ t e body,ρ=>do
  let v <- ev C P e ρ
  let (l,items) <- iterOf C P v
  noEx (forLoop (λ σ=>exs C D P body σ) t l items items.length 0 ρ)
 | .bad,_=>stuck
 | .tryTE a b c hd,ρ=>λh=>
  match (do if <- evT C P a ρ then ev C P b ρ else ev C P c ρ:M V) h with
  | .ok v h'=> .ok (.rt v,ρ) h'
  | .ex h'=>noEx (exs D D {P with hd:=true} hd ρ) h'
  | .no=> .no
end
noncomputable def bindAt (f:Fn) (args:List V) (kw:List (Str × V)) (j:Nat) (name:Str):Option V:=
 match args[j]? with
 | some v=>some v
 | none=>match kw.lookup name with
  | some v=>some v
  | none=>if f.params.length<=j + f.dflt.length then f.dflt[j + f.dflt.length - f.params.length]? else none
noncomputable def bindFrom (f:Fn) (args:List V) (kw:List (Str × V)):Nat->List Str->Option (List V)
 | _,[]=>some []
 | j,x :: r=>(bindAt f args kw j x).bind λv=>(bindFrom f args kw (j + 1) r).map λvs=>v :: vs
noncomputable def bindArgs (f:Fn) (args:List V) (kw:List (Str × V)):Option (List V) :=
 if args.length<=f.params.length/\kw.all (λp=>(f.params.drop args.length).contains p.1)/\(kw.map (·.1)).Nodup then bindFrom f args kw 0 f.params else none
noncomputable def ownCells:List Nat->List (Nat × V)->List (Option Nat)->M (List (Option Nat))
 | [],_,cs=>pure cs
 | i :: r,vs,cs=>do
  let l <- alloc (.cell (vs.lookup i))
  ownCells r vs (cs.set i (some l))
noncomputable def enter (f:Fn) (cs:List (Nat × Nat)) (vals:List V):M Lo:=do
 let pv:=f.pix.zip vals
 let cel:=cs.foldl (λl p=>l.set p.1 (some p.2)) (List.replicate f.nsl none)
 let cel <- ownCells f.own pv cel
 pure {loc:=pv.foldl (λl p=>if f.own.contains p.1 then l else l.set p.1 (some p.2)) (List.replicate f.nsl none),cel:=cel}
noncomputable def flV:Fl->V
 | .rt v=>v
 | .nx=> .none
noncomputable def run:Nat->Prog->CallT
 | 0,_=>λ_ _ _ _=>stuck
 | n + 1,P=>λk cs args kw=>do
  let f <- ofO (<- ofO P.fns[k]?)
  let vs <- ofO (bindArgs f args kw)
  noEx (do
   let ρ <- enter f cs vs
   let r <- exs (run n P) (run n {P with hd:=true}) P f.body ρ
   pure (flV r.1))
set_option backward.match.sparseCases true
set_option backward.match.sparseCases false
structure Ctx where
 names:List (Str × NameKind)
 gl:List (Str × G)
 at_:List Str
noncomputable def idxIn (x:Str):List (Str × NameKind)->Option Nat
 | []=>none
 | p :: r=>if p.1=x then some 0 else(idxIn x r).map (· + 1)
noncomputable def ownOf':Nat->List (Str × NameKind)->List Nat
 | _,[]=> []
 | i,(_,k) :: r=>if k= .cell then i :: ownOf' (i + 1) r else ownOf' (i + 1) r
noncomputable def plainScope (s:Scope):Bool:=s.kind == .function && !s.isGenerator && !s.isCoroutine
set_option backward.match.sparseCases true in
noncomputable def isStar:Expr->Bool
 | .Starred .. =>true
 | _=>false
noncomputable def isSlice:Expr->Bool
 | .Slice .. =>true
 | _=>false
inductive Tg where
 | name | const | attr | call | sub | bin | un | cmp | bool | ite | tup | lst | dict | comp | oth
 deriving DecidableEq
structure Sh where
 t:Tg
 p:Pos
 s:Str:=default
 k:Nat:=0
 c:Const:= .none
 op:Operator:= .Add
 u:UnaryOp:= .Not
 b:BoolOp:= .And
 ops:List CmpOp:= []
 kws:List Keyword:= []
 e1:Expr:=default
 e2:Expr:=default
 e3:Expr:=default
 es:List Expr:= []
 gens:List Comprehension:= []
 sc:Scope:=default
noncomputable def sh:Expr->Sh
 | .Name x p=> {t:= .name,p,s:=x}
 | .Constant c k p=> {t:= .const,p,c,k}
 | .Attribute o a p=> {t:= .attr,p,s:=a,e1:=o}
 | .Call f as ks p=> {t:= .call,p,e1:=f,es:=as,kws:=ks}
 | .Subscript o i p=> {t:= .sub,p,e1:=o,e2:=i}
 | .BinOp a op b p=> {t:= .bin,p,e1:=a,op,e2:=b}
 | .UnaryOp u a p=> {t:= .un,p,u,e1:=a}
 | .Compare a ops bs p=> {t:= .cmp,p,e1:=a,ops,es:=bs}
 | .BoolOp b es p=> {t:= .bool,p,b,es}
 | .IfExp a b c p=> {t:= .ite,p,e1:=a,e2:=b,e3:=c}
 | .Tuple es k p=> {t:= .tup,p,es,k}
 | .List es p=> {t:= .lst,p,es}
 | .Dict [] [] p=> {t:= .dict,p}
 | .ListComp e gens sc p=> {t:= .comp,p,e1:=e,gens,sc}
 | _=> {t:= .oth,p:=default}
noncomputable def Sh.is (q:Sh) (e:Expr):Tg->Prop
 | .name=>e= .Name q.s q.p
 | .const=>e= .Constant q.c q.k q.p
 | .attr=>e= .Attribute q.e1 q.s q.p
 | .call=>e= .Call q.e1 q.es q.kws q.p
 | .sub=>e= .Subscript q.e1 q.e2 q.p
 | .bin=>e= .BinOp q.e1 q.op q.e2 q.p
 | .un=>e= .UnaryOp q.u q.e1 q.p
 | .cmp=>e= .Compare q.e1 q.ops q.es q.p
 | .bool=>e= .BoolOp q.b q.es q.p
 | .ite=>e= .IfExp q.e1 q.e2 q.e3 q.p
 | .tup=>e= .Tuple q.es q.k q.p
 | .lst=>e= .List q.es q.p
 | .dict=>e= .Dict [] [] q.p
 | .comp=>e= .ListComp q.e1 q.gens q.sc q.p
 | .oth=>True
set_option tactic.hygienic true in
theorem sh_spec (e:Expr):(sh e).is e (sh e).t:=by
 cases e
 case Dict ks vs p=>rcases ks with _ | ⟨_,_⟩ <;> rcases vs with _ | ⟨_,_⟩ <;> first | exact rfl | exact True.intro
 all_goals first | exact rfl | exact True.intro
theorem sh_plain {e:Expr} (h:(sh e).t≠ .oth):isStar e=false/\isSlice e=false:=by
 cases e <;> first | exact⟨rfl,rfl⟩ | exact absurd rfl h
theorem sh_set {e:Expr} (h:(sh e).t≠ .oth) (env:Env) (v:Value):foldedSetIterable e env v=pure v:=by
 cases e <;> first | rfl | exact absurd rfl h
theorem sh_swaps {e:Expr}{env:Env}{t:Option Expr}{line:Nat} (h:(sh e).t≠ .oth) (hc:(sh e).t≠ .comp):swapsWith e t line env=pure false:=by
 cases e <;> first | rfl | exact absurd rfl h | exact absurd rfl hc
theorem sh_sup {e:Expr} (name:Str) (env:Env) (w:Sem Value) (h:(sh e).t≠ .call):attributeBase e name env w=w:=by
 cases e <;> first | rfl | exact absurd rfl h
noncomputable def isComp:X->Bool
 | .comp _ _ _ _ _ _=>true
 | _=>false
noncomputable def isGlob:X->Bool
 | .glob _=>true
 | _=>false
noncomputable def ckC (c:Const):X->Bool
 | .none=>decide (c= .none)
 | .bool b=>decide (c= .bool b)
 | .int i=>decide (c= .int i)
 | .str s=>decide (c= .str s)
 | _=>false
noncomputable def ckN (c:Ctx) (x:Str) (i:Nat) (k:NameKind):Bool:=decide (c.names.lookup x=some k) && decide (idxIn x c.names=some i) && !(x == ("__debug__" :Str)) && !(x == ("__classdict__" :Str))
noncomputable def ckL {α β:Type} (f:α->β->Bool):List α->List β->Bool
 | [],es=>es.isEmpty
 | x :: xs,es=>match es with
  | []=>false
  | e :: r=>f x e && ckL f xs r
noncomputable def ckT (f:X->Expr->Bool):Nat->X->Expr->Bool
 | 0,_,_=>false
 | m + 1,x,e=>match x with
  | .not y=>decide ((sh e).t= .un) && decide ((sh e).u= .Not) && ckT f m y (sh e).e1
  | .truth y=>(decide ((sh e).t= .name) || decide ((sh e).t= .attr) || decide ((sh e).t= .call) || decide ((sh e).t= .sub)) && f y e
  | .cmp a b d=>decide ((sh e).t= .cmp) && f (.cmp a b d) e
  | .and y z=>decide ((sh e).t= .bool) && decide ((sh e).b= .And) && ckL (ckT f m) [y,z] (sh e).es
  | .or y z=>decide ((sh e).t= .bool) && decide ((sh e).b= .Or) && ckL (ckT f m) [y,z] (sh e).es
  | _=>false
noncomputable def ckLoc (c:Ctx) (i:Nat) (e:Expr):Bool:=decide ((sh e).t= .name) && ckN c (sh e).s i .local
noncomputable def ckNT (c:Ctx) (e:Expr):NT->Bool
 | .n i=>ckLoc c i e
 | .t is=>decide ((sh e).t= .tup) && decide is.Nodup && ckL (ckLoc c) is (sh e).es
noncomputable def cellish (k:NameKind):Bool:=decide (k= .cell) || decide (k= .free)
noncomputable def ckFree (outer inner:List (Str × NameKind)) (free:List (Nat × Nat)):Bool:=
 free.all (λp=>(inner[p.1]?).any λa=>(outer[p.2]?).any λb=>decide (a.1=b.1) && decide (a.2= .free) && cellish b.2) &&
 inner.all λa=>decide (a.2≠ .cell) && (decide (a.2≠ .free) || outer.any λb=>decide (b.1=a.1) && cellish b.2)
noncomputable def ckComp (rec:Ctx->X->Expr->Bool) (c:Ctx) (nn:Nat) (free:List (Nat × Nat)) (y:X) (u:NT) (xi:X) (fs:List X) (q:Sh) (g:Comprehension):Bool:=
 decide (g.is_async=0) && plainScope q.sc && decide (nn=q.sc.names.length) && decide (q.sc.names.map (·.1)).Nodup && ckFree c.names q.sc.names free &&
 (rec c xi g.iter && ckNT {c with names:=q.sc.names} g.target u && rec {c with names:=q.sc.names} y q.e1 && ckL (ckT (rec {c with names:=q.sc.names}) 9) fs g.ifs)
noncomputable def ckArgs (f:X->Expr->Bool) (as:List X) (kn:List Str) (kv:List X) (q:Sh):Bool:=
 ckL f as q.es && decide (q.kws.map (·.arg)=kn.map some) && ckL f kv (q.kws.map (·.value))
noncomputable def ck1 (rec:Ctx->X->Expr->Bool) (c:Ctx) (e:Expr):X->Bool
 | .loc i=>decide ((sh e).t= .name) && ckN c (sh e).s i .local
 | .cel i=>decide ((sh e).t= .name) && (ckN c (sh e).s i .cell || ckN c (sh e).s i .free)
 | .glob g=>decide ((sh e).t= .name) && decide (c.names.lookup (sh e).s=some .globalImplicit) && decide (c.gl.lookup (sh e).s=some g) && !((sh e).s == ("__debug__" :Str))
 | .attr y a=>decide ((sh e).t= .attr) && rec c y (sh e).e1 && decide (c.at_[a]? =some (sh e).s) && decide ((sh (sh e).e1).t≠ .call)
 | .call y as kn kv=>decide ((sh e).t= .call) && isGlob y && decide ((sh (sh e).e1).t= .name) && rec c y (sh e).e1 && ckArgs (rec c) as kn kv (sh e)
 | .meth y m as kn kv=>decide ((sh e).t= .call) && decide ((sh (sh e).e1).t= .attr) && decide ((sh (sh e).e1).p.endLine=(sh e).p.line) && decide ((sh e).es.length + (sh e).kws.length<=20) &&
  decide ((sh (sh (sh e).e1).e1).t≠ .call) && rec c y (sh (sh e).e1).e1 && decide (c.at_[m]? =some (sh (sh e).e1).s) && ckArgs (rec c) as kn kv (sh e)
 | .sub y i=>decide ((sh e).t= .sub) && rec c y (sh e).e1 && rec c i (sh e).e2
 | .bin op a b=>decide ((sh e).t= .bin) && decide ((sh e).op=op) && rec c a (sh e).e1 && rec c b (sh e).e2
 | .neg a=>decide ((sh e).t= .un) && decide ((sh e).u= .USub) && rec c a (sh e).e1
 | .not a=>decide ((sh e).t= .un) && decide ((sh e).u= .Not) && rec c a (sh e).e1
 | .cmp op a b=>decide ((sh e).t= .cmp) && decide ((sh e).ops= [op]) && rec c a (sh e).e1 && ckL (λy d=> !behindInMarks op d && rec c y d) [b] (sh e).es
 | .cmp2 a o1 b o2 d=>decide ((sh e).t= .cmp) && decide ((sh e).ops= [o1,o2]) && rec c a (sh e).e1 && ckL (rec c) [b,d] (sh e).es && !lastMarks [o1,o2] (sh e).es
 | .and y z=>decide ((sh e).t= .bool) && decide ((sh e).b= .And) && (match (sh e).es with
  | []=>false
  | a :: r=>rec c y a && (match r with
   | []=>false
   | b :: r'=>(if r'.isEmpty then rec c z b else rec c z (.BoolOp .And (b :: r') (sh e).p))))
 | .ite t a b=>decide ((sh e).t= .ite) && ckT (rec c) 9 t (sh e).e1 && rec c a (sh e).e2 && rec c b (sh e).e3
 | .tup es=>decide ((sh e).t= .tup) && decide (es.length<=100) && ckL (rec c) es (sh e).es
 | .lst es=>decide ((sh e).t= .lst) && decide (es.length<=100) && ckL (rec c) es (sh e).es
 | .dict0=>decide ((sh e).t= .dict)
 | .comp nn free y u xi fs=>decide ((sh e).t= .comp) && ckL (λ (_:Unit) g=>ckComp rec c nn free y u xi fs (sh e) g) [()] (sh e).gens
 | x=>decide ((sh e).t= .const) && ckC (sh e).c x
noncomputable def ck:Nat->Ctx->X->Expr->Bool
 | 0,_,_,_=>false
 | n + 1,c,x,e=>decide ((sh e).t≠ .oth) && ck1 (ck n) c e x
inductive TgS where
 | expr | ret | asg | aug | ite | for_ | try_ | oth
 deriving DecidableEq
structure ShS where
 t:TgS
 p:Pos
 e1:Expr:=default
 e2:Expr:=default
 op:Operator:= .Add
 s1:List Stmt:= []
 s2:List Stmt:= []
 s3:List Stmt:= []
 hd:List ExceptHandler:= []
noncomputable def shS:Stmt->ShS
 | .Expr e p=> {t:= .expr,p,e1:=e}
 | .Return (some e) p=> {t:= .ret,p,e1:=e}
 | .Assign [t] e p=> {t:= .asg,p,e1:=t,e2:=e}
 | .AugAssign t op e p=> {t:= .aug,p,e1:=t,op,e2:=e}
 | .If t a b p=> {t:= .ite,p,e1:=t,s1:=a,s2:=b}
 | .For t e a b p=> {t:= .for_,p,e1:=t,e2:=e,s1:=a,s2:=b}
 | .Try a h b d p=> {t:= .try_,p,s1:=a,hd:=h,s2:=b,s3:=d}
 | _=> {t:= .oth,p:=default}
noncomputable def ShS.is (q:ShS) (s:Stmt):TgS->Prop
 | .expr=>s= .Expr q.e1 q.p
 | .ret=>s= .Return (some q.e1) q.p
 | .asg=>s= .Assign [q.e1] q.e2 q.p
 | .aug=>s= .AugAssign q.e1 q.op q.e2 q.p
 | .ite=>s= .If q.e1 q.s1 q.s2 q.p
 | .for_=>s= .For q.e1 q.e2 q.s1 q.s2 q.p
 | .try_=>s= .Try q.s1 q.hd q.s2 q.s3 q.p
 | .oth=>True
set_option tactic.hygienic true in
theorem shS_spec (s:Stmt):(shS s).is s (shS s).t:=by
 cases s
 case Return oe p=>cases oe <;> first | exact rfl | exact True.intro
 case Assign ts e p=>rcases ts with _ | ⟨t,_ | ⟨_,_⟩⟩ <;> first | exact rfl | exact True.intro
 all_goals first | exact rfl | exact True.intro
noncomputable def ckG (c:Ctx) (e:Expr):T->Bool
 | .n i=>decide ((sh e).t= .name) && ckN c (sh e).s i .local
 | .c i=>decide ((sh e).t= .name) && ckN c (sh e).s i .cell
 | .attr x a=>decide ((sh e).t= .attr) && ck 30 c x (sh e).e1 && decide (c.at_[a]? =some (sh e).s)
 | .sub x i=>decide ((sh e).t= .sub) && ck 30 c x (sh e).e1 && ck 30 c i (sh e).e2
noncomputable def ckSw (c:Ctx) (x:X) (is:List Nat) (t e:Expr):Bool:=
 decide ((sh t).t= .tup) && decide ((sh e).t= .tup) && ck 30 c x e && !(sh e).es.all (constantsAlone 8) && decide ((sh e).es.length=2) && !(sh e).es.any isStar && !(sh e).es.all (foldedForSure 8) &&
 ckL (ckLoc c) is (sh t).es && decide (((sh t).es.map λd=>(sh d).p.line)=List.replicate 2 (sh (sh t).es.head!).p.line) && decide ((sh t).es.map λd=>(sh d).s).Nodup
noncomputable def ckTry (rec:S->Stmt->Bool) (c:Ctx) (x y z:X) (hs:List S) (q:ShS):Bool:=
 match q.s1,q.hd with
 | [s1,s2],[⟨some te,none,b,_⟩]=>q.s2.isEmpty && q.s3.isEmpty && decide ((shS s1).t= .ite) && ckT (ck 30 c) 9 x (shS s1).e1 && ckL (λ (_:Unit) r=>decide ((shS r).t= .ret) && ck 30 c y (shS r).e1) [()] (shS s1).s1 && (shS s1).s2.isEmpty &&
  decide ((shS s2).t= .ret) && ck 30 c z (shS s2).e1 && decide ((sh te).t= .name) && decide ((sh te).s=("TypeError" :Str)) && decide (c.names.lookup ("TypeError" :Str)=some .globalImplicit) && !b.isEmpty && ckL rec hs b
 | _,_=>false
noncomputable def ckS1 (rec:S->Stmt->Bool) (c:Ctx) (s:Stmt):S->Bool
 | .expr x=>decide ((shS s).t= .expr) && decide ((sh (shS s).e1).t≠ .comp) && ck 30 c x (shS s).e1
 | .ret x=>decide ((shS s).t= .ret) && ck 30 c x (shS s).e1
 | .retIter x=>decide ((shS s).t= .ret) && decide ((sh (shS s).e1).t= .call) && decide ((sh (sh (shS s).e1).e1).t= .name) && ck 30 c (.glob (.bi .iter)) (sh (shS s).e1).e1 && (sh (shS s).e1).kws.isEmpty && ckL (ck 30 c) [x] (sh (shS s).e1).es
 | .assign g x=>decide ((shS s).t= .asg) && ckG c (shS s).e1 g && ck 30 c x (shS s).e2 && (decide ((sh (shS s).e2).t≠ .comp) || isComp x)
 | .unpack is x=>decide ((shS s).t= .asg) && ckSw c x is (shS s).e1 (shS s).e2
 | .augSub o i op x=>decide ((shS s).t= .aug) && decide ((shS s).op=op) && decide ((sh (shS s).e1).t= .sub) && ck 30 c o (sh (shS s).e1).e1 && ck 30 c i (sh (shS s).e1).e2 && ck 30 c x (shS s).e2
 | .ite t a b=>decide ((shS s).t= .ite) && ckT (ck 30 c) 9 t (shS s).e1 && ckL rec a (shS s).s1 && ckL rec b (shS s).s2
 | .for_ u x b=>decide ((shS s).t= .for_) && ckNT c (shS s).e1 u && ck 30 c x (shS s).e2 && ckL rec b (shS s).s1 && (shS s).s2.isEmpty
 | .tryTE x y z hs=>decide ((shS s).t= .try_) && ckTry rec c x y z hs (shS s)
 | .bad=>true
noncomputable def ckS:Nat->Ctx->S->Stmt->Bool
 | 0,_,_,_=>false
 | n + 1,c,x,s=>ckS1 (ckS n c) c s x
noncomputable def ckB (c:Ctx) (xs:List S) (b:List Stmt):Bool:=ckL (ckS 20 c) xs b
set_option backward.match.sparseCases true
noncomputable def notCell (o:Obj):Bool:=match o.data with
 | .cell _=>false
 | _=>true
noncomputable def frz0 (o:Obj):Bool:=notCell o && (o.cls == .type "tuple" || o.cls == .type "range" || o.cls == .type "method" || o.cls == .type "set")
noncomputable def itr (o:Obj):Bool:=notCell o && (o.cls == .type "list_iterator" || o.cls == .type "tuple_iterator" || o.cls == .type "range_iterator")
noncomputable def frz (o:Obj):Bool:=frz0 o || itr o
noncomputable def used (o:Obj):Bool:=match o.data with
 | .fields vs=>(match vs.toList with
  | [_, .int i _]=>decide (0 < i)
  | _=>true)
 | _=>false
theorem frz_dict {o:Obj} (h:o.cls= .type "dict"):frz o=false:=by
 unfold frz frz0 itr
 rw [h]
 cases notCell o <;> rfl
theorem frz_cell {o:Obj}{v:Option Value} (h:o.data= .cell v):frz o=false:=by unfold frz frz0 itr notCell;rw [h];rfl
noncomputable def kept (o:Obj):Bool:=frz0 o || (itr o && used o)
theorem kept_frz {o:Obj} (h:kept o=true):frz o=true:=by
 unfold kept at h
 unfold frz
 cases h1:frz0 o
 ·rw [h1,Bool.false_or,Bool.and_eq_true] at h;rw [h.1];rfl
 ·rfl
noncomputable abbrev tupO (its:Array Value) (n:Nat):Obj:=seqObj "tuple" its n
noncomputable abbrev rngO (a b:Int) (t u v:Tok):Obj:={cls:= .type "range",dict:=none,data:= .fields #[.int a t, .int b u, .int 1 v],slots:= #[] }
structure Tabs where
 prog:Program
 w:World
 ca:Nat->Option Addr
 fa:Nat->Option Addr
 sa:Option Addr
 nm:List Str
noncomputable def bval:B->Value
 | .len=> .builtin "len" | .range=> .type "range" | .sorted=> .builtin "sorted" | .set=> .type "set" | .int=> .type "int" | .isinstance=> .builtin "isinstance"
 | .max=> .builtin "max" | .abs=> .builtin "abs" | .iter=> .builtin "iter" | .bool=> .type "bool" | .tstr=> .type "str"
noncomputable abbrev Phi:=List (Addr × Addr)
noncomputable abbrev Nws:=List (Addr × Obj)
noncomputable def hashItem (w:World):V->Int
 | .int i=>hashInt i
 | .str x=>hashStr w x
 | _=>0
noncomputable def hashKey (w:World):V->Int
 | .tup vs=>reduceHash (Builtin.Tuple.tupleHashOf (vs.map (hashItem w)))
 | v=>hashItem w v
noncomputable def byText (w:World):Bool:=w.params.followText "set-order"
noncomputable abbrev setObj (es:Array (Int × Value)) (ep:Nat) (t:SetTable):Obj:={cls:= .type "set",dict:=none,data:= .set es ep t,slots:= #[] }
structure SetOK (w:World) (es:Array (Int × Value)) (t:SetTable) (evs vs:List V):Prop where
 tab:TabOK es t
 room:es.size * 5 < t.mask * 3
 small:es.size<=63
 led:t.led= !byText w
 perm:evs.Perm vs
 flat: ∀v∈evs,isFlat v=true
 hash:es.toList.map (·.1)=evs.map (hashKey w)
theorem nos {α:Type}{a:α}{G:Prop} (h:(none:Option α)=some a):G:=by injection h
inductive All2 {α β:Type} (R:α->β->Prop):List α->List β->Prop
 | nil:All2 R [] []
 | cons {a:α}{as:List α}{b:β}{bs:List β}:R a b->All2 R as bs->All2 R (a :: as) (b :: bs)
theorem All2.length {α β:Type}{R:α->β->Prop}{as:List α}{bs:List β} (h:All2 R as bs):as.length=bs.length:=by
 induction h with
 | nil=>rfl
 | cons _ _ ih=>exact congrArg (· + 1) ih
theorem All2.get {α β:Type}{R:α->β->Prop}{as:List α}{bs:List β} (h:All2 R as bs): ∀ {i:Nat}{a:α},as[i]? =some a->∃b,bs[i]? =some b/\R a b:=by
 induction h with
 | nil=>intro i a e;exact nomatch e
 | cons r _ ih=>
  intro i a e
  cases i with
  | zero=>exact⟨_,rfl,Option.some.inj e▸r⟩
  | succ i=>exact ih e
theorem All2.of_get {α β:Type}{R:α->β->Prop}: ∀ {as:List α}{bs:List β},as.length=bs.length->(∀ (i:Nat) (a:α) (b:β),as[i]? =some a->bs[i]? =some b->R a b)->All2 R as bs:=by
 intro as
 induction as with
 | nil=>intro bs hl _;cases bs with
  | nil=>exact .nil
  | cons _ _=>exact nomatch hl
 | cons a as ih=>intro bs hl h;cases bs with
  | nil=>exact nomatch hl
  | cons b bs=>exact .cons (h 0 a b rfl rfl) (ih (Nat.succ.inj hl) λi=>h (i + 1))
theorem All2.mono {α β:Type}{R R':α->β->Prop}{as:List α}{bs:List β} (h:All2 R as bs) (k: ∀a b,R a b->R' a b):All2 R' as bs:=by
 induction h with
 | nil=>exact .nil
 | cons r _ ih=>exact .cons (k _ _ r) ih
theorem All2.append {α β:Type}{R:α->β->Prop}{as:List α}{bs:List β}{cs:List α}{ds:List β} (h:All2 R as bs) (h2:All2 R cs ds):All2 R (as ++ cs) (bs ++ ds):=by
 induction h with
 | nil=>exact h2
 | cons r _ ih=>exact .cons r ih
theorem All2.nil_inv {α β:Type}{R:α->β->Prop}{bs:List β} (h:All2 R [] bs):bs= []:=by cases h;rfl
theorem All2.cons_inv {α β:Type}{R:α->β->Prop}{a:α}{as:List α}{bs:List β} (h:All2 R (a :: as) bs): ∃b bs',bs=b :: bs'/\R a b/\All2 R as bs':=by
 cases h with
 | cons r h=>exact⟨_,_,rfl,r,h⟩
inductive VRel (τ:Tabs) (φ:Phi) (news:Nws):V->Value->Prop
 | none:VRel τ φ news .none .none
 | bool (b:Bool):VRel τ φ news (.bool b) (.bool b)
 | int (i:Int) (t:Tok):VRel τ φ news (.int i) (.int i t)
 | str (s:Str) (t:Tok):VRel τ φ news (.str s) (.str s t)
 | tup0 {vs:List V}{a:Addr}{its:Array Value}{n:Nat}:(a,tupO its n)∈news->vs.length=its.toList.length->(∀ (i:Nat) (v:V) (x:Value),vs[i]? =some v->its.toList[i]? =some x->VRel τ φ news v x)->VRel τ φ news (.tup vs) (.ref a)
 | ref {l:Nat}{p:Addr × Addr}:φ[l]? =some p->VRel τ φ news (.ref l) (.ref p.1)
 | cls {k:Nat}{C:Addr}:τ.ca k=some C->VRel τ φ news (.g (.cls k)) (.ref C)
 | fn {k:Nat}{f:Addr}:τ.fa k=some f->VRel τ φ news (.g (.fn k)) (.ref f)
 | bi (b:B):VRel τ φ news (.g (.bi b)) (bval b)
 | rng {a:Addr}{x y:Int}{t u v:Tok}:(a,rngO x y t u v)∈news->VRel τ φ news (.rng x y) (.ref a)
 | set0 {vs evs:List V}{a:Addr}{es:Array (Int × Value)}{ep:Nat}{t:SetTable}:(a,setObj es ep t)∈news->SetOK τ.w es t evs vs->evs.length=(es.toList.map (·.2)).length->(∀ (i:Nat) (v:V) (x:Value),evs[i]? =some v->(es.toList.map (·.2))[i]? =some x->VRel τ φ news v x)->VRel τ φ news (.set vs) (.ref a)
 | scr {a:Addr}:τ.sa=some a->VRel τ φ news .scr (.ref a)
noncomputable abbrev VRels (τ:Tabs) (φ:Phi) (news:Nws):List V->List Value->Prop:=All2 (VRel τ φ news)
section
variable {τ:Tabs}{φ:Phi}{news:Nws}
theorem VRels.each {vs:List V}{xs:List Value} (h:VRels τ φ news vs xs): ∀ (i:Nat) (v:V) (x:Value),vs[i]? =some v->xs[i]? =some x->VRel τ φ news v x:=λi v x e e'=>
 (h.get e).elim λ_ q=>Option.some.inj (q.1.symm.trans e')▸q.2
theorem VRel.tup {vs:List V}{a:Addr}{its:Array Value}{n:Nat} (h:(a,tupO its n)∈news) (hs:VRels τ φ news vs its.toList):VRel τ φ news (.tup vs) (.ref a):= .tup0 h hs.length hs.each
theorem VRel.set {vs evs:List V}{a:Addr}{es:Array (Int × Value)}{ep:Nat}{t:SetTable} (h:(a,setObj es ep t)∈news) (ok:SetOK τ.w es t evs vs) (hs:VRels τ φ news evs (es.toList.map (·.2))):VRel τ φ news (.set vs) (.ref a):= .set0 h ok hs.length hs.each
end
noncomputable def VInv (τ:Tabs) (φ:Phi) (news:Nws) (v:V) (p:Value):Prop:=match v with
 | .none=>p= .none
 | .bool b=>p= .bool b
 | .int i=>∃t,p= .int i t
 | .str s=>∃t,p= .str s t
 | .tup vs=>∃ (a:Addr) (its:Array Value) (n:Nat),p= .ref a/\(a,tupO its n)∈news/\VRels τ φ news vs its.toList
 | .ref l=>∃q:Addr × Addr,p= .ref q.1/\φ[l]? =some q
 | .g (.cls k)=>∃C,p= .ref C/\τ.ca k=some C
 | .g (.fn k)=>∃C,p= .ref C/\τ.fa k=some C
 | .g (.bi b)=>p=bval b
 | .rng x y=>∃ (a:Addr) (t u v:Tok),p= .ref a/\(a,rngO x y t u v)∈news
 | .set vs=>∃ (a:Addr) (es:Array (Int × Value)) (ep:Nat) (t:SetTable) (evs:List V),p= .ref a/\(a,setObj es ep t)∈news/\SetOK τ.w es t evs vs/\VRels τ φ news evs (es.toList.map (·.2))
 | .it _=>False
 | .scr=>∃a,p= .ref a/\τ.sa=some a
theorem VRel.inv {τ:Tabs}{φ:Phi}{news:Nws}{v:V}{p:Value} (r:VRel τ φ news v p):VInv τ φ news v p:=
 VRel.rec (motive:=λv p _=>VInv τ φ news v p) rfl (λ_=>rfl) (λ_ t=>⟨t,rfl⟩) (λ_ t=>⟨t,rfl⟩) (λh1 hl h2 _=>⟨_,_,_,rfl,h1, .of_get hl h2⟩) (λh=>⟨_,rfl,h⟩) (λh=>⟨_,rfl,h⟩) (λh=>⟨_,rfl,h⟩) (λ_=>rfl)
  (λh=>⟨_,_,_,_,rfl,h⟩) (λh1 ok hl h2 _=>⟨_,_,_,_,_,rfl,h1,ok, .of_get hl h2⟩) (λh=>⟨_,rfl,h⟩) r
theorem vRef_eq {v:V}{l:Nat} (h:vRef v=some l):v= .ref l:=by
 cases v <;> first | exact nos h | exact Option.some.inj h▸rfl
theorem vInt_eq {v:V}{i:Int} (h:vInt v=some i):v= .int i:=by
 cases v <;> first | exact nos h | exact Option.some.inj h▸rfl
theorem vBool_eq {v:V}{b:Bool} (h:vBool v=some b):v= .bool b:=by
 cases v <;> first | exact nos h | exact Option.some.inj h▸rfl
theorem vTup_eq {v:V}{vs:List V} (h:vTup v=some vs):v= .tup vs:=by
 cases v <;> first | exact nos h | exact Option.some.inj h▸rfl
theorem vIt_eq {v:V}{l:Nat} (h:vIt v=some l):v= .it l:=by
 cases v <;> first | exact nos h | exact Option.some.inj h▸rfl
theorem vSet_eq {v:V}{vs:List V} (h:vSet v=some vs):v= .set vs:=by
 cases v <;> first | exact nos h | exact Option.some.inj h▸rfl
theorem oInst_eq {o:O}{q:Nat × List (Nat × V)} (h:oInst o=some q):o= .inst q.1 q.2:=by
 cases o <;> first | exact nos h | exact Option.some.inj h▸rfl
theorem oList_eq {o:O}{vs:List V} (h:oList o=some vs):o= .list vs:=by
 cases o <;> first | exact nos h | exact Option.some.inj h▸rfl
theorem oDict_eq {o:O}{kvs:List (Int × V)} (h:oDict o=some kvs):o= .dict kvs:=by
 cases o <;> first | exact nos h | exact Option.some.inj h▸rfl
theorem oCell_eq {o:O}{v:Option V} (h:oCell o=some v):o= .cell v:=by
 cases o <;> first | exact nos h | exact Option.some.inj h▸rfl
section
variable {τ:Tabs}{φ:Phi}{news:Nws}{v:V}{p:Value}
@[elab_as_elim] theorem VRel.refI {C:Value->Prop} (r:VRel τ φ news v p) {l:Nat} (h:vRef v=some l) (k: ∀q:Addr × Addr,φ[l]? =some q->C (.ref q.1)):C p:=(show VInv τ φ news (.ref l) p from(vRef_eq h▸r).inv).elim λq e=>e.1▸k q e.2
@[elab_as_elim] theorem VRel.intI {C:Value->Prop} (r:VRel τ φ news v p) {i:Int} (h:vInt v=some i) (k: ∀t,C (.int i t)):C p:=(show VInv τ φ news (.int i) p from(vInt_eq h▸r).inv).elim λt e=>e▸k t
theorem VRel.boolI (r:VRel τ φ news v p) {b:Bool} (h:vBool v=some b):p= .bool b:=(vBool_eq h▸r).inv
@[elab_as_elim] theorem VRel.tupI {C:Value->Prop} (r:VRel τ φ news v p) {vs:List V} (h:vTup v=some vs) (k: ∀ (a:Addr) (its:Array Value) (n:Nat),(a,tupO its n)∈news->VRels τ φ news vs its.toList->C (.ref a)):C p:=
 (show VInv τ φ news (.tup vs) p from(vTup_eq h▸r).inv).elim λa e=>e.elim λits e=>e.elim λn e=>e.1▸k a its n e.2.1 e.2.2
end
structure Ext0 (φ:Phi) (news:Nws) (φ':Phi) (news':Nws):Prop where
 pre: ∀ (l:Nat) (p:Addr × Addr),φ[l]? =some p->φ'[l]? =some p
 frz: ∀q∈news,frz0 q.2=true->q∈news'
structure Ext (φ:Phi) (news:Nws) (φ':Phi) (news':Nws):Prop where
 pre: ∀ (l:Nat) (p:Addr × Addr),φ[l]? =some p->φ'[l]? =some p
 frz: ∀q∈news,kept q.2=true->q∈news'
theorem Ext.to0 {φ φ':Phi}{news news':Nws} (x:Ext φ news φ' news'):Ext0 φ news φ' news':=⟨x.pre,λq h e=>x.frz q h (by unfold kept;rw [e];rfl)⟩
theorem Ext.refl (φ:Phi) (news:Nws):Ext φ news φ news:=⟨λ_ _ e=>e,λ_ h _=>h⟩
theorem Ext.trans {φ φ' φ'':Phi}{news news' news'':Nws} (x:Ext φ news φ' news') (y:Ext φ' news' φ'' news''):Ext φ news φ'' news'':=
 ⟨λl p e=>y.pre l p (x.pre l p e),λq h hf=>y.frz q (x.frz q h hf) hf⟩
theorem Ext.cons (φ:Phi) (news:Nws) (q:Addr × Obj):Ext φ news φ (q :: news):=⟨λ_ _ e=>e,λ_ h _=> .tail _ h⟩
theorem VRel.mono0 {τ:Tabs}{φ φ':Phi}{news news':Nws} (x:Ext0 φ news φ' news') {v:V}{w:Value} (h:VRel τ φ news v w):VRel τ φ' news' v w:=
 VRel.rec (motive:=λv w _=>VRel τ φ' news' v w) .none .bool .int .str (λh hl _ ih=> .tup0 (x.frz _ h rfl) hl ih) (λh=> .ref (x.pre _ _ h)) .cls .fn .bi (λh=> .rng (x.frz _ h rfl)) (λh ok hl _ ih=> .set0 (x.frz _ h rfl) ok hl ih) .scr h
theorem VRels.mono0 {τ:Tabs}{φ φ':Phi}{news news':Nws} (x:Ext0 φ news φ' news') {v:List V}{w:List Value} (h:VRels τ φ news v w):VRels τ φ' news' v w:=All2.mono h λ_ _ r=>r.mono0 x
theorem VRel.mono {τ:Tabs}{φ φ':Phi}{news news':Nws} (x:Ext φ news φ' news') {v:V}{w:Value} (h:VRel τ φ news v w):VRel τ φ' news' v w:=h.mono0 x.to0
theorem VRels.mono {τ:Tabs}{φ φ':Phi}{news news':Nws} (x:Ext φ news φ' news') {v:List V}{w:List Value} (h:VRels τ φ news v w):VRels τ φ' news' v w:=VRels.mono0 x.to0 h
inductive ARel (τ:Tabs) (φ:Phi) (news:Nws):List (Nat × V)->List DictEntry->Prop
 | nil:ARel τ φ news [] []
 | cons {k:Nat}{v:V}{r:List (Nat × V)}{e:DictEntry}{es:List DictEntry}{name:Str}{t:Tok}:τ.nm[k]? =some name->e.key= .str name t->VRel τ φ news v e.val->ARel τ φ news r es->ARel τ φ news ((k,v) :: r) (e :: es)
theorem ARel.mono0 {τ:Tabs}{φ φ':Phi}{news news':Nws} (x:Ext0 φ news φ' news') {r:List (Nat × V)}{es:List DictEntry} (h:ARel τ φ news r es):ARel τ φ' news' r es:=by
 induction h with
 | nil=>exact .nil
 | cons h1 h2 h3 _ ih=>exact .cons h1 h2 (h3.mono0 x) ih
theorem ARel.mono {τ:Tabs}{φ φ':Phi}{news news':Nws} (x:Ext φ news φ' news') {r:List (Nat × V)}{es:List DictEntry} (h:ARel τ φ news r es):ARel τ φ' news' r es:=h.mono0 x.to0
structure OInst (τ:Tabs) (φ:Phi) (news:Nws) (c:Nat) (at_:List (Nat × V)) (p:Addr × Addr) (C:Addr) (es:List DictEntry) (n:Nat):Prop where
 ca:τ.ca c=some C
 self:(p.1,instObj C p.2)∈news
 dict:(p.2,dictOf es n)∈news
 at_:ARel τ φ news at_ es
 small:es.length<=900
 ne:p.1≠p.2
structure OList (τ:Tabs) (φ:Phi) (news:Nws) (vs:List V) (p:Addr × Addr) (its:Array Value) (n:Nat):Prop where
 eq:p.2=p.1
 self:(p.1,W.listOf its n)∈news
 items:VRels τ φ news vs its.toList
 small:vs.length<=2 ^ 20
structure ODict (τ:Tabs) (φ:Phi) (news:Nws) (kvs:List (Int × V)) (p:Addr × Addr) (o:Obj) (kv:List (Int × Value)):Prop where
 eq:p.2=p.1
 self:(p.1,o)∈news
 kind:o.IsDictOf (intKind τ.prog τ.w) kv
 keys:kv.map (·.1)=kvs.map (·.1)
 vals:VRels τ φ news (kvs.map (·.2)) (kv.map (·.2))
 frz:Mini.frz o=false
 sys:(p.1 == sysModules)=false
 small:kvs.length<=2 ^ 20
structure OCell (τ:Tabs) (φ:Phi) (news:Nws) (v:Option V) (p:Addr × Addr) (o:Obj) (w:Option Value):Prop where
 eq:p.2=p.1
 self:(p.1,o)∈news
 data:o.data= .cell w
 val: ∀x,v=some x->∃y,w=some y/\VRel τ φ news x y
 frz:Mini.frz o=false
noncomputable def OAt (τ:Tabs) (φ:Phi) (news:Nws) (o:O) (p:Addr × Addr):Prop:=match o with
 | .inst c at_=>∃C es n,OInst τ φ news c at_ p C es n
 | .list vs=>∃its n,OList τ φ news vs p its n
 | .dict kvs=>∃ob kv,ODict τ φ news kvs p ob kv
 | .cell v=>∃ob w,OCell τ φ news v p ob w
structure Rep (τ:Tabs) (φ:Phi) (H:Hp) (news:Nws):Prop where
 len:φ.length=H.length
 at_: ∀ (l:Nat) (o:O) (p:Addr × Addr),H[l]? =some o->φ[l]? =some p->OAt τ φ news o p
 sep: ∀ (l l':Nat) (p p':Addr × Addr),φ[l]? =some p->φ[l']? =some p'->l≠l'->p.1≠p'.1/\p.1≠p'.2/\p.2≠p'.1/\p.2≠p'.2
structure Cx where
 K:Frag
 τ:Tabs
 pr:Program
 loose:List Str
 mg:Str->Option Value
 mb:Str->Option Value
 P:Prog
 gl:List (Str × G)
 dfl:List (Addr × Obj)
 pin:List (Addr × Obj)
noncomputable abbrev Cx.M (Θ:Cx):Model:=model Θ.τ.prog Θ.τ.w
structure Gd where
 h:Heap
 fs:List Addr
noncomputable def Turn (g g':Gd):Prop:=g'.fs=g.fs/\KtsTurn g.fs g.h g'.h
theorem Turn.rfl {g:Gd}:Turn g g:=⟨Eq.refl _, .refl⟩
theorem Turn.trans {g g' g'':Gd} (x:Turn g g') (y:Turn g' g''):Turn g g'':=⟨y.1.trans x.1,x.2.trans (x.1▸y.2)⟩
noncomputable def GK (a b:Array GenState):Prop:=∀ (i:Nat) (st:GenState),a[i]? =some st->b[i]? =some st
theorem GK.rfl {a:Array GenState}:GK a a:=λ_ _ e=>e
theorem GK.trans {a b c:Array GenState} (x:GK a b) (y:GK b c):GK a c:=λi st e=>y i st (x i st e)
structure TurnG (a b:Array GenState) (g g':Gd):Prop where
 t:Turn g g'
 k:GK a b
 b:AllBare a->AllBare b
theorem TurnG.rfl {a:Array GenState}{g:Gd}:TurnG a a g g:=⟨.rfl, .rfl,id⟩
theorem TurnG.trans {a b c:Array GenState}{g g' g'':Gd} (x:TurnG a b g g') (y:TurnG b c g' g''):TurnG a c g g'':=⟨x.t.trans y.t,x.k.trans y.k,λh=>y.b (x.b h)⟩
theorem lst_keeps {h h':Heap}{a:Addr}{its:Array Value} (x:h.IsList a its) (k: ∀b o,h.get? b=some o->h'.get? b=some o):h'.IsList a its:=x.imp λ_ e=>⟨k _ _ e.1,e.2⟩
noncomputable def ScrIn (Θ:Cx) (h:Heap):Prop:=∀a,Θ.τ.sa=some a->∃its,h.IsList a its/\All2 (λi v=>∃t,v=Value.int i t) Θ.P.scr its.toList/\its.size<=2 ^ 20
structure TopIn (Θ:Cx) (h₀:Heap):Prop where
 k:Θ.K.In h₀
 scr:ScrIn Θ h₀
 top:TopRead Θ.pr Θ.loose Θ.mg Θ.mb h₀
theorem TopIn.keeps {Θ:Cx}{h h':Heap} (t:TopIn Θ h) (k: ∀b o,h.get? b=some o->h'.get? b=some o):TopIn Θ h':=⟨t.k.keeps k,λa e=>(t.scr a e).imp λ_ h=>⟨lst_keeps h.1 k,h.2⟩,t.top.keeps k⟩
inductive GB (Θ:Cx) (l:Option (List Env)) (h₀:Gd) (L:Addr):Prop
 | own {A₀:Around}{base:Heap}{outer:List Env}{env:Env}:Below A₀ base outer h₀.h->l=some (env :: outer)->env.frame=some L->env.scope.kind= .function->h₀.fs=outer.filterMap (·.frame)->TopIn Θ base->GB Θ l h₀ L
 | comp {A₀:Around}{base:Heap}{outer:List Env}:Below A₀ base outer h₀.h->l=some outer->h₀.fs=outer.filterMap (·.frame)->TopIn Θ base->GB Θ l h₀ L
theorem GB.top {Θ:Cx}{l:Option (List Env)}{h₀:Gd}{L:Addr} (b:GB Θ l h₀ L):TopIn Θ h₀.h:=by
 cases b with
 | own B _ _ _ _ t=>exact t.keeps B.stays
 | comp B _ _ t=>exact t.keeps B.stays
theorem below_turn {A₀:Around}{base:Heap}{outer:List Env}{g g':Gd} (B:Below A₀ base outer g.h) (hf:g.fs=outer.filterMap (·.frame)) (T:Turn g g'):Below A₀ base outer g'.h:=by
 obtain⟨T1,T2⟩:=T
 refine⟨B.stack,λb o e=>T2.other b o (B.stays b o e) (λhm=> ?_),B.frames.of_keeps λb o e _=> ?_⟩
 ·rw [hf] at hm
  rw [(B.frames.mem hm).1] at e
  cases e
 ·obtain⟨sl,hs⟩:=T2.up e
  exact⟨_,hs,Eq.refl _⟩
theorem GB.turn {Θ:Cx}{l:Option (List Env)}{g g':Gd}{L:Addr} (b:GB Θ l g L) (T:Turn g g'):GB Θ l g' L:=by
 cases b with
 | own B h1 h2 h3 h4 t=>exact .own (below_turn B h4 T) h1 h2 h3 (T.1.trans h4) t
 | comp B h1 h4 t=>exact .comp (below_turn B h4 T) h1 (T.1.trans h4) t
noncomputable def offPhi (φ:Phi) (a:Addr):Prop:=∀ (k:Nat) (p:Addr × Addr),φ[k]? =some p->p.1≠a/\p.2≠a
structure DF (Θ:Cx) (φ:Phi) (news:Nws):Prop where
 d: ∀q∈Θ.dfl,q∈news/\frz0 q.2=true
 p: ∀q∈Θ.pin,q∈news/\offPhi φ q.1
theorem DF.keep {Θ:Cx}{φ:Phi}{news news':Nws} (d:DF Θ φ news) (k: ∀q∈news,frz0 q.2=true->q∈news') (k2: ∀q∈Θ.pin,q∈news->offPhi φ q.1->q∈news'):DF Θ φ news':=
 ⟨λq hq=>⟨k q (d.d q hq).1 (d.d q hq).2,(d.d q hq).2⟩,λq hq=>⟨k2 q hq (d.p q hq).1 (d.p q hq).2,(d.p q hq).2⟩⟩
theorem DF.more {Θ:Cx}{φ:Phi}{news news':Nws} (d:DF Θ φ news) (k: ∀q∈news,q∈news'):DF Θ φ news':=d.keep (λq hq _=>k q hq) λq _ hq _=>k q hq
theorem offPhi_snoc {φ:Phi}{x:Addr × Addr}{a:Addr} (h:offPhi φ a) (h1:x.1≠a) (h2:x.2≠a):offPhi (φ ++ [x]) a:=λk p e=>by
 by_cases hk:k < φ.length
 ·rw [List.getElem?_append_left hk] at e;exact h k p e
 ·rw [List.getElem?_append_right (Nat.le_of_not_lt hk)] at e
  have:p=x:=by
   cases hj:k - φ.length with
   | zero=>rw [hj] at e;simpa using e.symm
   | succ j=>rw [hj] at e;simp at e
  subst this;exact⟨h1,h2⟩
theorem DF.alloc {Θ:Cx}{φ:Phi}{news:Nws}{x:Addr × Addr} (d:DF Θ φ news) (k: ∀q∈Θ.pin,x.1≠q.1/\x.2≠q.1):DF Θ (φ ++ [x]) news:=
 ⟨d.d,λq hq=>⟨(d.p q hq).1,offPhi_snoc (d.p q hq).2 (k q hq).1 (k q hq).2⟩⟩
structure Stt (Θ:Cx) (l:Option (List Env)) (h₀:Gd) (L:Addr) (m:Str->Option Value) (φ:Phi) (H:Hp) (news:Nws) (h:Heap):Prop where
 fr:Fr h₀.h L h m
 nw:News h₀.h L h news
 nd:(news.map (·.1)).Nodup
 rep:Rep Θ.τ φ H news
 gb:GB Θ l h₀ L
 df:DF Θ φ news
theorem Stt.top {Θ:Cx}{lf:Option (List Env)}{h₀:Gd}{L:Addr}{m:Str->Option Value}{φ:Phi}{H:Hp}{news:Nws}{h:Heap} (S:Stt Θ lf h₀ L m φ H news h):TopIn Θ h₀.h:=S.gb.top
section
variable {Θ:Cx}{lf:Option (List Env)}{τ:Tabs}{φ φ':Phi}{H:Hp}{news news':Nws}{h:Heap}{h₀:Gd}{L:Addr}{m:Str->Option Value}
theorem OAt.mono0 {o:O}{p:Addr × Addr} (x:Ext0 φ news φ' news') (k: ∀q∈news,q.1=p.1\/q.1=p.2->q∈news') (h:OAt τ φ news o p):OAt τ φ' news' o p:=by
 cases o with
 | inst c at_=>exact h.elim λC h=>h.elim λes h=>h.elim λn h=>⟨C,es,n,h.ca,k _ h.self (.inl rfl),k _ h.dict (.inr rfl),h.at_.mono0 x,h.small,h.ne⟩
 | list vs=>exact h.elim λits h=>h.elim λn h=>⟨its,n,h.eq,k _ h.self (.inl rfl),VRels.mono0 x h.items,h.small⟩
 | dict kvs=>exact h.elim λob h=>h.elim λkv h=>⟨ob,kv,h.eq,k _ h.self (.inl rfl),h.kind,h.keys,VRels.mono0 x h.vals,h.frz,h.sys,h.small⟩
 | cell v=>exact h.elim λob h=>h.elim λw h=>⟨ob,w,h.eq,k _ h.self (.inl rfl),h.data,λv e=>(h.val v e).elim λy q=>⟨y,q.1,q.2.mono0 x⟩,h.frz⟩
theorem OAt.mono {o:O}{p:Addr × Addr} (x:Ext φ news φ' news') (k: ∀q∈news,q.1=p.1\/q.1=p.2->q∈news') (h:OAt τ φ news o p):OAt τ φ' news' o p:=h.mono0 x.to0 k
theorem OAt.mem {o:O}{p:Addr × Addr} (h:OAt τ φ news o p):(∃q,(p.1,q)∈news)/\∃q,(p.2,q)∈news:=by
 cases o with
 | inst c at_=>exact h.elim λC h=>h.elim λes h=>h.elim λn h=>⟨⟨_,h.self⟩,⟨_,h.dict⟩⟩
 | list vs=>exact h.elim λits h=>h.elim λn h=>⟨⟨_,h.self⟩,⟨_,h.eq▸h.self⟩⟩
 | dict kvs=>exact h.elim λob h=>h.elim λkv h=>⟨⟨_,h.self⟩,⟨_,h.eq▸h.self⟩⟩
 | cell v=>exact h.elim λob h=>h.elim λw h=>⟨⟨_,h.self⟩,⟨_,h.eq▸h.self⟩⟩
theorem Rep.more (R:Rep τ φ H news) (k: ∀q∈news,q∈news'):Rep τ φ H news':=
 ⟨R.len,λl o p e e'=>(R.at_ l o p e e').mono ⟨λ_ _ e=>e,λq h _=>k q h⟩ λq hq _=>k q hq,R.sep⟩
theorem Stt.new (S:Stt Θ lf h₀ L m φ H news h) {a:Addr}{o:Obj}{h':Heap} (F:Fr h₀.h L h' m) (N:News h₀.h L h' ((a,o) :: news)) (lt: ∀q∈news,q.1 < a):Stt Θ lf h₀ L m φ H ((a,o) :: news) h':=
 ⟨F,N,by
  rw [List.map_cons,List.nodup_cons]
  refine⟨λhm=> ?_,S.nd⟩
  obtain⟨q,hq,e⟩:=List.mem_map.mp hm
  exact absurd e (Nat.ne_of_lt (lt q hq)),S.rep.more λq h=> .tail _ h,S.gb,S.df.more λq h=> .tail _ h⟩
theorem nth_append_self {α:Type} (l:List α) (x:α):(l ++ [x])[l.length]? =some x:=by simp
theorem getElem?_snoc {α:Type}{l:List α}{x y:α}{i:Nat} (e:(l ++ [x])[i]? =some y):l[i]? =some y\/(i=l.length/\y=x):=by
 by_cases h:i < l.length
 ·rw [List.getElem?_append_left h] at e;exact .inl e
 ·rw [List.getElem?_append_right (Nat.le_of_not_lt h)] at e
  have:i - l.length=0:=by
   cases q:i - l.length with
   | zero=>rfl
   | succ n=>rw [q] at e;simp at e
  rw [this] at e
  simp at e
  exact .inr ⟨by lia,e.symm⟩
theorem ext_snoc (φ:Phi) (p:Addr × Addr): ∀ (l:Nat) (q:Addr × Addr),φ[l]? =some q->(φ ++ [p])[l]? =some q:=λl q e=>by
 obtain⟨hl,_⟩:=List.getElem?_eq_some_iff.mp e
 rw [List.getElem?_append_left hl];exact e
theorem Rep.alloc (R:Rep τ φ H news) {o:O}{p:Addr × Addr} (k: ∀q∈news,q∈news') (n1: ∀q∈news,q.1≠p.1) (n2: ∀q∈news,q.1≠p.2) (ho:OAt τ (φ ++ [p]) news' o p) :
 Rep τ (φ ++ [p]) (H ++ [o]) news':=by
 have x:Ext φ news (φ ++ [p]) news':=⟨ext_snoc φ p,λq h _=>k q h⟩
 have apart: ∀ (l:Nat) (q:Addr × Addr),φ[l]? =some q->q.1≠p.1/\q.1≠p.2/\q.2≠p.1/\q.2≠p.2:=λl q e=>by
  obtain⟨hl,_⟩:=List.getElem?_eq_some_iff.mp e
  have hl':l < H.length:=by rw [<- R.len];exact hl
  have z:=(R.at_ l _ q (by simp [hl']:H[l]? =some H[l]) e).mem
  obtain⟨⟨u,hu⟩,⟨v,hv⟩⟩:=z
  exact⟨n1 _ hu,n2 _ hu,n1 _ hv,n2 _ hv⟩
 refine⟨by simp [R.len],λl ob q e e'=> ?_,λl l' q q' e e' ne=> ?_⟩
 ·rcases getElem?_snoc e with e1 | ⟨rfl,rfl⟩
  ·rcases getElem?_snoc e' with e2 | ⟨rfl,rfl⟩
   ·exact(R.at_ l ob q e1 e2).mono x λq hq _=>k q hq
   ·rw [R.len] at e1;simp at e1
  ·rcases getElem?_snoc e' with e2 | ⟨_,rfl⟩
   ·rw [<- R.len] at e2;simp at e2
   ·exact ho
 ·rcases getElem?_snoc e with e1 | ⟨rfl,rfl⟩
  ·rcases getElem?_snoc e' with e2 | ⟨rfl,rfl⟩
   ·exact R.sep l l' q q' e1 e2 ne
   ·exact apart l q e1
  ·rcases getElem?_snoc e' with e2 | ⟨rfl,rfl⟩
   ·have z:=apart l' q' e2;exact⟨z.1.symm,z.2.2.1.symm,z.2.1.symm,z.2.2.2.symm⟩
   ·exact absurd rfl ne
noncomputable def rpl (news:Nws) (d:Addr) (o:Obj):Nws:=news.map λp=>if p.1=d then(d,o) else p
theorem rpl_keys (news:Nws) (d:Addr) (o:Obj):(rpl news d o).map (·.1)=news.map (·.1):=by
 unfold rpl
 rw [List.map_map]
 refine List.map_congr_left λp _=> ?_
 by_cases h:p.1=d <;> simp [h]
theorem rpl_other {d:Addr}{o:Obj}{q:Addr × Obj} (h:q∈news) (ne:q.1≠d):q∈rpl news d o:=List.mem_map.mpr ⟨q,h,by rw [if_neg ne]⟩
theorem rpl_self {d:Addr}{o o':Obj} (h:(d,o)∈news):(d,o')∈rpl news d o':=List.mem_map.mpr ⟨_,h,by rw [if_pos rfl]⟩
theorem rpl_none {d:Addr}{o:Obj} (h: ∀q∈news,q.1≠d):rpl news d o=news:=by
 unfold rpl
 conv=>rhs;rw [<- List.map_id news]
 exact List.map_congr_left λp hp=>by rw [if_neg (h p hp)];rfl
theorem rpl_upd {d:Addr}{o o':Obj}: ∀ (news:Nws),(d,o)∈news->(news.map (·.1)).Nodup->Upd d o o' news (rpl news d o'):=by
 intro news
 induction news with
 | nil=>intro hm;cases hm
 | cons q r ih=>
  intro hm nd
  obtain⟨a,x⟩:=q
  rw [List.map_cons,List.nodup_cons] at nd
  rcases List.mem_cons.mp hm with e | hm'
  ·cases e
   have hr: ∀q∈r,q.1≠d:=λq hq e=>nd.1 (List.mem_map.mpr ⟨q,hq,e⟩)
   have e2:rpl ((d,o) :: r) d o'=(d,o') :: r:=by
    show(if d=d then(d,o') else(d,o)) :: rpl r d o'=_
    rw [if_pos rfl,rpl_none hr]
   rw [e2]
   exact .head hr
  ·have ne:a≠d:=λe=>nd.1 (List.mem_map.mpr ⟨_,hm',e.symm⟩)
   have e2:rpl ((a,x) :: r) d o'=(a,x) :: rpl r d o':=by
    show(if a=d then(d,o') else(a,x)) :: rpl r d o'=_
    rw [if_neg ne]
   rw [e2]
   exact .tail ne (ih hm' nd.2)
theorem Rep.set (R:Rep τ φ H news) {l:Nat}{p:Addr × Addr}{o':O}{d:Addr}{ob:Obj} (hp:φ[l]? =some p) (hd:d=p.1\/d=p.2)
 (hf: ∀q∈news,q.1=d->frz q.2=false) (ho:OAt τ φ (rpl news d ob) o' p):Rep τ φ (H.set l o') (rpl news d ob):=by
 have x:Ext φ news φ (rpl news d ob):=⟨λ_ _ e=>e,λq h hz=>rpl_other h λe=>by have hz:=kept_frz hz;rw [hf q h e] at hz;cases hz⟩
 refine⟨by simp [R.len],λk o q e e'=> ?_,R.sep⟩
 by_cases hk:k=l
 ·subst hk
  rw [hp] at e';cases e'
  have:k < H.length:=by rw [<- R.len];exact(List.getElem?_eq_some_iff.mp hp).1
  rw [List.getElem?_set_self this] at e
  cases e;exact ho
 ·rw [List.getElem?_set_ne (Ne.symm hk)] at e
  have z:=R.sep k l q p e' hp hk
  refine(R.at_ k o q e e').mono x λr hr hq=>rpl_other hr λe=> ?_
  rcases hd with rfl | rfl <;> rcases hq with h1 | h1
  ·exact z.1 (h1.symm.trans e)
  ·exact z.2.2.1 (h1.symm.trans e)
  ·exact z.2.1 (h1.symm.trans e)
  ·exact z.2.2.2 (h1.symm.trans e)
theorem Stt.uniq (S:Stt Θ lf h₀ L m φ H news h) {a:Addr}{o o':Obj} (e:(a,o)∈news) (e':(a,o')∈news):o=o':=by
 have z:=(S.nw _ e).1
 have y:=(S.nw _ e').1
 dsimp only at z y
 rw [z] at y;exact Option.some.inj y
theorem Stt.not_frz (S:Stt Θ lf h₀ L m φ H news h) {d:Addr}{o:Obj} (e:(d,o)∈news) (hf:frz o=false): ∀q∈news,q.1=d->frz q.2=false:=λq hq e'=>by
 obtain⟨a,o'⟩:=q
 dsimp only at e' ⊢
 subst e'
 rw [S.uniq hq e];exact hf
theorem ext_rpl (S:Stt Θ lf h₀ L m φ H news h) {d:Addr}{o ob:Obj} (e:(d,o)∈news) (hf:frz o=false):Ext φ news φ (rpl news d ob) :=
 ⟨λ_ _ e=>e,λq h hz=>rpl_other h λe'=>by have hz:=kept_frz hz;rw [S.not_frz e hf q h e'] at hz;cases hz⟩
theorem Stt.set (S:Stt Θ lf h₀ L m φ H news h) {l:Nat}{p:Addr × Addr}{o':O}{d:Addr}{o ob:Obj}{h':Heap} (hp:φ[l]? =some p) (hd:d=p.1\/d=p.2) (he:(d,o)∈news) (hf:frz o=false)
 (F:Fr h₀.h L h' m) (N:News h₀.h L h' (rpl news d ob)) (ho:OAt Θ.τ φ (rpl news d ob) o' p):Stt Θ lf h₀ L m φ (H.set l o') (rpl news d ob) h':=
 ⟨F,N,by rw [rpl_keys];exact S.nd,S.rep.set hp hd (S.not_frz he hf) ho,S.gb,S.df.keep (λq hq hz=>(ext_rpl (φ:=φ) S he hf).to0.frz q hq hz) λq _ hq ho=>rpl_other hq λe=>by
  have z:=ho _ _ hp
  rcases hd with rfl | rfl
  ·exact z.1 e.symm
  ·exact z.2 e.symm⟩
end
structure RoomN (A:Around) (d u:Nat) (hd:Bool):Prop where
 depth:A.depth + d < recursionLimit
 units:A.units + u < cLine
 hand:hd=false->A.handled=none
noncomputable abbrev Room (A:Around) (n:Nat) (hd:Bool):Prop:=RoomN A (6 * n + 12) (40 * n + 300) hd
noncomputable abbrev RoomC (A:Around) (n:Nat) (hd:Bool):Prop:=RoomN A (6 * n + 7) (40 * n + 275) hd
structure EnvOK (env:Env) (L:Addr):Prop where
 loc:env.locals=L
 glob:env.globals=mainGlobals
 blt:env.builtins=builtinsNs
 kind:env.scope.kind= .function
 nd:(env.scope.names.map (·.1)).Nodup
 cl: ∀x∈env.scope.names,x.2= .cell\/x.2= .free->(env.cells.lookup x.1).isSome=true
 fr: ∀x,env.frame=some x->x<=L
structure LRel (Θ:Cx) (names:List (Str × NameKind)) (cells:List (Str × Addr)) (m:Str->Option Value) (φ:Phi) (news:Nws) (ρ:Lo):Prop where
 loc: ∀ (i:Nat) (v:V),ρ.loc[i]? =some (some v)->∃x val,names[i]? =some (x, .local)/\m x=some val/\VRel Θ.τ φ news v val
 cel: ∀ (i l:Nat),ρ.cel[i]? =some (some l)->∃x k p,names[i]? =some (x,k)/\(k= .cell\/k= .free)/\φ[l]? =some p/\cells.lookup x=some p.1
theorem LRel.mono0 {Θ:Cx}{names:List (Str × NameKind)}{cells:List (Str × Addr)}{m:Str->Option Value}{φ φ':Phi}{news news':Nws}{ρ:Lo} (x:Ext0 φ news φ' news') (r:LRel Θ names cells m φ news ρ):LRel Θ names cells m φ' news' ρ:=
 ⟨λi v e=>by obtain⟨y,val,a,b,c⟩:=r.loc i v e;exact⟨y,val,a,b,c.mono0 x⟩,
  λi l e=>by obtain⟨y,k,p,a,b,c,d⟩:=r.cel i l e;exact⟨y,k,p,a,b,x.pre _ _ c,d⟩⟩
theorem LRel.mono {Θ:Cx}{names:List (Str × NameKind)}{cells:List (Str × Addr)}{m:Str->Option Value}{φ φ':Phi}{news news':Nws}{ρ:Lo} (x:Ext φ news φ' news') (r:LRel Θ names cells m φ news ρ):LRel Θ names cells m φ' news' ρ:=
 ⟨λi v e=>by obtain⟨y,val,a,b,c⟩:=r.loc i v e;exact⟨y,val,a,b,c.mono x⟩,
  λi l e=>by obtain⟨y,k,p,a,b,c,d⟩:=r.cel i l e;exact⟨y,k,p,a,b,x.pre _ _ c,d⟩⟩
noncomputable def Pst {α β:Type} (Θ:Cx) (l:Option (List Env)) (h₀:Gd) (L:Addr) (m:Str->Option Value) (R:Phi->Nws->α->β->Prop) (Q:β->Shared->Prop) (E:Value->Shared->Prop) (φ:Phi) (news:Nws) (s:Shared):Res α->Prop
 | .ok a H'=>∀ ⦃gn:Array GenState⦄ ⦃dr:Drawn⦄ g φ' news' h' tk b,TurnG s.gens gn h₀ g->Stt Θ l g L m φ' H' news' h'->Ext φ news φ' news'->R φ' news' a b->Q b ⟨h',gn,dr,tk,s.os⟩
 | .ex H'=>∀ ⦃gn:Array GenState⦄ ⦃dr:Drawn⦄ g φ' news' h₁ h' tk e,TurnG s.gens gn h₀ g->Stt Θ l g L m φ' H' news' h₁->Ext φ news φ' news'->Heap.NewExc h₁ h' e "TypeError" ->E (.ref e) ⟨h',gn,dr,tk,s.os⟩
 | .no=>False
noncomputable abbrev RV (Θ:Cx):Phi->Nws->V->Value->Prop:=VRel Θ.τ
noncomputable abbrev RVs (Θ:Cx):Phi->Nws->List V->List Value->Prop:=VRels Θ.τ
theorem Pst.bind {α β γ δ:Type}{Θ:Cx}{l:Option (List Env)}{h₀:Gd}{L:Addr}{m:Str->Option Value}{R:Phi->Nws->α->β->Prop}{R':Phi->Nws->γ->δ->Prop}{Q:δ->Shared->Prop}{E:Value->Shared->Prop}
 {φ:Phi}{news:Nws}{s:Shared}{mm:M α}{f:α->M γ}{H:Hp}{Q₁:β->Shared->Prop}
 (hp:Pst Θ l h₀ L m R' Q E φ news s (M.bind mm f H))
 (k: ∀ {gn:Array GenState}{dr:Drawn} g φ₁ news₁ h₁ tk a b H₁,TurnG s.gens gn h₀ g->Stt Θ l g L m φ₁ H₁ news₁ h₁->Ext φ news φ₁ news₁->R φ₁ news₁ a b->Pst Θ l g L m R' Q E φ₁ news₁ ⟨h₁,gn,dr,tk,s.os⟩ (f a H₁)->Q₁ b ⟨h₁,gn,dr,tk,s.os⟩) :
 Pst Θ l h₀ L m R Q₁ E φ news s (mm H):=by
 unfold M.bind at hp
 cases hr:mm H with
 | ok a H₁=>
  rw [hr] at hp
  intro gn₁ dr₁ g₁ φ₁ news₁ h₁ tk b T₁ S₁ x₁ r₁
  refine k g₁ φ₁ news₁ h₁ tk a b H₁ T₁ S₁ x₁ r₁ ?_
  dsimp only at hp
  cases hf:f a H₁ with
  | ok c H₂=>
   rw [hf] at hp
   intro gn₂ dr₂ g₂ φ₂ news₂ h₂ tk₂ d T₂ S₂ x₂ r₂
   exact hp g₂ φ₂ news₂ h₂ tk₂ d (T₁.trans T₂) S₂ (x₁.trans x₂) r₂
  | ex H₂=>
   rw [hf] at hp
   intro gn₂ dr₂ g₂ φ₂ news₂ h₂ h₃ tk₂ e T₂ S₂ x₂ ne
   exact hp g₂ φ₂ news₂ h₂ h₃ tk₂ e (T₁.trans T₂) S₂ (x₁.trans x₂) ne
  | no=>rw [hf] at hp;exact hp.elim
 | ex H₁=>
  rw [hr] at hp
  intro gn₁ dr₁ g₁ φ₁ news₁ h₁ h₂ tk e T₁ S₁ x₁ ne
  exact hp g₁ φ₁ news₁ h₁ h₂ tk e T₁ S₁ x₁ ne
 | no=>rw [hr] at hp;exact hp.elim
theorem Pst.bindE {α β γ δ:Type}{Θ:Cx}{l:Option (List Env)}{h₀:Gd}{L:Addr}{m:Str->Option Value}{R:Phi->Nws->α->β->Prop}{R':Phi->Nws->γ->δ->Prop}{Q:δ->Shared->Prop}{E:Value->Shared->Prop}
 {φ:Phi}{news:Nws}{s:Shared}{mm:M α}{f:α->M γ}{H:Hp}{Q₁:β->Shared->Prop}
 (hp:Pst Θ l h₀ L m R' Q E φ news s (M.bind mm f H))
 (k: ∀ {gn:Array GenState}{dr:Drawn} g φ₁ news₁ h₁ tk a b H₁,mm H= .ok a H₁->TurnG s.gens gn h₀ g->Stt Θ l g L m φ₁ H₁ news₁ h₁->Ext φ news φ₁ news₁->R φ₁ news₁ a b->Pst Θ l g L m R' Q E φ₁ news₁ ⟨h₁,gn,dr,tk,s.os⟩ (f a H₁)->Q₁ b ⟨h₁,gn,dr,tk,s.os⟩) :
 Pst Θ l h₀ L m R Q₁ E φ news s (mm H):=by
 unfold M.bind at hp
 cases hr:mm H with
 | ok a H₁=>
  rw [hr] at hp
  intro gn₁ dr₁ g₁ φ₁ news₁ h₁ tk b T₁ S₁ x₁ r₁
  refine k g₁ φ₁ news₁ h₁ tk a b H₁ hr T₁ S₁ x₁ r₁ ?_
  dsimp only at hp
  cases hf:f a H₁ with
  | ok c H₂=>
   rw [hf] at hp
   intro gn₂ dr₂ g₂ φ₂ news₂ h₂ tk₂ d T₂ S₂ x₂ r₂
   exact hp g₂ φ₂ news₂ h₂ tk₂ d (T₁.trans T₂) S₂ (x₁.trans x₂) r₂
  | ex H₂=>
   rw [hf] at hp
   intro gn₂ dr₂ g₂ φ₂ news₂ h₂ h₃ tk₂ e T₂ S₂ x₂ ne
   exact hp g₂ φ₂ news₂ h₂ h₃ tk₂ e (T₁.trans T₂) S₂ (x₁.trans x₂) ne
  | no=>rw [hf] at hp;exact hp.elim
 | ex H₁=>
  rw [hr] at hp
  intro gn₁ dr₁ g₁ φ₁ news₁ h₁ h₂ tk e T₁ S₁ x₁ ne
  exact hp g₁ φ₁ news₁ h₁ h₂ tk e T₁ S₁ x₁ ne
 | no=>rw [hr] at hp;exact hp.elim
theorem Pst.mono {α β:Type}{Θ:Cx}{l:Option (List Env)}{h₀:Gd}{L:Addr}{m:Str->Option Value}{R:Phi->Nws->α->β->Prop}{Q Q':β->Shared->Prop}{E:Value->Shared->Prop}
 {φ:Phi}{news:Nws}{s:Shared}{r:Res α} (hp:Pst Θ l h₀ L m R Q E φ news s r) (k: ∀b s',Q b s'->Q' b s'):Pst Θ l h₀ L m R Q' E φ news s r:=by
 cases r with
 | ok a H'=>exact λ_ _ g φ' news' h' tk b T S x r=>k _ _ (hp g φ' news' h' tk b T S x r)
 | ex H'=>exact hp
 | no=>exact hp
section
variable {α β:Type}{H:Hp}{G:Res β->Prop}{C:Prop}
theorem ofO_inv {o:Option α}{f:α->M β} (no: ¬G .no) (h:G (M.bind (ofO o) f H)) (k: ∀a,o=some a->G (f a H)->C):C:=by
 cases o with
 | none=>exact(no h).elim
 | some a=>exact k a rfl h
theorem ofO_inv0 {o:Option β} (no: ¬G .no) (h:G (ofO o H)) (k: ∀a,o=some a->G (.ok a H)->C):C:=by
 cases o with
 | none=>exact(no h).elim
 | some a=>exact k a rfl h
theorem getO_inv {l:Nat}{f:O->M β} (no: ¬G .no) (h:G (M.bind (getO l) f H)) (k: ∀a,H[l]? =some a->G (f a H)->C):C:=by
 unfold M.bind getO at h
 cases e:H[l]? with
 | none=>rw [e] at h;exact(no h).elim
 | some a=>rw [e] at h;exact k a e h
theorem bind_assoc2 {γ:Type} (x:M γ) (f:γ->M α) (g:α->M β) (H:Hp):M.bind (M.bind x f) g H=M.bind x (λa=>M.bind (f a) g) H:=by
 unfold M.bind
 cases x H <;> rfl
theorem getLs_inv {l:Nat}{f:List V->M β} (no: ¬G .no) (h:G (M.bind (getLs l) f H)) (k: ∀a vs,H[l]? =some a->oList a=some vs->G (f vs H)->C):C:=
 getO_inv no (bind_assoc2 (getO l) (λo=>ofO (oList o)) f H▸h) λa h1 h=>ofO_inv no h λvs h2 h=>k a vs h1 h2 h
theorem getO_fwd {l:Nat}{f:O->M β}{o:O} (h:H[l]? =some o):M.bind (getO l) f H=f o H:=by unfold M.bind getO;rw [h]
theorem getLs_fwd {l:Nat}{f:List V->M β}{o:O}{ws:List V} (h:H[l]? =some o) (hw:oList o=some ws):M.bind (getLs l) f H=f ws H:=
 (bind_assoc2 (getO l) (λo=>ofO (oList o)) f H).trans ((getO_fwd h).trans (by rw [hw];rfl))
theorem om_inv {γ:Type}{o:Option γ}{b:M β}{f:γ->M β} (h:G (om o b f H)) (k1:o=none->G (b H)->C) (k2: ∀a,o=some a->G (f a H)->C):C:=by
 cases o with
 | none=>exact k1 rfl h
 | some a=>exact k2 a rfl h
theorem ite_inv {c:Prop} [Decidable c] {a:M β} (no: ¬G .no) (h:G ((if c then a else stuck:M β) H)) (k:c->G (a H)->C):C:=by
 by_cases q:c
 ·rw [if_pos q] at h;exact k q h
 ·rw [if_neg q] at h;exact(no h).elim
theorem ite_inv' {c:Prop} [Decidable c] {a:M β} (no: ¬G .no) (h:G ((if c then stuck else a:M β) H)) (k: ¬c->G (a H)->C):C:=by
 by_cases q:c
 ·rw [if_pos q] at h;exact(no h).elim
 ·rw [if_neg q] at h;exact k q h
end
section
variable {α β γ:Type}{Θ:Cx}{l:Option (List Env)}{h₀:Gd}{L:Addr}{m:Str->Option Value}{R:Phi->Nws->β->γ->Prop}{Q:γ->Shared->Prop}{E:Value->Shared->Prop}{φ:Phi}{news:Nws}{s:Shared}{H:Hp}{C:Prop}
theorem Pst.ofO {o:Option α}{f:α->M β} (h:Pst Θ l h₀ L m R Q E φ news s (M.bind (Mini.ofO o) f H)) (k: ∀a,o=some a->Pst Θ l h₀ L m R Q E φ news s (f a H)->C):C:=ofO_inv (G:=Pst Θ l h₀ L m R Q E φ news s) id h k
theorem Pst.ofO0 {o:Option β} (h:Pst Θ l h₀ L m R Q E φ news s (Mini.ofO o H)) (k: ∀a,o=some a->Pst Θ l h₀ L m R Q E φ news s (.ok a H)->C):C:=ofO_inv0 (G:=Pst Θ l h₀ L m R Q E φ news s) id h k
theorem Pst.getO {n:Nat}{f:O->M β} (h:Pst Θ l h₀ L m R Q E φ news s (M.bind (Mini.getO n) f H)) (k: ∀a,H[n]? =some a->Pst Θ l h₀ L m R Q E φ news s (f a H)->C):C:=getO_inv (G:=Pst Θ l h₀ L m R Q E φ news s) id h k
theorem Pst.getLs {n:Nat}{f:List V->M β} (h:Pst Θ l h₀ L m R Q E φ news s (M.bind (Mini.getLs n) f H)) (k: ∀a vs,H[n]? =some a->oList a=some vs->Pst Θ l h₀ L m R Q E φ news s (f vs H)->C):C:=getLs_inv (G:=Pst Θ l h₀ L m R Q E φ news s) id h k
theorem Pst.om {δ:Type}{o:Option δ}{b:M β}{f:δ->M β} (h:Pst Θ l h₀ L m R Q E φ news s (Mini.om o b f H)) (k1:o=none->Pst Θ l h₀ L m R Q E φ news s (b H)->C) (k2: ∀a,o=some a->Pst Θ l h₀ L m R Q E φ news s (f a H)->C):C:=om_inv (G:=Pst Θ l h₀ L m R Q E φ news s) h k1 k2
theorem Pst.ite {c:Prop} [Decidable c] {a:M β} (h:Pst Θ l h₀ L m R Q E φ news s ((if c then a else stuck:M β) H)) (k:c->Pst Θ l h₀ L m R Q E φ news s (a H)->C):C:=ite_inv (G:=Pst Θ l h₀ L m R Q E φ news s) id h k
theorem Pst.ite' {c:Prop} [Decidable c] {a:M β} (h:Pst Θ l h₀ L m R Q E φ news s ((if c then stuck else a:M β) H)) (k: ¬c->Pst Θ l h₀ L m R Q E φ news s (a H)->C):C:=ite_inv' (G:=Pst Θ l h₀ L m R Q E φ news s) id h k
theorem Pst.ite2 {c:Prop} [Decidable c] {a b:M β} (h:Pst Θ l h₀ L m R Q E φ news s ((if c then a else b:M β) H)) (k1:c->Pst Θ l h₀ L m R Q E φ news s (a H)->C) (k2: ¬c->Pst Θ l h₀ L m R Q E φ news s (b H)->C):C:=by
 by_cases q:c
 ·rw [if_pos q] at h;exact k1 q h
 ·rw [if_neg q] at h;exact k2 q h
end
theorem idxIn_get {x:Str}{l:List (Str × NameKind)}: ∀ {i:Nat},idxIn x l=some i->∃k,l[i]? =some (x,k):=by
 induction l with
 | nil=>intro i h;injection h
 | cons p r ih=>
  intro i h
  have h:(if p.1=x then some 0 else(idxIn x r).map (· + 1))=some i:=h
  by_cases e:p.1=x
  ·rw [if_pos e] at h
   obtain rfl:=Option.some.inj h
   exact⟨p.2,e▸rfl⟩
  ·rw [if_neg e] at h
   obtain⟨j,hj,rfl⟩:=Option.map_eq_some_iff.mp h
   exact ih hj
theorem idx_name {x y:Str}{k:NameKind}{l:List (Str × NameKind)}{i:Nat} (hi:idxIn x l=some i) (e:l[i]? =some (y,k)):y=x:=
 (idxIn_get hi).elim λ_ h=>(Prod.mk.inj (Option.some.inj (e.symm.trans h))).1
section
variable {Θ:Cx}{A:Around}{h₀:Gd}{L:Addr}{m:Str->Option Value}{φ:Phi}{H:Hp}{news:Nws}{s:Shared}{E:Value->Shared->Prop}
theorem pure_eq {α:Type} (a:α):(pure a:M α)=M.pure a:=rfl
theorem bind_eq {α β:Type} (x:M α) (f:α->M β):(x >>= f)=M.bind x f:=rfl
structure At (Θ:Cx) (A:Around) (n:Nat) (env:Env) (h₀:Gd) (L:Addr) (m:Str->Option Value) (φ:Phi) (H:Hp) (news:Nws) (s:Shared) (ρ:Lo):Prop where
 room:Room A n Θ.P.hd
 eo:EnvOK env L
 own:env.frame=some L->∃outer,A.frames=some (env :: outer)
 st:Stt Θ A.frames h₀ L m φ H news s.heap
 lr:LRel Θ env.scope.names env.cells m φ news ρ
theorem At.step {n:Nat}{env:Env}{ρ:Lo} (a:At Θ A n env h₀ L m φ H news s ρ) {gn:Array GenState}{dr:Drawn}{g:Gd}{φ':Phi}{H':Hp}{news':Nws}{h':Heap}{tk:Nat} (S:Stt Θ A.frames g L m φ' H' news' h') (x:Ext φ news φ' news') :
 At Θ A n env g L m φ' H' news' ⟨h',gn,dr,tk,s.os⟩ ρ:=⟨a.room,a.eo,a.own,S,a.lr.mono x⟩
end
noncomputable def SndE (Θ:Cx) (n:Nat) (env:Env) (x:X) (e:Expr):Prop:=
 ∀ {A:Around}{h₀:Gd}{L:Addr}{m:Str->Option Value}{φ:Phi}{H:Hp}{news:Nws}{s:Shared}{ρ:Lo}{Q:Value->Shared->Prop}{E:Value->Shared->Prop},
  At Θ A n env h₀ L m φ H news s ρ->Pst Θ A.frames h₀ L m (RV Θ) Q E φ news s (ev (run n Θ.P) Θ.P x ρ H)->wpAny Θ.M A (eval e env) Q E s
noncomputable def SndEs (Θ:Cx) (n:Nat) (env:Env) (xs:List X) (es:List Expr):Prop:=
 ∀ {A:Around}{h₀:Gd}{L:Addr}{m:Str->Option Value}{φ:Phi}{H:Hp}{news:Nws}{s:Shared}{ρ:Lo}{Q:List Value->Shared->Prop}{E:Value->Shared->Prop} (pos:Pos),
  At Θ A n env h₀ L m φ H news s ρ->Pst Θ A.frames h₀ L m (RVs Θ) Q E φ news s (evs (run n Θ.P) Θ.P xs ρ H)->wpAny Θ.M A (spliced (backTo pos (starEach es env))) Q E s
section
variable {Θ:Cx}{n:Nat}{env:Env}{A:Around}{h₀:Gd}{L:Addr}{m:Str->Option Value}{φ:Phi}{H:Hp}{news:Nws}{s:Shared}{ρ:Lo}{E:Value->Shared->Prop}
theorem snd_none {k:Nat}{pos:Pos}:SndE Θ n env .none (.Constant .none k pos):=λa hp=>wpAny_Constant_none (hp _ _ _ _ _ _ .rfl a.st (.refl _ _) .none)
theorem snd_bool {b:Bool}{k:Nat}{pos:Pos}:SndE Θ n env (.bool b) (.Constant (.bool b) k pos):=λa hp=>wpAny_Constant_bool (hp _ _ _ _ _ _ .rfl a.st (.refl _ _) (.bool b))
theorem snd_int {i:Int}{k:Nat}{pos:Pos}:SndE Θ n env (.int i) (.Constant (.int i) k pos):=λa hp=>wpAny_Constant_int (hp _ _ _ _ _ _ .rfl a.st (.refl _ _) (.int i _))
theorem snd_str {x:Str}{k:Nat}{pos:Pos}:SndE Θ n env (.str x) (.Constant (.str x) k pos):=λa hp=>wpAny_Constant_str (hp _ _ _ _ _ _ .rfl a.st (.refl _ _) (.str x _))
theorem snd_bin {x y:X}{a b:Expr}{op:Operator}{pos:Pos} (hx:SndE Θ n env x a) (hy:SndE Θ n env y b)
 (ho: ∀ {A:Around}{h₀:Gd}{L:Addr}{m:Str->Option Value}{φ:Phi}{H:Hp}{news:Nws}{s:Shared}{Q:Value->Shared->Prop}{E:Value->Shared->Prop}{v w:V}{p q:Value},Room A n Θ.P.hd->Stt Θ A.frames h₀ L m φ H news s.heap->VRel Θ.τ φ news v p->VRel Θ.τ φ news w q->
  Pst Θ A.frames h₀ L m (RV Θ) Q E φ news s (binOp op v w H)->wpAny Θ.M A (binaryOp op p q) Q E s):SndE Θ n env (.bin op x y) (.BinOp a op b pos):=λat_ hp=>by
 refine wpAny_BinOp (hx at_ ?_)
 refine Pst.bind hp λg₁ φ₁ news₁ h₁ tk v p H₁ T₁ S₁ x₁ r₁ hp₁=>hy (at_.step S₁ x₁) ?_
 refine Pst.bind hp₁ λg₂ φ₂ news₂ h₂ tk₂ w q H₂ T₂ S₂ x₂ r₂ hp₂=>ho at_.room S₂ (r₁.mono x₂) r₂ hp₂
theorem snd_loc {x:Str}{i:Nat}{pos:Pos} (hi:idxIn x env.scope.names=some i) (hk:env.scope.names.lookup x=some .local) (hd:(x == ("__debug__" :Str))=false):SndE Θ n env (.loc i) (.Name x pos):=λ {A h₀ L m φ H news s ρ Q E} a hp=>
 Pst.ofO hp λo ho hp=>Pst.ofO0 hp λv hv hp=>(a.lr.loc i v (hv▸ho)).elim λy e=>e.elim λval e=>
  wpAny_Name (wpAny_loadName_local a.eo.kind hk (by rw [a.eo.loc];exact a.st.fr.ns) (idx_name hi e.1▸e.2.1) (hp _ _ _ _ _ _ .rfl a.st (.refl _ _) e.2.2)) hd
end
noncomputable abbrev iterO (a:Addr):Obj:={cls:= .type "list_iterator",data:= .fields #[.ref a, .int 0 0] }
noncomputable def RI (Θ:Cx) (φ:Phi) (news:Nws) (v:V) (val:Value):Prop:=
 VRel Θ.τ φ news v val\/∃ (l:Nat) (i:Addr) (p:Addr × Addr),v= .it l/\val= .ref i/\φ[l]? =some p/\(i,iterO p.1)∈news/\∀q∈Θ.pin,q.1≠i
theorem RI.inv {Θ:Cx}{φ:Phi}{news:Nws}{v:V}{val:Value}{C:Prop} (r:RI Θ φ news v val) (k1:VRel Θ.τ φ news v val->C) (k2: ∀l,v= .it l->C):C:=r.elim k1 λh=>h.elim λl h=>h.elim λ_ h=>h.elim λ_ h=>k2 l h.1
noncomputable def KRel (Θ:Cx) (φ:Phi) (news:Nws) (kw:List (Str × V)) (kv:List (Str × Value)):Prop:=
 kw.map (·.1)=kv.map (·.1)/\VRels Θ.τ φ news (kw.map (·.2)) (kv.map (·.2))
theorem KRel.nil {Θ:Cx}{φ:Phi}{news:Nws}:KRel Θ φ news [] []:=⟨rfl, .nil⟩
theorem KRel.mono {Θ:Cx}{φ φ':Phi}{news news':Nws} (x:Ext φ news φ' news') {kw:List (Str × V)}{kv:List (Str × Value)} (h:KRel Θ φ news kw kv):KRel Θ φ' news' kw kv:=⟨h.1,VRels.mono x h.2⟩
noncomputable def SndC (Θ:Cx) (n:Nat):Prop:=
 ∀ {A:Around}{h₀:Gd}{L:Addr}{m:Str->Option Value}{φ:Phi}{H:Hp}{news:Nws}{s:Shared}{f:Nat}{a:Addr}{args:List V}{vals:List Value}{kw:List (Str × V)}{kvs:List (Str × Value)}{Q:Value->Shared->Prop}{E:Value->Shared->Prop},
  RoomC A n Θ.P.hd->Stt Θ A.frames h₀ L m φ H news s.heap->Θ.τ.fa f=some a->VRels Θ.τ φ news args vals->KRel Θ φ news kw kvs->
  Pst Θ A.frames h₀ L m (RI Θ) Q E φ news s (run n Θ.P f [] args kw H)->wpAny Θ.M A (call (.ref a) vals kvs) Q E s
noncomputable def specials:List (Nat × Str):= [(nInit, "__init__"),(nIter, "__iter__"),(nLen, "__len__"),(nBool, "__bool__"),(nContains, "__contains__"),(nEq, "__eq__"),(nLt, "__lt__"),(nGt, "__gt__"),(nGetitem, "__getitem__"),(nSetitem, "__setitem__")]
structure Stat (Θ:Cx):Prop where
 nmnd:Θ.τ.nm.Nodup
 sp: ∀p∈specials,Θ.τ.nm[p.1]? =some p.2
 meth: ∀ (c m f:Nat) (C:Addr) (name:Str),Θ.P.getM c m=some f->Θ.P.cms.contains f=false->Θ.τ.ca c=some C->Θ.τ.nm[m]? =some name->
  ∃a,Θ.τ.fa f=some a/\findIn Θ.K (.ref C) name=some (some (.ref a))/\isFn Θ.K (.ref a)=true/\fnIn Θ.K a=true
 spm: ∀ (c m f:Nat),Θ.P.getM c m=some f->m < 10->Θ.P.cms.contains f=false
 noB: ∀ (c:Nat) (C:Addr),Θ.τ.ca c=some C->Θ.P.getM c nBool=none->findIn Θ.K (.ref C) "__bool__" =some none
 noL: ∀ (c:Nat) (C:Addr),Θ.τ.ca c=some C->Θ.P.getM c nLen=none->findIn Θ.K (.ref C) "__len__" =some none
 cls: ∀ (c:Nat) (C:Addr),Θ.τ.ca c=some C->plainGet Θ.K C "" =true
 clsD: ∀ (c:Nat) (C:Addr),Θ.τ.ca c=some C->hasDictIn Θ.K C=true
 clsO: ∀ (c:Nat) (C:Addr),Θ.τ.ca c=some C->plainOver Θ.K C=true
 clsS: ∀ (c:Nat) (C:Addr),Θ.τ.ca c=some C->findIn Θ.K (.ref C) "__setattr__" =some (some (.builtin "object.__setattr__"))
 clsM: ∀ (c:Nat) (C:Addr),Θ.τ.ca c=some C->makesIn Θ.K C=true
 attr: ∀ (c a:Nat) (C:Addr) (name:Str),Θ.τ.ca c=some C->Θ.P.isAt c a=true->Θ.τ.nm[a]? =some name->findIn Θ.K (.ref C) name=some none
 attrT: ∀ (c a:Nat) (C:Addr) (name:Str),Θ.τ.ca c=some C->Θ.P.isAt c a=true->Θ.τ.nm[a]? =some name->takerIn Θ.K C name=some none
section
variable {Θ:Cx}{n:Nat}{env:Env}{A:Around}{h₀:Gd}{h:Heap}{L:Addr}{m:Str->Option Value}{φ:Phi}{H:Hp}{news:Nws}{s:Shared}{ρ:Lo}{E:Value->Shared->Prop}
noncomputable abbrev RdV (h:Heap) (v:V) (p:Value):Prop:=∀ {d:PyData},toPy v=some d->∃as,Reads h p d as
theorem rd_all {h:Heap}{vs:List V}{ps:List Value} (r:All2 (RdV h) vs ps): ∀ {ds:List PyData},toPys vs=some ds->∃as,ReadsAll h ps ds as:=by
 induction r with
 | nil=>intro ds e;obtain rfl:=Option.some.inj e;exact⟨_,ReadsAll.nil⟩
 | @cons v vs p ps hv _ ih=>
  intro ds e
  obtain⟨d,h1,e⟩:=Option.bind_eq_some_iff.mp e
  obtain⟨ds',h2,rfl⟩:=Option.map_eq_some_iff.mp e
  exact(hv h1).elim λas q=>(ih h2).elim λbs q2=>⟨_,ReadsAll.cons q q2⟩
theorem rd_tup {a:Addr}{its:Array Value}{k:Nat}{vs:List V} (N:News h₀.h L h news) (hm:(a,tupO its k)∈news) (q:All2 (RdV h) vs its.toList):RdV h (.tup vs) (.ref a):=λ {d} e=>by
 obtain⟨ds,hds,rfl⟩:=Option.map_eq_some_iff.mp e
 exact(rd_all q hds).elim λas q=>⟨as,reads_tuple_at (N.get hm) rfl rfl q⟩
theorem rd_str {x:Str}{t:Tok}:RdV h (.str x) (.str x t):=λ {d} e=>by
 obtain⟨_,e⟩:=Option.ite_none_right_eq_some.mp e
 obtain rfl:=Option.some.inj e
 exact⟨_,Reads.str x t⟩
theorem rd_no {v:V}{p:Value} (z:toPy v=none):RdV h v p:=λ {d} e=>nos (z.symm.trans e)
theorem VRel.reads {τ:Tabs} (N:News h₀.h L h news) {v:V}{p:Value}{d:PyData} (r:VRel τ φ news v p):toPy v=some d->∃as,Reads h p d as:=
 VRel.rec (motive:=λv p _=>RdV h v p)
  (λ {d} e=>Option.some.inj e▸⟨_,Reads.none⟩) (λb {d} e=>Option.some.inj e▸⟨_,Reads.bool b⟩) (λi t {d} e=>Option.some.inj e▸⟨_,Reads.int i t⟩) (λx t=>rd_str)
  (λhm hl _ q=>rd_tup N hm (.of_get hl q)) (λ_=>rd_no rfl) (λ_=>rd_no rfl) (λ_=>rd_no rfl) (λ_=>rd_no rfl) (λ_=>rd_no rfl) (λ_ _ _ _ _=>rd_no rfl) (λ_=>rd_no rfl) r
theorem VRels.reads {τ:Tabs} (N:News h₀.h L h news) {vs:List V}{ps:List Value}{ds:List PyData} (r:VRels τ φ news vs ps):toPys vs=some ds->∃as,ReadsAll h ps ds as:=
 rd_all (All2.mono r λ_ _ r {_}=>r.reads N)
theorem peqO_some {a b:Option PyData}{r:Bool} (h:peqO a b=some r): ∃d e,a=some d/\b=some e/\SeqAt.shaped d=true/\SeqAt.shaped e=true/\r=PyData.eqv d e:=by
 obtain⟨d,h1,h⟩:=Option.bind_eq_some_iff.mp h
 obtain⟨e,h2,h⟩:=Option.bind_eq_some_iff.mp h
 obtain⟨q,h⟩:=Option.ite_none_right_eq_some.mp h
 exact⟨d,e,h1,h2,(Bool.and_eq_true_iff.mp q).1,(Bool.and_eq_true_iff.mp q).2,(Option.some.inj h).symm⟩
theorem peq_some {a b:V}{r:Bool} (h:peq a b=some r): ∃d e,toPy a=some d/\toPy b=some e/\SeqAt.shaped d=true/\SeqAt.shaped e=true/\r=PyData.eqv d e:=peqO_some h
theorem wp_peq {a b:V}{p q:Value}{r:Bool}{Q:Value->Shared->Prop} (N:News h₀.h L s.heap news) (hu:A.units + 64 < cLine) (ra:VRel Θ.τ φ news a p) (rb:VRel Θ.τ φ news b q) (e:peq a b=some r) (hq:Q (.bool r) s) :
 wpAny Θ.M A (compareOp .Eq p q) Q E s:=by
 obtain⟨d,e',h1,h2,h3,h4,rfl⟩:=peq_some e
 obtain⟨as,ra'⟩:=ra.reads N h1
 obtain⟨bs,rb'⟩:=rb.reads N h2
 exact eq_dataH ra' rb' h3 h4 hu hq
theorem wp_pne {a b:V}{p q:Value}{r:Bool}{Q:Value->Shared->Prop} (N:News h₀.h L s.heap news) (hu:A.units + 64 < cLine) (ra:VRel Θ.τ φ news a p) (rb:VRel Θ.τ φ news b q) (e:peq a b=some r) (hq:Q (.bool (!r)) s) :
 wpAny Θ.M A (compareOp .NotEq p q) Q E s:=by
 obtain⟨d,e',h1,h2,h3,h4,rfl⟩:=peq_some e
 obtain⟨as,ra'⟩:=ra.reads N h1
 obtain⟨bs,rb'⟩:=rb.reads N h2
 exact ne_dataH ra' rb' h3 h4 hu hq
theorem Room.c {hd:Bool}{n:Nat} (r:Room A n hd):RoomC A n hd:=⟨Nat.lt_of_le_of_lt (Nat.add_le_add_left (Nat.add_le_add_left (by decide) _) _) r.depth,Nat.lt_of_le_of_lt (Nat.add_le_add_left (Nat.add_le_add_left (by decide) _) _) r.units,r.hand⟩
theorem RoomN.down {hd:Bool}{d u i j:Nat}{B:Around} (r:RoomN A d u hd) {d' u':Nat} (e1:B.depth=A.depth + i) (e2:B.units=A.units + j) (h1:i + d'<=d) (h2:j + u'<=u) (hh:B.handled=A.handled):RoomN B d' u' hd:=
 ⟨by rw [e1,Nat.add_assoc];exact Nat.lt_of_le_of_lt (Nat.add_le_add_left h1 _) r.depth,by rw [e2,Nat.add_assoc];exact Nat.lt_of_le_of_lt (Nat.add_le_add_left h2 _) r.units,λh=>hh.trans (r.hand h)⟩
theorem rD {m i a b:Nat} (h:i + a<=b):i + (m + a)<=m + b:=by rw [Nat.add_left_comm];exact Nat.add_le_add_left h _
theorem Room.in1 {hd:Bool}{n:Nat} (r:Room A n hd):RoomC A.in1 n hd:=r.down (i:=0) A.in1_depth A.in1_units (rD (by decide)) (rD (by decide)) rfl
theorem Room.in2 {hd:Bool}{n:Nat} (r:Room A n hd):RoomC A.in1.in1 n hd:=r.down (i:=0) (j:=2) (A.in1.in1_depth.trans A.in1_depth) (A.in1.in1_units.trans (congrArg (λx:Nat=>x + 1) A.in1_units)) (rD (by decide)) (rD (by decide)) rfl
theorem Room.u64 {hd:Bool}{n:Nat} (r:Room A n hd):A.units + 64 < cLine:=Nat.lt_of_le_of_lt (Nat.add_le_add_left (Nat.le_trans (by decide) (Nat.le_add_left 300 (40 * n))) _) r.units
theorem Room.u {hd:Bool}{n:Nat} (r:Room A n hd):A.units < cLine:=Nat.lt_of_le_of_lt (Nat.le_add_right _ _) r.units
end
theorem ite_app {α:Type}{c:Prop} [Decidable c] (a b:M α) (H:Hp):(if c then a else b) H=if c then a H else b H:=by
 by_cases h:c
 ·rw [if_pos h,if_pos h]
 ·rw [if_neg h,if_neg h]
noncomputable abbrev RE {α:Type}:Phi->Nws->α->α->Prop:=λ_ _ a b=>a=b
section
variable {Θ:Cx}{n:Nat}{env:Env}{A:Around}{h₀:Gd}{h:Heap}{L:Addr}{m:Str->Option Value}{φ:Phi}{H:Hp}{news:Nws}{s:Shared}{ρ:Lo}{E:Value->Shared->Prop}{l:Nat}{p:Addr × Addr}{o:O}
theorem OInst.at {c:Nat}{at_:List (Nat × V)}{C:Addr}{es:List DictEntry}{k:Nat} (i:OInst Θ.τ φ news c at_ p C es k) (S:Stt Θ A.frames h₀ L m φ H news h):InstAt h p.1 (instObj C p.2) C (some (dictOf es k)):=⟨S.nw.get i.self,rfl,rfl,S.nw.get i.dict⟩
theorem ODict.at {kvs:List (Int × V)}{ob:Obj}{kv:List (Int × Value)} (d:ODict Θ.τ φ news kvs p ob kv) (S:Stt Θ A.frames h₀ L m φ H news h):h.DictOf (intKind Θ.τ.prog Θ.τ.w) p.1 kv:=Heap.dictOf_iff.mpr ⟨_,S.nw.get d.self,d.kind⟩
theorem ODict.len {τ:Tabs}{kvs:List (Int × V)}{ob:Obj}{kv:List (Int × Value)} (d:ODict τ φ news kvs p ob kv):kv.length=kvs.length:=by simpa only [List.length_map] using congrArg List.length d.keys
theorem OList.at {vs:List V}{its:Array Value}{k:Nat} (d:OList Θ.τ φ news vs p its k) (S:Stt Θ A.frames h₀ L m φ H news h):h.IsList p.1 its:=⟨_,S.nw.get d.self,rfl,_,rfl⟩
theorem OList.len {τ:Tabs}{vs:List V}{its:Array Value}{k:Nat} (d:OList τ φ news vs p its k):its.size=vs.length:=d.items.length.symm
theorem OList.lt {τ:Tabs}{vs:List V}{its:Array Value}{k:Nat} (d:OList τ φ news vs p its k):(its.size:Int) < 2 ^ 63:=Int.ofNat_lt.mpr (Nat.lt_of_le_of_lt (d.len▸d.small) (by decide:2 ^ 20 < 2 ^ 63))
section
variable {G:Prop}
theorem inst_at {q:Nat × List (Nat × V)} (S:Stt Θ A.frames h₀ L m φ H news h) (hl:φ[l]? =some p) (ho:H[l]? =some o) (hq:oInst o=some q) (f: ∀C es k,OInst Θ.τ φ news q.1 q.2 p C es k->G):G:=
 (show OAt Θ.τ φ news (.inst q.1 q.2) p from oInst_eq hq▸S.rep.at_ l _ p ho hl).elim λC d=>d.elim λes d=>d.elim λk d=>f C es k d
theorem dict_at {kvs:List (Int × V)} (S:Stt Θ A.frames h₀ L m φ H news h) (hl:φ[l]? =some p) (ho:H[l]? =some o) (hq:oDict o=some kvs) (f: ∀ob kv,ODict Θ.τ φ news kvs p ob kv->G):G:=
 (show OAt Θ.τ φ news (.dict kvs) p from oDict_eq hq▸S.rep.at_ l _ p ho hl).elim λob d=>d.elim λkv d=>f ob kv d
theorem list_at {vs:List V} (S:Stt Θ A.frames h₀ L m φ H news h) (hl:φ[l]? =some p) (ho:H[l]? =some o) (hq:oList o=some vs) (f: ∀its k,OList Θ.τ φ news vs p its k->G):G:=
 (show OAt Θ.τ φ news (.list vs) p from oList_eq hq▸S.rep.at_ l _ p ho hl).elim λits d=>d.elim λk d=>f its k d
end
theorem scr_at {G:Prop} (S:Stt Θ A.frames h₀ L m φ H news h) {q:Value} (rv:VRel Θ.τ φ news .scr q) (f: ∀a its,q= .ref a->h.IsList a its->All2 (λi v=>∃t,v=Value.int i t) Θ.P.scr its.toList->its.size<=2 ^ 20->G):G:=
 (show VInv Θ.τ φ news .scr q from rv.inv).elim λa e=>(S.top.scr a e.2).elim λits h=>f a its e.1 (lst_keeps h.1 S.fr.keep) h.2.1 h.2.2
theorem isScr_eq {v:V} (h:isScr v=true):v= .scr:=by
 cases v <;> first | rfl | exact Bool.noConfusion h
theorem wp_boolBack {f:Nat}{a:Addr}{args:List V}{vals:List Value}{Q:Bool->Shared->Prop} (hC:SndC Θ n) (r:RoomC A n Θ.P.hd) (S:Stt Θ A.frames h₀ L m φ H news s.heap)
 (hf:Θ.τ.fa f=some a) (ra:VRels Θ.τ φ news args vals) (hp:Pst Θ A.frames h₀ L m RE Q E φ news s ((do asBool (<- run n Θ.P f [] args []):M Bool) H)):wpAny Θ.M A (call (.ref a) vals) (W.BoolBack Q) E s:=
 hC r S hf ra .nil (Pst.bind hp λg₁ φ₁ news₁ h₁ tk v p H₁ T₁ S₁ x₁ r₁ hp=>Pst.ofO0 hp λc hc hp=>r₁.inv (λr₁=>r₁.boolI hc▸hp _ _ _ _ _ _ .rfl S₁ (.refl _ _) rfl) λl e=>nos (e▸hc:vBool (.it l)=some c))
theorem int_ne (i:Int):(i != 0)=decide (i≠0):=by
 by_cases q:i=0
 ·subst q;rfl
 ·rw [decide_eq_true q];exact bne_iff_ne.mpr q
theorem empty_eq {α β:Type}{vs:List α}{its:Array β} (h:its.size=vs.length):its.isEmpty=vs.isEmpty:=by
 cases vs with
 | nil=>exact decide_eq_true h
 | cons x y=>exact decide_eq_false (by rw [h];exact Nat.succ_ne_zero _)
theorem wp_truthy {v:V}{p:Value}{Q:Bool->Shared->Prop} (st:Stat Θ) (hC:SndC Θ n) (r:Room A n Θ.P.hd) (S:Stt Θ A.frames h₀ L m φ H news s.heap)
 (rv:VRel Θ.τ φ news v p) (hp:Pst Θ A.frames h₀ L m RE Q E φ news s (truthy (run n Θ.P) Θ.P v H)):wpAny Θ.M A (PySem.truthy p) Q E s:=by
 cases v with
 | none=>rw [show p= .none from rv.inv];exact wpAny_pure (hp _ _ _ _ _ _ .rfl S (.refl _ _) rfl)
 | bool c=>rw [show p= .bool c from rv.inv];exact wpAny_truthy_bool (hp _ _ _ _ _ _ .rfl S (.refl _ _) rfl)
 | int i=>exact rv.intI rfl λt=>truthy_int (int_ne i▸hp _ _ _ _ _ _ .rfl S (.refl _ _) rfl)
 | ref l=>
  refine rv.refI rfl λp hl=>Pst.getO hp λo ho hp=>Pst.om hp (λ_ hp=> ?_) λq hi hp=>inst_at S hl ho hi λC es k d=>Pst.om hp (λhb hp=> ?_) λf hb hp=> ?_
  ·exact Pst.ofO hp λvs hv hp=>list_at S hl ho hv λits k d=>wpAny_truthy_list (d.at S) d.lt (empty_eq d.len▸hp _ _ _ _ _ _ .rfl S (.refl _ _) rfl)
  ·exact Pst.ite' hp λhn hp=>truthy_K0 S.fr S.top.k (d.at S) (st.noB q.1 C d.ca hb) (st.noL q.1 C d.ca (Option.not_isSome_iff_eq_none.mp hn)) (hp _ _ _ _ _ _ .rfl S (.refl _ _) rfl)
  ·exact(st.meth q.1 nBool f C "__bool__" hb (st.spm q.1 nBool f hb (by decide)) d.ca (st.sp (nBool, "__bool__") (by decide))).elim λa e=>truthy_K S.fr S.top.k (d.at S) e.2.1 e.2.2.1 (wp_boolBack hC r.c S e.1 (.cons (.ref hl) .nil) hp)
 | _=>exact hp.elim
end
section
variable {τ:Tabs}{φ:Phi}{news:Nws}
theorem nm_inj (nd:τ.nm.Nodup) {a b:Nat}{x:Str} (ha:τ.nm[a]? =some x) (hb:τ.nm[b]? =some x):a=b:=by
 exact(List.getElem?_inj (List.getElem?_eq_some_iff.mp ha).1 nd).mp (ha.trans hb.symm)
theorem isStr_self (x:Str) (t:Tok):(Value.str x t).isStr x=true:=by simp [Value.isStr]
theorem isStr_ne {x y:Str} (t:Tok) (h:x≠y):(Value.str x t).isStr y=false:=by simp [Value.isStr,h]
theorem ARel.noRef {r:List (Nat × V)}{es:List DictEntry} (h:ARel τ φ news r es):es.any (·.refKey)=false:=by
 induction h with
 | nil=>rfl
 | cons h1 h2 h3 _ ih=>
  rw [List.any_cons,ih,Bool.or_false]
  unfold DictEntry.refKey
  rw [h2]
theorem ARel.find (nd:τ.nm.Nodup) {a:Nat}{name:Str} (hn:τ.nm[a]? =some name) {r:List (Nat × V)}{es:List DictEntry} (h:ARel τ φ news r es) :
 (∃v e,r.lookup a=some v/\es.find? (·.key.isStr name)=some e/\VRel τ φ news v e.val)\/(r.lookup a=none/\es.find? (·.key.isStr name)=none):=by
 induction h with
 | nil=>exact .inr ⟨rfl,rfl⟩
 | @cons k v r e es nm t h1 h2 h3 _ ih=>
  rw [List.lookup_cons,List.find?_cons,h2]
  by_cases q:a=k
  ·subst q
   obtain rfl:=Option.some.inj (h1.symm.trans hn)
   rw [isStr_self,beq_self_eq_true]
   exact .inl ⟨v,e,rfl,rfl,h3⟩
  ·rw [isStr_ne t λz:nm=name=>q (nm_inj nd hn (z▸h1)),beq_false_of_ne q]
   exact ih
theorem ARel.getL_some (nd:τ.nm.Nodup) {a:Nat}{name:Str} (hn:τ.nm[a]? =some name) {r:List (Nat × V)}{es:List DictEntry} (h:ARel τ φ news r es) {v:V} (hv:r.lookup a=some v) {C:Prop}
 (k: ∀val,getL name es=some (some val)->VRel τ φ news v val->C):C:=by
 rcases h.find nd hn with⟨w,e,h1,h2,h3⟩ | ⟨h1,_⟩
 ·exact k e.val (by unfold getL;rw [h2]) (Option.some.inj (h1.symm.trans hv)▸h3)
 ·exact nos (h1.symm.trans hv)
theorem ARel.getL_none (nd:τ.nm.Nodup) {a:Nat}{name:Str} (hn:τ.nm[a]? =some name) {r:List (Nat × V)}{es:List DictEntry} (h:ARel τ φ news r es) (hv:r.lookup a=none):getL name es=some none:=by
 rcases h.find nd hn with⟨w,e,h1,h2,h3⟩ | ⟨_,h2⟩
 ·exact nos (hv.symm.trans h1)
 ·unfold getL
  rw [h2,h.noRef];rfl
theorem ARel.getL_isSome (nd:τ.nm.Nodup) {a:Nat}{name:Str} (hn:τ.nm[a]? =some name) {r:List (Nat × V)}{es:List DictEntry} (h:ARel τ φ news r es):(getL name es).isSome=true:=by
 cases hv:r.lookup a with
 | none=>rw [h.getL_none nd hn hv];rfl
 | some v=>exact h.getL_some nd hn hv λval e _=>by rw [e];rfl
theorem ARel.put (nd:τ.nm.Nodup) {a:Nat}{name:Str} (hn:τ.nm[a]? =some name) {v:V}{val:Value} (hr:VRel τ φ news v val) (hsh:Int) (t:Tok) {r:List (Nat × V)}{es:List DictEntry} (h:ARel τ φ news r es) :
 ARel τ φ news (putA a v r) (putL name hsh (.str name t) val es):=by
 induction h with
 | nil=>exact .cons hn rfl hr .nil
 | @cons k w r e es nm u h1 h2 h3 h4 ih=>
  unfold putL
  rw [h2]
  by_cases q:k=a
  ·subst q
   obtain rfl:=Option.some.inj (h1.symm.trans hn)
   rw [show putA k v ((k,w) :: r)=_ from if_pos rfl,isStr_self,if_pos rfl]
   exact .cons h1 rfl hr h4
  ·rw [show putA a v ((k,w) :: r)=_ from if_neg q,isStr_ne u λz:nm=name=>q (nm_inj nd (z▸h1) hn),if_neg (by decide)]
   exact .cons h1 h2 h3 ih
theorem putL_length (name:Str) (hsh:Int) (key v:Value) (es:List DictEntry):(putL name hsh key v es).length<=es.length + 1:=by
 induction es with
 | nil=>exact Nat.le_refl 1
 | cons e r ih=>
  unfold putL
  by_cases q:e.key.isStr name=true
  ·rw [if_pos q];exact Nat.le_succ _
  ·rw [if_neg q];exact Nat.succ_le_succ ih
theorem ARel.length {r:List (Nat × V)}{es:List DictEntry} (h:ARel τ φ news r es):es.length=r.length:=by
 induction h with
 | nil=>rfl
 | cons _ _ _ _ ih=>exact congrArg (· + 1) ih
theorem bval_handed (b:B):handedIn (bval b)=true:=by cases b <;> decide +kernel
theorem VRel.handed {v:V}{p:Value} (h:VRel τ φ news v p):handedIn p=true:=
 VRel.rec (motive:=λ_ p _=>handedIn p=true) rfl (λ_=>rfl) (λ_ _=>rfl) (λ_ _=>rfl) (λ_ _ _ _=>rfl) (λ_=>rfl) (λ_=>rfl) (λ_=>rfl) bval_handed (λ_=>rfl) (λ_ _ _ _ _=>rfl) (λ_=>rfl) h
end
section
variable {Θ:Cx}{n:Nat}{env:Env}{A:Around}{h₀:Gd}{h:Heap}{L:Addr}{m:Str->Option Value}{φ:Phi}{H:Hp}{news:Nws}{s:Shared}{ρ:Lo}{E:Value->Shared->Prop}
theorem wp_getA {v:V}{p:Value}{a:Nat}{name:Str}{expr:Bool}{Q:Value->Shared->Prop} (st:Stat Θ) (S:Stt Θ A.frames h₀ L m φ H news s.heap) (hn:Θ.τ.nm[a]? =some name)
 (rv:VRel Θ.τ φ news v p) (hp:Pst Θ A.frames h₀ L m (RV Θ) Q E φ news s (getA Θ.P v a H)):wpAny Θ.M A (getAttr p name expr) Q E s:=by
 refine Pst.ofO hp λl hv hp=>Pst.getO hp λo ho hp=>Pst.ofO hp λq hq hp=>Pst.ite hp λhat hp=>Pst.ofO0 hp λw hw hp=> ?_
 refine rv.refI hv λp hl=>inst_at S hl ho hq λC es k d=>d.at_.getL_some st.nmnd hn hw λval hg hr=> ?_
 exact get_own S.fr S.top.k (d.at S) (st.cls q.1 C d.ca) (st.clsD q.1 C d.ca) (st.attr q.1 a C name d.ca hat hn) rfl hg hr.handed (hp _ _ _ _ _ _ .rfl S (.refl _ _) hr)
theorem wp_setA {v x:V}{p q:Value}{a:Nat}{name:Str}{Q:Unit->Shared->Prop} (st:Stat Θ) (S:Stt Θ A.frames h₀ L m φ H news s.heap) (hn:Θ.τ.nm[a]? =some name)
 (rv:VRel Θ.τ φ news v p) (rx:VRel Θ.τ φ news x q) (hp:Pst Θ A.frames h₀ L m RE Q E φ news s (setA Θ.P v a x H)):wpAny Θ.M A (setAttr p name q) Q E s:=by
 refine Pst.ofO hp λl hv hp=>Pst.getO hp λo ho hp=>Pst.ofO hp λy hy hp=>Pst.ite hp λhat hp=> ?_
 refine rv.refI hv λp hl=>inst_at S hl ho hy λC es k d=> ?_
 have hlen: ∀u,(putL name (PyData.keyHash Θ.τ.w.params name) u q es).length<=801:=λu=>Nat.le_trans (putL_length name _ u q es) (Nat.succ_le_succ (d.at_.length▸hat.2))
 refine set_dict S.fr S.top.k S.nw (d.at S) rfl (st.clsS y.1 C d.ca) (st.clsO y.1 C d.ca) (st.attrT y.1 a C name d.ca hat.1 hn) (st.clsD y.1 C d.ca) (d.at_.getL_isSome st.nmnd hn) rfl (rpl_upd news d.dict S.nd) (Nat.le_trans (hlen (.str name (s.toks + 1))) (by decide)) λh' F' N'=> ?_
 have X:=ext_rpl (φ:=φ) (ob:=dictOf (putL name (PyData.keyHash Θ.τ.w.params name) (.str name (s.toks + 1)) q es) (putN name es k)) S d.dict rfl
 exact hp _ φ _ h' _ () .rfl (S.set hl (.inr rfl) d.dict rfl F' N' ⟨C,_,_,d.ca,rpl_other d.self d.ne,rpl_self d.dict,(d.at_.mono X).put st.nmnd hn (rx.mono X) _ _,Nat.le_trans (hlen _) (by decide),d.ne⟩) X rfl
end
theorem tlt_eq (a b:Value):Builtin.«tuple.__lt__» ⟨[a,b],[]⟩=(do
 if !(<- isInstance b (.type "tuple")) then return <- ret .notImplemented
 let xs <- Builtin.Tuple.tupleItemsOf a
 let ys <- Builtin.Tuple.tupleItemsOf b
 for (x,y) in xs.toList.zip ys.toList do
  if !(<- eqBool x y) then
   rule "tuple.compare.by-the-first-pair-that-differs";return <- ret (<- richCompare .Lt x y)
 ret (Builtin.Tuple.tupleCompareSizes .Lt xs.size ys.size)):=rfl
theorem tgt_eq (a b:Value):Builtin.«tuple.__gt__» ⟨[a,b],[]⟩=(do
 if !(<- isInstance b (.type "tuple")) then return <- ret .notImplemented
 let xs <- Builtin.Tuple.tupleItemsOf a
 let ys <- Builtin.Tuple.tupleItemsOf b
 for (x,y) in xs.toList.zip ys.toList do
  if !(<- eqBool x y) then
   rule "tuple.compare.by-the-first-pair-that-differs";return <- ret (<- richCompare .Gt x y)
 ret (Builtin.Tuple.tupleCompareSizes .Gt xs.size ys.size)):=rfl
section
variable {Θ:Cx}{n:Nat}{env:Env}{A:Around}{h₀:Gd}{h:Heap}{L:Addr}{m:Str->Option Value}{φ:Phi}{H:Hp}{news:Nws}{s:Shared}{ρ:Lo}{E:Value->Shared->Prop}
theorem wp_eqBool {a b:V}{p q:Value}{r:Bool}{Q:Bool->Shared->Prop} (N:News h₀.h L s.heap news) (hu:A.units + 64 < cLine) (ra:VRel Θ.τ φ news a p) (rb:VRel Θ.τ φ news b q) (e:peq a b=some r) (hq:Q r s) :
 wpAny Θ.M A (eqBool p q) Q E s:=by
 obtain⟨d,e',h1,h2,h3,h4,rfl⟩:=peq_some e
 obtain⟨as,ra'⟩:=ra.reads N h1
 obtain⟨bs,rb'⟩:=rb.reads N h2
 exact SeqAt.eqAt_reads _ _ A s p q as bs ra' rb' (SeqAt.canLay_of_shaped h3) (SeqAt.canLay_of_shaped h4) (SeqAt.room_of_shaped h3 hu) _ _ E Q hq
noncomputable def opOf (g:Bool):CmpOp:=if g then .Gt else .Lt
theorem n02 {G:Prop} (h:(0:Nat)=2):G:=by injection h
theorem n03 {G:Prop} (h:(0:Nat)=3):G:=by injection h
theorem n12 {G:Prop} (h:(1:Nat)=2):G:=absurd h (by decide)
theorem n13 {G:Prop} (h:(1:Nat)=3):G:=absurd h (by decide)
theorem n23 {G:Prop} (h:(2:Nat)=3):G:=absurd h (by decide)
theorem n32 {G:Prop} (h:(3:Nat)=2):G:=absurd h (by decide)
theorem kd2 {v:V} (h:kd v=2):v= .int (intOf v):=by
 cases v <;> first | rfl | exact n02 h | exact n12 h | exact n32 h
theorem kd3 {v:V} (h:kd v=3):v= .str (strOf v):=by
 cases v <;> first | rfl | exact n03 h | exact n13 h | exact n23 h
theorem pord0_val {g c:Bool}{v w:V} (e:pord0 g v w= .val c):(∃i j,v= .int i/\w= .int j/\(if g then decide (i > j) else decide (i < j))=c)\/(∃x y,v= .str x/\w= .str y/\(if g then str_lt y x else str_lt x y)=c):=by
 unfold pord0 at e
 by_cases h:kd v=2/\kd w=2
 ·rw [if_pos h] at e
  exact .inl ⟨_,_,kd2 h.1,kd2 h.2,LtR.valI e⟩
 rw [if_neg h] at e
 by_cases h:kd v=3/\kd w=3
 ·rw [if_pos h] at e
  exact .inr ⟨_,_,kd3 h.1,kd3 h.2,LtR.valI e⟩
 rw [if_neg h] at e
 by_cases h:kd v≠0/\kd w≠0/\g=false/\kd v≠kd w
 ·rw [if_pos h] at e;injection e
 ·rw [if_neg h] at e;injection e
theorem wp_pord0 {g c:Bool}{v w:V}{p q:Value}{Q:Value->Shared->Prop} (ra:VRel Θ.τ φ news v p) (rb:VRel Θ.τ φ news w q) (e:pord0 g v w= .val c) (hq:Q (.bool c) s):wpAny Θ.M A (compareOp (opOf g) p q) Q E s:=by
 rcases pord0_val e with⟨i,j,rfl,rfl,rfl⟩ | ⟨i,j,rfl,rfl,rfl⟩
 ·refine ra.intI rfl λt=>rb.intI rfl λu=> ?_
  cases g
  ·exact lt_int hq
  ·exact gt_int hq
 ·obtain⟨t,rfl⟩:=ra.inv
  obtain⟨u,rfl⟩:=rb.inv
  cases g
  ·exact P.lt_str hq
  ·exact P.gt_str hq
theorem wp_pord0' {g c:Bool}{v w:V}{p q:Value}{Q:Value->Shared->Prop} (ra:VRel Θ.τ φ news v p) (rb:VRel Θ.τ φ news w q) (e:pord0 g v w= .val c) (hq:Q (.bool c) s):wpAny Θ.M A (richCompare (opOf g) p q) Q E s:=by
 have z:=wp_pord0 (A:=A) (E:=E) (Q:=Q) ra rb e hq
 cases g <;> exact z
noncomputable def TupRest (Θ:Cx) (φ:Phi) (news:Nws) (g c:Bool) (d:Int) (rest:List (Value × Value)):Prop:=
 ∃ (as bs:List V) (xs ys:List Value),rest=List.zip xs ys/\VRels Θ.τ φ news as xs/\VRels Θ.τ φ news bs ys/\pords g as bs=some c/\(as.length:Int) - bs.length=d
theorem tupRest_end {g c:Bool}{m n:Nat} (h:TupRest Θ φ news g c ((m:Int) - n) []):Builtin.Tuple.tupleCompareSizes (opOf g) m n= .bool c:=by
 obtain⟨as,bs,xs,ys,hz,ra,rb,hc,hl⟩:=h
 have key:(if g then decide (m > n) else decide (m < n))=c:=by
  cases ra with
  | nil=>cases rb with
   | nil=>
    rw [<- Option.some.inj hc,show m=n by simp at hl;lia]
    cases g
    ·exact decide_eq_false (Nat.lt_irrefl _)
    ·exact decide_eq_false (Nat.lt_irrefl _)
   | cons _ _=>
    rw [<- Option.some.inj hc]
    have:m < n:=by simp at hl;lia
    cases g
    ·exact decide_eq_true this
    ·exact decide_eq_false (Nat.lt_asymm this)
  | cons _ _=>cases rb with
   | nil=>
    rw [<- Option.some.inj hc]
    have:n < m:=by simp at hl;lia
    cases g
    ·exact decide_eq_false (Nat.lt_asymm this)
    ·exact decide_eq_true this
   | cons _ _=>injection hz
 cases g <;> exact congrArg Value.bool key
theorem tupRest_step {g c:Bool}{d:Int}{u v:Value}{rest:List (Value × Value)} (h:TupRest Θ φ news g c d ((u,v) :: rest)) :
 ∃a b r,VRel Θ.τ φ news a u/\VRel Θ.τ φ news b v/\peq a b=some r/\((r=true/\TupRest Θ φ news g c d rest)\/(r=false/\pord0 g a b= .val c)):=by
 obtain⟨as,bs,xs,ys,hz,ra,rb,hc,hl⟩:=h
 cases ra with
 | nil=>injection hz
 | @cons a as u' xs r1 ra=>cases rb with
  | nil=>injection hz
  | @cons b bs v' ys r2 rb=>
   injection hz with e1 e2
   injection e1 with e3 e4
   subst e3 e4
   obtain⟨r,hr,hc⟩:=Option.bind_eq_some_iff.mp hc
   refine⟨a,b,r,r1,r2,hr, ?_⟩
   cases r
   ·refine .inr ⟨rfl, ?_⟩
    have hc:(pord0 g a b).val? =some c:=hc
    cases e:pord0 g a b with
    | val c'=>rw [e] at hc;exact congrArg LtR.val (Option.some.inj hc)
    | err=>rw [e] at hc;injection hc
    | no=>rw [e] at hc;injection hc
   ·exact .inl ⟨rfl,as,bs,xs,ys,e2,ra,rb,hc,by simp only [List.length_cons] at hl;lia⟩
theorem wp_tupBody {g c:Bool}{as bs:List V}{a b:Addr}{xs ys:Array Value}{k l:Nat}{P:PySem.Fin->Shared->Prop} (N:News h₀.h L s.heap news) (hu:A.units + 64 < cLine) (Tb:s.TypeIs (.ref b) "tuple")
 (ha:(a,tupO xs k)∈news) (hb:(b,tupO ys l)∈news) (ra:VRels Θ.τ φ news as xs.toList) (rb:VRels Θ.τ φ news bs ys.toList) (e:pords g as bs=some c) (hP:P (.done (.ret (.bool c))) s) :
 wpAny Θ.M A (do
  if !(<- isInstance (.ref b) (.type "tuple")) then return <- ret .notImplemented
  let xs <- Builtin.Tuple.tupleItemsOf (.ref a)
  let ys <- Builtin.Tuple.tupleItemsOf (.ref b)
  for (x,y) in xs.toList.zip ys.toList do
   if !(<- eqBool x y) then
    rule "tuple.compare.by-the-first-pair-that-differs";return <- ret (<- richCompare (opOf g) x y)
  ret (Builtin.Tuple.tupleCompareSizes (opOf g) xs.size ys.size)) P E s:=by
 refine wpAny_bind (wpAny_isInstance Tb isSubtype_tuple_tuple ?_)
 rw [Bool.not_true,if_neg (by decide)]
 refine wpAny_bind (wpAny_tupleItemsOf (N.get ha) rfl (wpAny_bind (wpAny_tupleItemsOf (N.get hb) rfl (wpAny_bind ?_))))
 refine wpAny_forIn_list _ (λrest r s'=>r.1=none/\s'=s/\TupRest Θ φ news g c ((xs.size:Int) - ys.size) rest) _ ?_ ?_ _ _ ⟨rfl,rfl,as,bs,xs.toList,ys.toList,rfl,ra,rb,e,by rw [ra.length,rb.length];rfl⟩
 ·rintro ⟨u,v⟩ rest r s' ⟨hr,rfl,ht⟩
  obtain⟨a',b',r',r1,r2,he,hd⟩:=tupRest_step ht
  refine wpAny_bind (wp_eqBool N hu r1 r2 he ?_)
  rcases hd with⟨rfl,ht⟩ | ⟨rfl,ho⟩
  ·rw [Bool.not_true,if_neg (by decide)]
   exact wpAny_pure ⟨rfl,rfl,ht⟩
  ·rw [Bool.not_false,if_pos rfl]
   refine wpAny_bind (wpAny_rule (wpAny_bind (wpAny_mono (show wpAny Θ.M A (richCompare (opOf g) u v) (λv s''=>v= .bool c/\s''=s') E s' from wp_pord0' r1 r2 ho ⟨rfl,rfl⟩) ?_ λ_ _ z=>z)))
   rintro v' s'' ⟨rfl,rfl⟩
   exact wpAny_bind (wpAny_pure (wpAny_pure (wpAny_pure hP)))
 ·rintro ⟨r1,r2⟩ s' ⟨hr,rfl,ht⟩
  dsimp only at hr
  subst hr
  exact(tupRest_end ht).symm▸wpAny_pure hP
theorem wp_tupord {g c:Bool}{as bs:List V}{a b:Addr}{xs ys:Array Value}{k l:Nat}{Q:Value->Shared->Prop} (N:News h₀.h L s.heap news) (hu:A.units + 100 < cLine)
 (ha:(a,tupO xs k)∈news) (hb:(b,tupO ys l)∈news) (ra:VRels Θ.τ φ news as xs.toList) (rb:VRels Θ.τ φ news bs ys.toList) (e:pords g as bs=some c)
 (hq:Q (.bool c) s):wpAny Θ.M A (compareOp (opOf g) (.ref a) (.ref b)) Q E s:=by
 have Ta:s.TypeIs (.ref a) "tuple" :=⟨_,N.get ha,rfl⟩
 have Tb:s.TypeIs (.ref b) "tuple" :=⟨_,N.get hb,rfl⟩
 have hu1:A.in1.units + 64 < cLine:=by simp only [Around.in1_units];lia
 have hu2:A.units + 3 < cLine:=by lia
 cases g with
 | false=>
  refine cmp_ofLt (wpAny_richCompare_same_room Ta Tb F.slot_tuple_lt (wpAny_call_entry F.slot_tuple_lt Ta F.entry_tuple_lt ?_ (F.args_tuple_lt_2 _ _)) (by lia))
  rw [tlt_eq]
  exact wp_tupBody (g:=false) N hu1 Tb ha hb ra rb e ⟨_,rfl,by simp,hq⟩
 | true=>
  refine cmp_ofGt (wpAny_richCompare_same_room Ta Tb F.slot_tuple_gt (wpAny_call_entry F.slot_tuple_gt Ta F.entry_tuple_gt ?_ (F.args_tuple_gt_2 _ _)) (by lia))
  rw [tgt_eq]
  exact wp_tupBody (g:=true) N hu1 Tb ha hb ra rb e ⟨_,rfl,by simp,hq⟩
end
noncomputable def SndErr (Θ:Cx):Prop:=∀ {A:Around}{φ:Phi}{news:Nws}{s:Shared}{v w:V}{p q:Value}{Q:Value->Shared->Prop}{E:Value->Shared->Prop},A.handled=none->A.units < cLine->
 VRel Θ.τ φ news v p->VRel Θ.τ φ news w q->pord0 false v w= .err->(∀h' tk e,Heap.NewExc s.heap h' e "TypeError" ->E (.ref e) ⟨h',s.gens,s.drawn,tk,s.os⟩)->wpAny Θ.M A (compareOp .Lt p q) Q E s
structure Stat2 (Θ:Cx):Prop extends Stat Θ where
 err:SndErr Θ
 intF: ∀ (c:Nat) (C:Addr),Θ.τ.ca c=some C->W.notFirst Θ.K C (.type "int")=true
 seq: ∀ (c:Nat) (C:Addr),Θ.τ.ca c=some C->noSeq Θ.K C=true
section
variable {Θ:Cx}{n:Nat}{env:Env}{A:Around}{h₀:Gd}{h:Heap}{L:Addr}{m:Str->Option Value}{φ:Phi}{H:Hp}{news:Nws}{s:Shared}{ρ:Lo}{E:Value->Shared->Prop}
theorem Stt.allocList (S:Stt Θ A.frames h₀ L m φ H news h) {a:Addr}{its:Array Value}{vs:List V}{h':Heap}{k:Nat}{G:Prop} (F:Fr h₀.h L h' m) (N:News h₀.h L h' ((a,W.listOf its k) :: news)) (lt: ∀q∈news,q.1 < a)
 (r:VRels Θ.τ φ news vs its.toList) (hz:vs.length<=2 ^ 20)
 (f:Stt Θ A.frames h₀ L m (φ ++ [(a,a)]) (H ++ [.list vs]) ((a,W.listOf its k) :: news) h'->Ext φ news (φ ++ [(a,a)]) ((a,W.listOf its k) :: news)->VRel Θ.τ (φ ++ [(a,a)]) ((a,W.listOf its k) :: news) (.ref H.length) (.ref a)->G):G:=by
 have ne: ∀q∈news,q.1≠a:=λq hq=>Nat.ne_of_lt (lt q hq)
 have x:Ext φ news (φ ++ [(a,a)]) ((a,W.listOf its k) :: news):=⟨ext_snoc φ _,λq hq _=> .tail _ hq⟩
 have S1:=S.new F N lt
 exact f ⟨F,N,S1.nd,S.rep.alloc (λq hq=> .tail _ hq) ne ne ⟨its,k,rfl, .head _,VRels.mono x r,hz⟩,S.gb,S1.df.alloc λq hq=>⟨Ne.symm (ne q (S.df.p q hq).1),Ne.symm (ne q (S.df.p q hq).1)⟩⟩ x (VRel.ref (p:=(a,a)) (by rw [<- S.rep.len];exact nth_append_self φ _))
theorem Pst.int2 {v w:V}{p q:Value}{f:Int->Int->M V}{R:Phi->Nws->V->Value->Prop}{Q:Value->Shared->Prop}{C:Value->Value->Prop} (rv:VRel Θ.τ φ news v p) (rw_:VRel Θ.τ φ news w q)
 (hp:Pst Θ A.frames h₀ L m R Q E φ news s (int2 v w f H)) (k: ∀i j t u,v= .int i->w= .int j->Pst Θ A.frames h₀ L m R Q E φ news s (f i j H)->C (.int i t) (.int j u)):C p q:=
 Pst.ofO hp λi hi hp=>Pst.ofO hp λj hj hp=>rv.intI (C:=λp=>C p q) hi λt=>rw_.intI (C:=λq=>C (.int i t) q) hj λu=>k i j t u (vInt_eq hi) (vInt_eq hj) hp
theorem mulNot {a b c:Nat}{G:Prop} (h:a<=c\/b<=c) (z:decide (c < a)=true/\decide (c < b)=true):G:=
 (h.elim (λh=>Nat.lt_irrefl _ (Nat.lt_of_lt_of_le (of_decide_eq_true z.1) h)) λh=>Nat.lt_irrefl _ (Nat.lt_of_lt_of_le (of_decide_eq_true z.2) h)).elim
theorem wp_binOp {op:Operator}{v w:V}{p q:Value}{Q:Value->Shared->Prop} (S:Stt Θ A.frames h₀ L m φ H news s.heap) (rv:VRel Θ.τ φ news v p) (rw_:VRel Θ.τ φ news w q)
 (hp:Pst Θ A.frames h₀ L m (RV Θ) Q E φ news s (binOp op v w H)):wpAny Θ.M A (binaryOp op p q) Q E s:=by
 have two: ∀ {op':Operator}{f:Int->Int->M V},Pst Θ A.frames h₀ L m (RV Θ) Q E φ news s (int2 v w f H)->(∀i j t u,Pst Θ A.frames h₀ L m (RV Θ) Q E φ news s (f i j H)->wpAny Θ.M A (binaryOp op' (.int i t) (.int j u)) Q E s)->wpAny Θ.M A (binaryOp op' p q) Q E s:=
  λ {op' f} hp k=>Pst.int2 (C:=λp q=>wpAny Θ.M A (binaryOp op' p q) Q E s) rv rw_ hp λi j t u _ _ hp=>k i j t u hp
 cases op with
 | Add=>
  refine Pst.om hp (λ_ hp=>two hp λi j t u hp=>add_int (hp _ _ _ _ _ _ .rfl S (.refl _ _) (.int _ _))) λl hv hp=> ?_
  refine Pst.ofO hp λk hk hp=>Pst.getLs hp λo x ho hx hp=>Pst.getLs hp λo2 y ho2 hy hp=>Pst.ite hp λhz hp=> ?_
  refine rv.refI hv λpa hl=>rw_.refI hk λpb hk=>list_at S hl ho hx λits n1 d1=>list_at S hk ho2 hy λits2 n2 d2=> ?_
  exact add_arrays S.fr S.nw (d1.at S) (d2.at S) (λh' F' N'=>S.allocList F' N' (λq hq=>Heap.lt_size (S.nw _ hq).1) (vs:=x ++ y) (d1.items.append d2.items) (by rw [List.length_append];exact Nat.le_trans hz (by decide)) λS' x' r'=>hp _ _ _ h' s.toks _ .rfl S' x' r')
   (by rw [d1.len,d2.len,sizeLine_eq];lia)
 | Sub=>exact two hp λi j t u hp=>sub_int (hp _ _ _ _ _ _ .rfl S (.refl _ _) (.int _ _))
 | Mult=>exact two hp λi j t u hp=>Pst.ite hp λhk hp=>mul_int (hp _ _ _ _ _ _ .rfl S (.refl _ _) (.int _ _)) λz=>mulNot hk (Bool.and_eq_true_iff.mp (Bool.and_eq_true_iff.mp z).1)
 | Mod=>exact two hp λi j t u hp=>Pst.ite' hp λhk hp=>mod_int' hk (hp _ _ _ _ _ _ .rfl S (.refl _ _) (.int _ _))
 | FloorDiv=>exact two hp λi j t u hp=>Pst.ite' hp λhk hp=>floordiv_int (λh=>hk (.inl h)) (hp _ _ _ _ _ _ .rfl S (.refl _ _) (.int _ _)) (.inl (Bool.eq_false_iff.mpr λh=>hk (.inr h)))
 | _=>exact hp.elim
end
section
variable {Θ:Cx}{n:Nat}{env:Env}{A:Around}{h₀:Gd}{h:Heap}{L:Addr}{m:Str->Option Value}{φ:Phi}{H:Hp}{news:Nws}{s:Shared}{ρ:Lo}{E:Value->Shared->Prop}
noncomputable def sgn (neg b:Bool):Bool:=match neg with
 | true=> !b
 | false=>b
noncomputable def clsIn (H:Hp) (v:V):Option Nat:=(vRef v).bind λl=>(H[l]?).bind λo=>(oInst o).map (·.1)
theorem clsOf_eq (S:Stt Θ A.frames h₀ L m φ H news h) {v:V}{p:Value} (rv:VRel Θ.τ φ news v p):clsOf v H= .ok (clsIn H v) H:=by
 unfold clsOf clsIn
 cases hv:vRef v with
 | none=>rfl
 | some l=>
  refine rv.refI hv λq hl=> ?_
  have hlt:l < H.length:=S.rep.len▸(List.getElem?_eq_some_iff.mp hl).1
  show M.bind (getO l) _ H= .ok ((H[l]?).bind λo=>(oInst o).map (·.1)) H
  unfold M.bind getO
  rw [show H[l]? =some H[l] from List.getElem?_eq_getElem hlt]
  rfl
theorem Pst.cls {α β:Type}{R:Phi->Nws->α->β->Prop}{Q:β->Shared->Prop} (S:Stt Θ A.frames h₀ L m φ H news h) {v:V}{p:Value} (rv:VRel Θ.τ φ news v p) {f:Option Nat->M α} (hp:Pst Θ A.frames h₀ L m R Q E φ news s (M.bind (clsOf v) f H)) :
 Pst Θ A.frames h₀ L m R Q E φ news s (f (clsIn H v) H):=by
 unfold M.bind at hp
 rw [clsOf_eq S rv] at hp
 exact hp
theorem cls_at (S:Stt Θ A.frames h₀ L m φ H news h) {v:V}{p:Value} (rv:VRel Θ.τ φ news v p) {c:Nat} (e:clsIn H v=some c) {G:Prop}
 (k: ∀l at_ pa C es n,v= .ref l->p= .ref pa.1->φ[l]? =some pa->H[l]? =some (.inst c at_)->OInst Θ.τ φ news c at_ pa C es n->G):G:=by
 obtain⟨l,hv,e⟩:=Option.bind_eq_some_iff.mp e
 obtain⟨o,ho,e⟩:=Option.bind_eq_some_iff.mp e
 obtain⟨q,hq,rfl⟩:=Option.map_eq_some_iff.mp e
 obtain rfl:=vRef_eq hv
 obtain⟨pa,hp,hl⟩:=rv.inv
 exact inst_at S hl ho hq λC es n d=>k l q.2 pa C es n rfl hp hl (oInst_eq hq▸ho) d
theorem wp_cmpInst {op:CmpOp}{k:Nat}{nm:Str}{c:Nat}{v w:V}{p q:Value}{f:Nat}{Q:Bool->Shared->Prop} (st:Stat2 Θ) (hC:SndC Θ n) (r:Room A n Θ.P.hd) (S:Stt Θ A.frames h₀ L m φ H news s.heap)
 (hsp:(k,nm)∈specials) (hop:(cmpInfo op).2.1=nm) (hk:k < 10)
 (rv:VRel Θ.τ φ news v p) (rw_:VRel Θ.τ φ news w q) (hc:clsIn H v=some c) (hf:Θ.P.getM c k=some f) (hw:clsIn H w=some c\/isInt w=true)
 (hp:Pst Θ A.frames h₀ L m RE Q E φ news s ((do asBool (<- run n Θ.P f [] [v,w] []):M Bool) H)):wpAny Θ.M A (richCompare op p q) (λv s'=>∃b,v= .bool b/\Q b s') E s:=by
 refine cls_at S rv hc λl at_ pa C es kk e1 e2 hl ho d=>(st.meth c k f C nm hf (st.spm c k f hf hk) d.ca (st.sp (k,nm) hsp)).elim λa e=> ?_
 subst e2
 have back:wpAny Θ.M A (call (.ref a) [.ref pa.1,q]) (W.CmpBack λv s'=>∃b,v= .bool b/\Q b s') E s:=
  wpAny_mono (wp_boolBack hC r.c S e.1 (.cons rv (.cons rw_ .nil)) hp) (λv s' hv=>by
   cases v <;> first | exact⟨_,rfl,hv⟩ | exact hv.elim) λ_ _ z=>z
 rcases hw with hw | hw
 ·exact cls_at S rw_ hw λl2 at2 pa2 C2 es2 k2 _ e2 _ _ d2=>by
   subst e2
   obtain rfl:=Option.some.inj (d.ca.symm.trans d2.ca)
   exact cmp_K r.u S.fr S.top.k (d.at S) (d2.at S).type (by unfold W.notFirst;rw [beq_self_eq_true];rfl) (hop▸e.2.1) e.2.2.1 back
 ·obtain⟨i,hi⟩:=Option.isSome_iff_exists.mp hw
  exact rw_.intI (C:=λq=>wpAny Θ.M A (call (.ref a) [.ref pa.1,q]) (W.CmpBack λv s'=>∃b,v= .bool b/\Q b s') E s->wpAny Θ.M A (richCompare op (.ref pa.1) q) (λv s'=>∃b,v= .bool b/\Q b s') E s) hi
   (λt back=>cmp_K r.u S.fr S.top.k (d.at S) (Looks.of_pure rfl) (st.intF c C d.ca) (hop▸e.2.1) e.2.2.1 back) back
theorem wp_listEq {l k:Nat}{x y:List V}{pa pb:Addr × Addr}{o o2:O}{b:Bool}{Q:Value->Shared->Prop} (neg:Bool) (r:Room A n Θ.P.hd) (S:Stt Θ A.frames h₀ L m φ H news s.heap) (hl:φ[l]? =some pa) (hk:φ[k]? =some pb) (ho:H[l]? =some o) (ho2:H[k]? =some o2)
 (hx:oList o=some x) (hy:oList o2=some y) (hb:peqL x y=some b) (hq:Q (.bool (sgn neg b)) s):wpAny Θ.M A (compareOp (if neg then .NotEq else .Eq) (.ref pa.1) (.ref pb.1)) Q E s:=by
 refine list_at S hl ho hx λits n1 d1=>list_at S hk ho2 hy λits2 n2 d2=> ?_
 obtain⟨d,e,h1,h2,s1,s2,rfl⟩:=peqO_some hb
 obtain⟨d,k1,rfl⟩:=Option.map_eq_some_iff.mp h1
 obtain⟨e,k2,rfl⟩:=Option.map_eq_some_iff.mp h2
 refine(VRels.reads S.nw d1.items k1).elim λas ra=>(VRels.reads S.nw d2.items k2).elim λbs rb=> ?_
 have q1:=reads_list_at (S.nw.get d1.self) rfl rfl ra
 have q2:=reads_list_at (S.nw.get d2.self) rfl rfl rb
 cases neg with
 | false=>exact eq_dataH q1 q2 s1 s2 r.u64 (hq)
 | true=>exact ne_dataH q1 q2 s1 s2 r.u64 (hq)
end
section
variable {Θ:Cx}{n:Nat}{env:Env}{A:Around}{h₀:Gd}{h:Heap}{L:Addr}{m:Str->Option Value}{φ:Phi}{H:Hp}{news:Nws}{s:Shared}{ρ:Lo}{E:Value->Shared->Prop}
theorem wp_peqS (neg:Bool) {a b:V}{p q:Value}{r:Bool}{Q:Value->Shared->Prop} (N:News h₀.h L s.heap news) (hu:A.units + 64 < cLine) (ra:VRel Θ.τ φ news a p) (rb:VRel Θ.τ φ news b q) (e:peq a b=some r) (hq:Q (.bool (sgn neg r)) s) :
 wpAny Θ.M A (compareOp (if neg then .NotEq else .Eq) p q) Q E s:=by
 cases neg with
 | false=>exact wp_peq N hu ra rb e hq
 | true=>exact wp_pne N hu ra rb e hq
theorem wp_eqInst (neg:Bool) {v w:V}{p q:Value}{c f:Nat}{Q:Value->Shared->Prop} (st:Stat2 Θ) (hC:SndC Θ n) (r:Room A n Θ.P.hd) (S:Stt Θ A.frames h₀ L m φ H news s.heap)
 (rv:VRel Θ.τ φ news v p) (rw_:VRel Θ.τ φ news w q) (hneg:neg=true->clsIn H v=none) (hc:clsIn H v=some c) (hf:Θ.P.getM c nEq=some f) (hw:clsIn H w=some c)
 (hp:Pst Θ A.frames h₀ L m RE (λb s'=>Q (.bool (sgn neg b)) s') E φ news s ((do asBool (<- run n Θ.P f [] [v,w] []):M Bool) H)):wpAny Θ.M A (compareOp (if neg then .NotEq else .Eq) p q) Q E s:=by
 cases neg with
 | true=>exact nos ((hneg rfl).symm.trans hc)
 | false=>exact cmp_ofEq (wpAny_mono (wp_cmpInst (k:=nEq) (nm:= "__eq__") (op:= .Eq) st hC r S (by decide) rfl (by decide) rv rw_ hc hf (.inl hw) hp) (λv s' h=>h.elim λb h=>h.1▸h.2) λ_ _ z=>z)
theorem wp_eqv (neg:Bool) {v w:V}{p q:Value}{Q:Value->Shared->Prop} (st:Stat2 Θ) (hC:SndC Θ n) (r:Room A n Θ.P.hd) (S:Stt Θ A.frames h₀ L m φ H news s.heap)
 (rv:VRel Θ.τ φ news v p) (rw_:VRel Θ.τ φ news w q) (hneg:neg=true->clsIn H v=none)
 (hp:Pst Θ A.frames h₀ L m RE (λb s'=>Q (.bool (sgn neg b)) s') E φ news s (eqv (run n Θ.P) Θ.P v w H)):wpAny Θ.M A (compareOp (if neg then .NotEq else .Eq) p q) Q E s:=
 Pst.om (Pst.cls S rv hp) (λ_ hp=>Pst.om hp (λ_ hp=>Pst.ofO0 hp λb hb hp=>wp_peqS neg S.nw r.u64 rv rw_ hb (@hp s.gens s.drawn _ φ news s.heap s.toks b .rfl S (.refl _ _) rfl))
  λl hv hp=>Pst.ofO hp λk hk hp=>Pst.getLs hp λo x ho hx hp=>Pst.getLs hp λo2 y ho2 hy hp=>Pst.ofO0 hp λb hb hp=>
   rv.refI (C:=λp=>wpAny Θ.M A (compareOp (if neg then .NotEq else .Eq) p q) Q E s) hv λpa hl=>rw_.refI (C:=λq=>wpAny Θ.M A (compareOp (if neg then .NotEq else .Eq) (.ref pa.1) q) Q E s) hk λpb hk=>wp_listEq neg r S hl hk ho ho2 hx hy hb (hp _ _ _ _ _ _ .rfl S (.refl _ _) rfl))
 λc hc hp=>Pst.ofO hp λf hf hp=>Pst.ite (Pst.cls S rw_ hp) λhw hp=>wp_eqInst neg st hC r S rv rw_ hneg hc hf hw hp
end
section
variable {Θ:Cx}{n:Nat}{env:Env}{A:Around}{h₀:Gd}{h:Heap}{L:Addr}{m:Str->Option Value}{φ:Phi}{H:Hp}{news:Nws}{s:Shared}{ρ:Lo}{E:Value->Shared->Prop}
theorem Pst.toBool {Q:Value->Shared->Prop}{x:M Bool} (g:Bool->Bool) (hp:Pst Θ A.frames h₀ L m (RV Θ) Q E φ news s (M.bind x (λb=>pure (.bool (g b))) H)):Pst Θ A.frames h₀ L m RE (λb s'=>Q (.bool (g b)) s') E φ news s (x H) :=
 Pst.bind (R:=RE) hp λg₁ φ₁ news₁ h₁ tk a b H₁ T₁ S₁ x₁ r₁ hp=>(show a=b from r₁)▸hp _ _ _ _ _ _ .rfl S₁ (.refl _ _) (.bool _)
theorem pord0_err {g:Bool}{v w:V} (h:pord0 g v w= .err):g=false:=by
 unfold pord0 at h
 by_cases q:kd v=2/\kd w=2
 ·rw [if_pos q] at h;injection h
 rw [if_neg q] at h
 by_cases q:kd v=3/\kd w=3
 ·rw [if_pos q] at h;injection h
 rw [if_neg q] at h
 by_cases q:kd v≠0/\kd w≠0/\g=false/\kd v≠kd w
 ·exact q.2.2.1
 ·rw [if_neg q] at h;injection h
theorem pord_cases (g:Bool) (v w:V):(vTup v=none/\pord g v w=pord0 g v w)\/(∃x y c,vTup v=some x/\vTup w=some y/\pords g x y=some c/\pord g v w= .val c)\/pord g v w= .no:=by
 unfold pord
 cases vTup v with
 | none=>exact .inl ⟨rfl,rfl⟩
 | some x=>cases hw:vTup w with
  | none=>exact .inr (.inr rfl)
  | some y=>cases hc:pords g x y with
   | none=>exact .inr (.inr (by show(match pords g x y with | some r=>LtR.val r | none=> .no)=_;rw [hc]))
   | some c=>exact .inr (.inl ⟨x,y,c,rfl,rfl,hc,by show(match pords g x y with | some r=>LtR.val r | none=> .no)=_;rw [hc]⟩)
theorem wp_ordPlain {g:Bool}{v w:V}{p q:Value}{Q:Value->Shared->Prop} (st:Stat2 Θ) (r:Room A n Θ.P.hd) (S:Stt Θ A.frames h₀ L m φ H news s.heap) (rv:VRel Θ.τ φ news v p) (rw_:VRel Θ.τ φ news w q)
 (hp:Pst Θ A.frames h₀ L m RE (λb s'=>Q (.bool b) s') E φ news s (ofLtR Θ.P (pord0 g v w) H)):wpAny Θ.M A (compareOp (opOf g) p q) Q E s:=by
 cases ho:pord0 g v w with
 | val c=>rw [ho] at hp;exact wp_pord0 rv rw_ ho (hp _ _ _ _ _ _ .rfl S (.refl _ _) rfl)
 | no=>rw [ho] at hp;exact hp.elim
 | err=>
  rw [ho] at hp
  obtain rfl:=pord0_err ho
  exact Pst.ite' hp λhhd hp=>st.err (r.hand (Bool.eq_false_iff.mpr hhd)) r.u rv rw_ ho λh' tk e ne=>hp _ φ news s.heap h' tk e .rfl S (.refl _ _) ne
theorem cmp_ofOp {g:Bool}{p q:Value}{Q:Value->Shared->Prop} (h:wpAny Θ.M A (richCompare (opOf g) p q) Q E s):wpAny Θ.M A (compareOp (opOf g) p q) Q E s:=by cases g <;> exact h
theorem wp_ordv {g:Bool}{v w:V}{p q:Value}{Q:Value->Shared->Prop} (st:Stat2 Θ) (hC:SndC Θ n) (r:Room A n Θ.P.hd) (S:Stt Θ A.frames h₀ L m φ H news s.heap)
 (rv:VRel Θ.τ φ news v p) (rw_:VRel Θ.τ φ news w q)
 (hp:Pst Θ A.frames h₀ L m RE (λb s'=>Q (.bool b) s') E φ news s (ltv g (run n Θ.P) Θ.P v w H)):wpAny Θ.M A (compareOp (opOf g) p q) Q E s:=by
 refine Pst.om (Pst.cls S rw_ (Pst.cls S rv hp)) (λ_ hp=>Pst.ite hp λ_ hp=> ?_) λc hc hp=>Pst.ofO hp λf hf hp=>Pst.ite hp λhw hp=> ?_
 ·rcases pord_cases g v w with⟨_,e⟩ | ⟨x,y,c,hx,hy,hz,e⟩ | e
  ·exact wp_ordPlain st r S rv rw_ (e▸hp)
  ·rw [e] at hp
   exact rv.tupI hx λa its n ha ra=>rw_.tupI hy λb its2 n2 hb rb=>wp_tupord S.nw (Nat.lt_of_le_of_lt (Nat.add_le_add_left (Nat.le_trans (by decide) (Nat.le_add_left 300 (40 * _))) _) r.units) ha hb ra rb hz (hp _ _ _ _ _ _ .rfl S (.refl _ _) rfl)
  ·rw [e] at hp;exact hp.elim
 ·exact cmp_ofOp (wpAny_mono (wp_cmpInst (k:=if g then nGt else nLt) (nm:=if g then "__gt__" else "__lt__") st hC r S (by cases g <;> decide) (by cases g <;> rfl) (by cases g <;> decide) rv rw_ hc hf hw hp)
   (λv s' h=>h.elim λb h=>h.1▸h.2) λ_ _ z=>z)
end
theorem dget_rel {τ:Tabs}{φ:Phi}{news:Nws}{k:Int}{kvs:List (Int × V)}: ∀ {kv:List (Int × Value)},kv.map (·.1)=kvs.map (·.1)->VRels τ φ news (kvs.map (·.2)) (kv.map (·.2))->
 (dget k kvs=none/\valueAt kv k=none/\kvs.any (λp=>p.1 == k)=false)\/∃v x,dget k kvs=some v/\valueAt kv k=some x/\VRel τ φ news v x/\kvs.any (λp=>p.1 == k)=true:=by
 induction kvs with
 | nil=>
  intro kv h _
  rw [List.map_eq_nil_iff.mp h]
  exact .inl ⟨rfl,rfl,rfl⟩
 | cons a r ih=>
  intro kv h hr
  cases kv with
  | nil=>injection h
  | cons b q=>
   have h1:b.1=a.1:=(List.cons.inj h).1
   obtain⟨_,_,e,r1,r2⟩:=hr.cons_inv
   obtain⟨rfl,rfl⟩:=List.cons.inj e
   unfold dget valueAt
   rw [List.find?_cons,List.find?_cons,List.any_cons,h1]
   by_cases e:a.1=k
   ·rw [decide_eq_true e,beq_iff_eq.mpr e]
    exact .inr ⟨_,_,rfl,rfl,r1,rfl⟩
   ·rw [decide_eq_false e,beq_false_of_ne e]
    exact ih (List.cons.inj h).2 r2
theorem dget_isSome {τ:Tabs}{φ:Phi}{news:Nws}{k:Int}{kvs:List (Int × V)}{kv:List (Int × Value)} (h:kv.map (·.1)=kvs.map (·.1)) (hr:VRels τ φ news (kvs.map (·.2)) (kv.map (·.2))):(valueAt kv k).isSome=kvs.any (λp=>p.1 == k):=by
 rcases dget_rel (k:=k) h hr with⟨_,e1,e2⟩ | ⟨_,_,_,e1,_,e2⟩
 ·rw [e1,e2];rfl
 ·rw [e1,e2];rfl
section
variable {Θ:Cx}{n:Nat}{env:Env}{A:Around}{h₀:Gd}{h:Heap}{L:Addr}{m:Str->Option Value}{φ:Phi}{H:Hp}{news:Nws}{s:Shared}{ρ:Lo}{E:Value->Shared->Prop}
theorem wp_inDict (neg:Bool) {i:Int}{u:Tok}{pa:Addr × Addr}{kvs:List (Int × V)}{ob:Obj}{kv:List (Int × Value)}{Q:Value->Shared->Prop} (S:Stt Θ A.frames h₀ L m φ H news s.heap) (d:ODict Θ.τ φ news kvs pa ob kv)
 (z:Q (.bool (sgn neg (kvs.any λp=>p.1 == i))) {s with toks:=s.toks + 1}):wpAny Θ.M A (compareOp (if neg then .NotIn else .In) (.int i u) (.ref pa.1)) Q E s:=by
 rw [<- dget_isSome d.keys d.vals] at z
 cases neg with
 | false=>exact wpAny_in_of (knd:=intKind Θ.τ.prog Θ.τ.w) (intKind_is _ _ i u) d.sys (d.at S).mapOf z
 | true=>exact wpAny_notIn_of (knd:=intKind Θ.τ.prog Θ.τ.w) (intKind_is _ _ i u) d.sys (d.at S).mapOf z
theorem wp_inInst (neg:Bool) {p:Value}{pa:Addr × Addr}{a C:Addr}{ox:Obj}{od:Option Obj}{Q:Value->Shared->Prop}{h₀:Heap} (F:Fr h₀ L s.heap m) (X:Θ.K.In h₀) (I:InstAt s.heap pa.1 ox C od) (e1:findIn Θ.K (.ref C) "__contains__" =some (some (.ref a))) (e2:isFn Θ.K (.ref a)=true)
 (z:wpAny Θ.M A (call (.ref a) [.ref pa.1,p]) (λr s'=>wpAny Θ.M A (PySem.truthy r) (λb s'=>Q (.bool (sgn neg b)) s') E s') E s):wpAny Θ.M A (compareOp (if neg then .NotIn else .In) p (.ref pa.1)) Q E s:=by
 cases neg with
 | false=>exact in_K F X I e1 e2 z
 | true=>exact notIn_K F X I e1 e2 z
theorem itElim {v:V}{l:Nat}{R:Phi->Nws->Bool->Bool->Prop}{Q:Bool->Shared->Prop}{lf:Option (List Env)}{C:CallT}{G:Prop} (e:v= .it l) (hp:Pst Θ lf h₀ L m R Q E φ news s (truthy C Θ.P v H)):G:=by subst e;exact hp.elim
theorem wp_contains (neg:Bool) {v w:V}{p q:Value}{Q:Value->Shared->Prop} (st:Stat2 Θ) (hC:SndC Θ n) (r:Room A n Θ.P.hd) (S:Stt Θ A.frames h₀ L m φ H news s.heap)
 (rv:VRel Θ.τ φ news v p) (rw_:VRel Θ.τ φ news w q)
 (hp:Pst Θ A.frames h₀ L m RE (λb s'=>Q (.bool (sgn neg b)) s') E φ news s (contains (run n Θ.P) Θ.P v w H)):wpAny Θ.M A (compareOp (if neg then .NotIn else .In) p q) Q E s:=
 Pst.ofO hp λl hw hp=>Pst.getO hp λo ho hp=>rw_.refI (C:=λq=>wpAny Θ.M A (compareOp (if neg then .NotIn else .In) p q) Q E s) hw λpa hl=>Pst.om hp
  (λ_ hp=>Pst.ofO hp λkvs hk hp=>Pst.ofO hp λi hv hp=>dict_at S hl ho hk λob kv d=>rv.intI (C:=λp=>wpAny Θ.M A (compareOp (if neg then .NotIn else .In) p (.ref pa.1)) Q E s) hv λu=>
   wp_inDict neg S d (@hp s.gens s.drawn _ φ news s.heap (s.toks + 1) _ .rfl S (.refl _ _) rfl))
  λc hi hp=>Pst.ofO hp λf hf hp=>inst_at S hl ho hi λC es k d=>(st.meth c.1 nContains f C "__contains__" hf (st.spm c.1 nContains f hf (by decide)) d.ca (st.sp (nContains, "__contains__") (by decide))).elim λa e=>
   wp_inInst neg S.fr S.top.k (d.at S) e.2.1 e.2.2.1 (hC r.c S e.1 (.cons (vRef_eq hw▸ .ref hl) (.cons rv .nil)) .nil (Pst.bind hp λg₁ φ₁ news₁ h₁ tk v1 p1 H₁ T₁ S₁ x₁ r₁ hp=>r₁.inv (λr₁=>wp_truthy st.toStat hC r S₁ r₁ hp) λl e=>itElim e hp))
theorem VRel.isNone {τ:Tabs}{v:V}{p:Value} (r:VRel τ φ news v p):isBi v=false->plainIs p .none=true/\(p == .none)=Mini.isNone v:=
 VRel.rec (motive:=λv p _=>isBi v=false->plainIs p .none=true/\(p == .none)=Mini.isNone v) (λ_=>⟨rfl,rfl⟩) (λ_ _=>⟨rfl,rfl⟩) (λ_ _ _=>⟨rfl,rfl⟩) (λ_ _ _=>⟨rfl,rfl⟩) (λ_ _ _ _ _=>⟨rfl,rfl⟩) (λ_ _=>⟨rfl,rfl⟩) (λ_ _=>⟨rfl,rfl⟩) (λ_ _=>⟨rfl,rfl⟩)
  (λ_ h=>Bool.noConfusion h) (λ_ _=>⟨rfl,rfl⟩) (λ_ _ _ _ _ _=>⟨rfl,rfl⟩) (λ_ _=>⟨rfl,rfl⟩) r
theorem VRel.of_none {τ:Tabs}{w:V}{p:Value} (r:VRel τ φ news w p) (h:Mini.isNone w=true):p= .none:=by
 cases w with
 | none=>exact r.inv
 | _=>exact Bool.noConfusion h
theorem wp_cmpOp {op:CmpOp}{v w:V}{p q:Value}{Q:Value->Shared->Prop} (st:Stat2 Θ) (hC:SndC Θ n) (r:Room A n Θ.P.hd) (S:Stt Θ A.frames h₀ L m φ H news s.heap)
 (rv:VRel Θ.τ φ news v p) (rw_:VRel Θ.τ φ news w q)
 (hp:Pst Θ A.frames h₀ L m (RV Θ) Q E φ news s (cmpOp (run n Θ.P) Θ.P op v w H)):wpAny Θ.M A (compareOp op p q) Q E s:=by
 cases op with
 | Eq=>exact wp_eqv false st hC r S rv rw_ (λh=>Bool.noConfusion h) (Pst.toBool id hp)
 | NotEq=>
  have hp:=Pst.cls S rv hp
  exact Pst.ite hp λhc hp=>wp_eqv true st hC r S rv rw_ (λ_=>hc) (Pst.toBool Bool.not hp)
 | Lt=>exact wp_ordv (g:=false) st hC r S rv rw_ (Pst.toBool id hp)
 | Gt=>exact wp_ordv (g:=true) st hC r S rv rw_ (Pst.toBool id hp)
 | LtE=>exact Pst.int2 (C:=λp q=>wpAny Θ.M A (compareOp .LtE p q) Q E s) rv rw_ hp λi j t u _ _ hp=>le_int (hp _ _ _ _ _ _ .rfl S (.refl _ _) (.bool _))
 | GtE=>exact Pst.int2 (C:=λp q=>wpAny Θ.M A (compareOp .GtE p q) Q E s) rv rw_ hp λi j t u _ _ hp=>ge_int (hp _ _ _ _ _ _ .rfl S (.refl _ _) (.bool _))
 | In=>exact wp_contains false st hC r S rv rw_ (Pst.toBool id hp)
 | NotIn=>exact wp_contains true st hC r S rv rw_ (Pst.toBool Bool.not hp)
 | Is=>
  refine Pst.ite hp λhb hp=> ?_
  have hb:=Bool.and_eq_true_iff.mp hb
  have e:=rv.isNone (Bool.not_eq_true' _▸hb.2)
  exact rw_.of_none hb.1▸wpAny_is_plain e.1 (e.2▸hp _ _ _ _ _ _ .rfl S (.refl _ _) (.bool _))
 | IsNot=>
  refine Pst.ite hp λhb hp=> ?_
  have hb:=Bool.and_eq_true_iff.mp hb
  have e:=rv.isNone (Bool.not_eq_true' _▸hb.2)
  exact rw_.of_none hb.1▸wpAny_isNot_plain e.1 (e.2▸hp _ _ _ _ _ _ .rfl S (.refl _ _) (.bool _))
end
theorem subscripted_both {e:Expr} (h:isSlice e=false) (o i:Value) (b:Bool):subscripted e b o i=if b then runValue (.builtin "lifetime.subscript" ⟨[o,i],[]⟩) else operate [o,i] (PySem.getItem o i):=by
 cases e <;> first | exact Bool.noConfusion h | (cases b <;> rfl)
theorem subscripted_no {e:Expr} (h:isSlice e=false) (o i:Value):subscripted e false o i=operate [o,i] (PySem.getItem o i):=subscripted_both h o i false
theorem subscripted_yes {e:Expr} (h:isSlice e=false) (o i:Value):subscripted e true o i=runValue (.builtin "lifetime.subscript" ⟨[o,i],[]⟩):=subscripted_both h o i true
section
variable {Θ:Cx}{n:Nat}{env:Env}{A:Around}{h₀:Gd}{h:Heap}{L:Addr}{m:Str->Option Value}{φ:Phi}{H:Hp}{news:Nws}{s:Shared}{ρ:Lo}{E:Value->Shared->Prop}
theorem chkIt_bind (Q:Value->Shared->Prop) {x:M V} (hp:Pst Θ A.frames h₀ L m (RV Θ) Q E φ news s (M.bind x chkIt H)):Pst Θ A.frames h₀ L m (RI Θ) Q E φ news s (x H) :=
 Pst.bind hp λg₁ φ₁ news₁ h₁ tk v p H₁ T₁ S₁ x₁ r₁ hp₁=>Pst.ite' hp₁ λhn hp₁=>r₁.inv (λr₁=>hp₁ _ _ _ _ _ _ .rfl S₁ (.refl _ _) r₁) λl e=>(hn (e▸rfl)).elim
theorem wp_sub {v w:V}{p q:Value}{value slice:Expr}{Q:Value->Shared->Prop} (hs:isSlice slice=false) (st:Stat2 Θ) (hC:SndC Θ n) (r:Room A n Θ.P.hd) (S:Stt Θ A.frames h₀ L m φ H news s.heap)
 (rv:VRel Θ.τ φ news v p) (rw_:VRel Θ.τ φ news w q)
 (hp:Pst Θ A.frames h₀ L m (RV Θ) Q E φ news s (Mini.getItem (run n Θ.P) Θ.P v w H)):wpAny Θ.M A (subscriptTail value slice p q) Q E s:=by
 refine Pst.om hp (λ_ hp=> ?_) λl hv hp=>Pst.getO hp λo ho hp=>rv.refI hv λpa hl=>Pst.om hp (λ_ hp=> ?_) λc hi hp=> ?_
 ·refine Pst.ite2 hp (λhz hp=> ?_) λhz hp=> ?_
  ·obtain rfl:=isScr_eq hz
   refine Pst.ofO hp λi hw hp=>Pst.ofO0 hp λx hx hp=>scr_at S rv λa its ea hl hal hsz=>rw_.intI hw λu=> ?_
   obtain⟨h0,hx⟩:=Option.ite_none_right_eq_some.mp hx
   obtain⟨j,hj,rfl⟩:=List.getElem?_map .. ▸hx |> Option.map_eq_some_iff.mp
   have hlt:i < (2:Int) ^ 63:=by
    have:=(List.getElem?_eq_some_iff.mp hj).1
    have:Θ.P.scr.length=its.size:=hal.length
    lia
   rw [ea]
   exact(hal.get hj).elim λy e=>e.2.elim λt et=>tail_any hl.typeIs slot_list_getitem.lookup (wpAny_getItem_list hl h0 hlt (Array.getElem?_toList▸e.1) (hp _ _ _ _ _ _ .rfl S (.refl _ _) (et▸ .int _ _))) (subscripted_no hs _ _)
  refine Pst.ofO hp λvs ht hp=>Pst.ite hp λhz hp=>Pst.ofO hp λi hw hp=>Pst.ofO0 hp λx hx hp=>rv.tupI ht λa its k ha hra=>rw_.intI hw λu=> ?_
  obtain⟨h0,hx⟩:=Option.ite_none_right_eq_some.mp hx
  have T:IsTup s.heap a its:=⟨_,S.nw.get ha,rfl,_,rfl⟩
  have hi:=(List.getElem?_eq_some_iff.mp hx).1
  have hlt: -(2:Int) ^ 63<=i/\i < (2:Int) ^ 63:=by lia
  exact(hra.get hx).elim λy e=>tail_any T.typeIs F.slot_tuple_getitem.lookup (getItem_tuple T hlt.1 hlt.2 (seqIndex_at h0 (by have:vs.length=its.size:=hra.length;lia)) (Array.getElem?_toList▸e.1) (hp _ _ _ _ _ _ .rfl S (.refl _ _) e.2)) (subscripted_no hs _ _)
 ·refine Pst.ofO hp λvs hl' hp=>Pst.ofO hp λi hw hp=>Pst.ofO0 hp λx hx hp=>list_at S hl ho hl' λits k d=>rw_.intI hw λu=> ?_
  obtain⟨h0,hx⟩:=Option.ite_none_right_eq_some.mp hx
  have hlt:i < (2:Int) ^ 63:=by
   have:=(List.getElem?_eq_some_iff.mp hx).1
   have:=d.small
   lia
  exact(d.items.get hx).elim λy e=>tail_any (d.at S).typeIs slot_list_getitem.lookup (wpAny_getItem_list (d.at S) h0 hlt (Array.getElem?_toList▸e.1) (hp _ _ _ _ _ _ .rfl S (.refl _ _) e.2)) (subscripted_no hs _ _)
 ·obtain rfl:=vRef_eq hv
  exact Pst.ofO hp λf hf hp=>inst_at S hl ho hi λC es k d=>(st.meth c.1 nGetitem f C "__getitem__" hf (st.spm c.1 nGetitem f hf (by decide)) d.ca (st.sp (nGetitem, "__getitem__") (by decide))).elim λa e=>
   sub_K S.fr S.top.k (d.at S) e.2.1 e.2.2.2 e.2.2.1 (hC r.in1 S e.1 (.cons (.ref hl) (.cons rw_ .nil)) .nil (chkIt_bind Q hp)) (subscripted_yes hs _ _)
end
theorem swap_rel {τ:Tabs}{φ:Phi}{news:Nws}{k:Int}{v:V}{x:Value} (rv:VRel τ φ news v x) {kvs:List (Int × V)}: ∀ {kv:List (Int × Value)},kv.map (·.1)=kvs.map (·.1)->VRels τ φ news (kvs.map (·.2)) (kv.map (·.2))->
 (kv.map λp=>if p.1=k then(p.1,x) else p).map (·.1)=(kvs.map λp=>if p.1=k then(p.1,v) else p).map (·.1)/\VRels τ φ news ((kvs.map λp=>if p.1=k then(p.1,v) else p).map (·.2)) ((kv.map λp=>if p.1=k then(p.1,x) else p).map (·.2)):=by
 induction kvs with
 | nil=>
  intro kv h _
  rw [List.map_eq_nil_iff.mp h]
  exact⟨rfl, .nil⟩
 | cons a r ih=>
  intro kv h hr
  cases kv with
  | nil=>injection h
  | cons b q=>
   have h1:b.1=a.1:=(List.cons.inj h).1
   obtain⟨_,_,e,r1,r2⟩:=hr.cons_inv
   obtain⟨rfl,rfl⟩:=List.cons.inj e
   have i:=ih (List.cons.inj h).2 r2
   rw [List.map_cons,List.map_cons,List.map_cons,List.map_cons,List.map_cons,List.map_cons,h1]
   by_cases z:a.1=k
   ·rw [if_pos z,if_pos z]
    exact⟨congrArg _ i.1, .cons rv i.2⟩
   ·rw [if_neg z,if_neg z]
    exact⟨(congrArg (λy=>y :: _) h1).trans (congrArg _ i.1), .cons r1 i.2⟩
theorem stored_rel {τ:Tabs}{φ:Phi}{news:Nws}{k:Int}{v:V}{x:Value} (rv:VRel τ φ news v x) {kvs:List (Int × V)}{kv:List (Int × Value)} (hk:kv.map (·.1)=kvs.map (·.1)) (hr:VRels τ φ news (kvs.map (·.2)) (kv.map (·.2))) :
 (stored kv k x).map (·.1)=(dput k v kvs).map (·.1)/\VRels τ φ news ((dput k v kvs).map (·.2)) ((stored kv k x).map (·.2)):=by
 have ha:kv.any (λp=>decide (p.1=k))=kvs.any (λp=>decide (p.1=k)) :=
  (List.any_map (f:=λp:Int × Value=>p.1) (p:=λy=>decide (y=k))).symm.trans ((congrArg (λl=>List.any l λy=>decide (y=k)) hk).trans (List.any_map (f:=λp:Int × V=>p.1)))
 unfold stored dput
 rw [ha]
 by_cases z:kvs.any (λp=>decide (p.1=k))=true
 ·rw [if_pos z,if_pos z];exact swap_rel rv hk hr
 ·rw [if_neg z,if_neg z,List.map_append,List.map_append,List.map_append,List.map_append,hk]
  exact⟨rfl,hr.append (.cons rv .nil)⟩
theorem dput_length (k:Int) (v:V) (l:List (Int × V)):(dput k v l).length<=l.length + 1:=by
 unfold dput
 by_cases z:l.any (λp=>decide (p.1=k))=true
 ·rw [if_pos z,List.length_map];exact Nat.le_succ _
 ·rw [if_neg z,List.length_append];exact Nat.le_refl _
section
variable {Θ:Cx}{n:Nat}{env:Env}{A:Around}{h₀:Gd}{h:Heap}{L:Addr}{m:Str->Option Value}{φ:Phi}{H:Hp}{news:Nws}{s:Shared}{ρ:Lo}{E:Value->Shared->Prop}
theorem wp_getD {v w:V}{p q:Value}{Q:Value->Shared->Prop} (S:Stt Θ A.frames h₀ L m φ H news s.heap)
 (rv:VRel Θ.τ φ news v p) (rw_:VRel Θ.τ φ news w q)
 (hp:Pst Θ A.frames h₀ L m (RV Θ) Q E φ news s (getD v w H)):wpAny Θ.M A (PySem.getItem p q) Q E s:=by
 refine Pst.ofO hp λl hv hp=>Pst.getO hp λo ho hp=>Pst.ofO hp λkvs hk hp=>Pst.ofO hp λi hw hp=>Pst.ofO0 hp λx hx hp=>rv.refI hv λpa hl=>rw_.intI hw λu=>dict_at S hl ho hk λob kv d=> ?_
 rcases dget_rel (k:=i) d.keys d.vals with⟨e,_⟩ | ⟨y,z,e1,e2,e3,_⟩
 ·exact nos (e.symm.trans hx)
 ·exact wpAny_getItem_of (knd:=intKind Θ.τ.prog Θ.τ.w) (intKind_is _ _ i u) (d.at S).mapOf e2 (hp _ _ _ _ _ _ .rfl S (.refl _ _) (Option.some.inj (e1.symm.trans hx)▸e3))
theorem wp_setDict {l:Nat}{kvs:List (Int × V)}{u:V}{i:Int}{tk:Tok}{pa:Addr × Addr}{z:Value}{ob:Obj}{kv:List (Int × Value)}{Q:Unit->Shared->Prop} (S:Stt Θ A.frames h₀ L m φ H news s.heap) (hl:φ[l]? =some pa) (d:ODict Θ.τ φ news kvs pa ob kv) (ru:VRel Θ.τ φ news u z) (hz:kvs.length<=2 ^ 19)
 (hp:Pst Θ A.frames h₀ L m RE Q E φ news s (setO l (.dict (dput i u kvs)) H)):wpAny Θ.M A (PySem.setItem (.ref pa.1) (.int i tk) z) Q E s:=by
 refine wpAny_setItem_pairs (knd:=intKind Θ.τ.prog Θ.τ.w) (intKind_is _ _ i tk) (d.at S) (λh' hD' hs=> ?_) (by rw [d.len,sizeLine_eq];lia)
 refine(Heap.dictOf_iff.mp hD').elim λo' e=> ?_
 have hm:=S.nw _ d.self
 have hfz:frz o'=false:=e.2.elim λes x=>x.elim λep x=>frz_dict x.1.1
 have X:=ext_rpl (φ:=φ) (ob:=o') S d.self d.frz
 have k:=stored_rel (k:=i) (ru.mono X) d.keys (VRels.mono X d.vals)
 exact hp _ φ _ h' _ () .rfl (S.set hl (.inl rfl) d.self d.frz (S.fr.change hs hm.2.1 hm.2.2) (S.nw.replace hs e.1) ⟨o',_,d.eq,rpl_self d.self,e.2,k.1,k.2,hfz,d.sys,Nat.le_trans (dput_length i u kvs) (Nat.le_trans (Nat.succ_le_succ hz) (by decide))⟩) X rfl
theorem wp_setItem {v w u:V}{p q z:Value}{Q:Unit->Shared->Prop} (st:Stat2 Θ) (hC:SndC Θ n) (r:Room A n Θ.P.hd) (S:Stt Θ A.frames h₀ L m φ H news s.heap)
 (rv:VRel Θ.τ φ news v p) (rw_:VRel Θ.τ φ news w q) (ru:VRel Θ.τ φ news u z)
 (hp:Pst Θ A.frames h₀ L m RE Q E φ news s (Mini.setItem (run n Θ.P) Θ.P v w u H)):wpAny Θ.M A (PySem.setItem p q z) Q E s:=by
 refine Pst.ofO hp λl hv hp=>Pst.getO hp λo ho hp=>rv.refI hv λpa hl=>Pst.om hp (λ_ hp=> ?_) λc hi hp=> ?_
 ·exact Pst.ofO hp λkvs hk hp=>Pst.ofO hp λi hw hp=>Pst.ite hp λhz hp=>rw_.intI hw λtk=>dict_at S hl ho hk λob kv d=>wp_setDict S hl d ru hz hp
 ·obtain rfl:=vRef_eq hv
  refine Pst.ofO hp λf hf hp=>inst_at S hl ho hi λC es k d=>(st.meth c.1 nSetitem f C "__setitem__" hf (st.spm c.1 nSetitem f hf (by decide)) d.ca (st.sp (nSetitem, "__setitem__") (by decide))).elim λa e=> ?_
  exact ksp_setItem S.fr S.top.k (d.at S) (st.seq c.1 C d.ca) e.2.1 e.2.2.1 (hC r.c S e.1 (.cons (.ref hl) (.cons rw_ (.cons ru .nil))) .nil (Pst.bind hp λg₁ φ₁ news₁ h₁ tk v1 p1 H₁ T₁ S₁ x₁ r₁ hp=>Pst.ite hp λ_ hp=>hp _ _ _ _ _ _ .rfl S₁ (.refl _ _) rfl))
end
theorem starEach_cons {e:Expr} (h:isStar e=false) (r:List Expr) (env:Env):starEach (e :: r) env=(false,eval e env) :: starEach r env:=by
 cases e <;> first | rfl | exact Bool.noConfusion h
theorem starEach_plain (pos:Pos) (env:Env) (es:List Expr) (h:es.all (λe=> !isStar e)=true):(backTo pos (starEach es env)).any (·.1)=false:=by
 induction es with
 | nil=>rfl
 | cons e r ih=>
  have h:=Bool.and_eq_true_iff.mp h
  rw [starEach_cons (Bool.not_eq_true' _▸h.1)]
  exact ih h.2
section
variable {Θ:Cx}{n:Nat}{env:Env}{A:Around}{h₀:Gd}{h:Heap}{L:Addr}{m:Str->Option Value}{φ:Phi}{H:Hp}{news:Nws}{s:Shared}{ρ:Lo}{E:Value->Shared->Prop}
theorem snds_nil:SndEs Θ n env [] []:=λpos a hp=>Calls.spliced_nil (hp _ _ _ _ _ _ .rfl a.st (.refl _ _) .nil)
theorem snds_cons {x:X}{xs:List X}{e:Expr}{es:List Expr} (hs:isStar e=false) (hx:SndE Θ n env x e) (hxs:SndEs Θ n env xs es):SndEs Θ n env (x :: xs) (e :: es):=λpos a hp=>by
 rw [starEach_cons hs]
 exact Calls.spliced_cons (hx a (Pst.bind hp λg₁ φ₁ news₁ h₁ tk v p H₁ T₁ S₁ x₁ r₁ hp=>hxs pos (a.step S₁ x₁) (Pst.bind hp λg₂ φ₂ news₂ h₂ tk₂ vs ps H₂ T₂ S₂ x₂ r₂ hp=>hp _ _ _ _ _ _ .rfl S₂ (.refl _ _) (.cons (r₁.mono x₂) r₂))))
noncomputable def SndKs (Θ:Cx) (n:Nat) (env:Env) (xs:List X) (ks:List Keyword):Prop:=
 ∀ {A:Around}{h₀:Gd}{L:Addr}{m:Str->Option Value}{φ:Phi}{H:Hp}{news:Nws}{s:Shared}{ρ:Lo}{Q:List Value->Shared->Prop}{E:Value->Shared->Prop} (pos:Pos),
  At Θ A n env h₀ L m φ H news s ρ->Pst Θ A.frames h₀ L m (RVs Θ) Q E φ news s (evs (run n Θ.P) Θ.P xs ρ H)->wpAny Θ.M A (evalAll ((backToKw pos (keywordEach ks env)).map (·.2))) Q E s
theorem sndk_nil:SndKs Θ n env [] []:=λpos a hp=>wpAny_evalAll_nil (hp _ _ _ _ _ _ .rfl a.st (.refl _ _) .nil)
theorem sndk_cons {x:X}{xs:List X}{nm:Option Str}{e:Expr}{kp:Pos}{ks:List Keyword} (hx:SndE Θ n env x e) (hxs:SndKs Θ n env xs ks):SndKs Θ n env (x :: xs) (⟨nm,e,kp⟩ :: ks):=λ {A h₀ L m φ H news s ρ Q E} pos a hp=>by
 show wpAny Θ.M A (evalAll ((do let v <- eval e env;standAt pos;pure v) :: ((backToKw pos (keywordEach ks env)).map (·.2)))) Q E s
 exact wpAny_evalAll_cons (wpAny_bind (hx a (Pst.bind hp λg₁ φ₁ news₁ h₁ tk v p H₁ T₁ S₁ x₁ r₁ hp=>wpAny_bind (wpAny_standAt (wpAny_pure
  (hxs pos (a.step S₁ x₁) (Pst.bind hp λg₂ φ₂ news₂ h₂ tk₂ vs ps H₂ T₂ S₂ x₂ r₂ hp=>hp _ _ _ _ _ _ .rfl S₂ (.refl _ _) (.cons (r₁.mono x₂) r₂))))))))
theorem kw_keys (pos:Pos) (env:Env) (ks:List Keyword):(backToKw pos (keywordEach ks env)).map (·.1)=ks.map (·.arg):=by
 induction ks with
 | nil=>rfl
 | cons k r ih=>cases k;exact congrArg (_ :: ·) ih
theorem some_keys {α:Type}{l:List (Option Str × α)}: ∀ {kn:List Str},l.map (·.1)=kn.map some->l.filterMap (·.1)=kn/\l.all (·.1.isSome)=true/\l.any (·.1.isNone)=false:=by
 induction l with
 | nil=>intro kn h;cases kn with
  | nil=>exact⟨rfl,rfl,rfl⟩
  | cons _ _=>injection h
 | cons a r ih=>intro kn h;cases kn with
  | nil=>injection h
  | cons k kn=>
   have h1:a.1=some k:=(List.cons.inj h).1
   have i:=ih (List.cons.inj h).2
   rw [List.filterMap_cons,List.all_cons,List.any_cons,h1]
   exact⟨congrArg (k :: ·) i.1,i.2.1,i.2.2⟩
theorem vrels_zip {τ:Tabs}{vs:List V}{ps:List Value} (h:VRels τ φ news vs ps): ∀ {kn:List Str},(kn.zip vs).map (·.1)=(kn.zip ps).map (·.1)/\VRels τ φ news ((kn.zip vs).map (·.2)) ((kn.zip ps).map (·.2)):=by
 induction h with
 | nil=>intro kn;rw [List.zip_nil_right,List.zip_nil_right];exact⟨rfl, .nil⟩
 | cons h1 _ ih=>intro kn;cases kn with
  | nil=>exact⟨rfl, .nil⟩
  | cons k kn=>exact⟨congrArg (k :: ·) (ih (kn:=kn)).1, .cons h1 (ih (kn:=kn)).2⟩
theorem wp_args {α:Type}{R:Phi->Nws->α->Value->Prop}{pos:Pos}{f:Value}{first:List Value}{args:List Expr}{kws:List Keyword}{kn:List Str}{xs ks:List X}{Q:Value->Shared->Prop}{g:List V->List (Str × V)->M α}
 (hst:args.all (λe=> !isStar e)=true) (hkn:kws.map (·.arg)=kn.map some)
 (hxs:SndEs Θ n env xs args) (hks:SndKs Θ n env ks kws)
 (hk: ∀ {gd:Gd}{φ':Phi}{H':Hp}{news':Nws}{h':Heap},Stt Θ A.frames gd L m φ' H' news' h'->Ext φ news φ' news'->∃k,(k=Keeper.frame\/k=Keeper.machine\/k=Keeper.boundFrame)/\Looks Θ.M h' (keeperOf f) k)
 (a:At Θ A n env h₀ L m φ H news s ρ)
 (hp:Pst Θ A.frames h₀ L m R Q E φ news s ((do
  let vs <- evs (run n Θ.P) Θ.P xs ρ
  let us <- evs (run n Θ.P) Θ.P ks ρ
  g vs (kn.zip us):M α) H))
 (kall: ∀ {gd:Gd}{φ':Phi}{H':Hp}{news':Nws}{h':Heap}{gn:Array GenState}{dr:Drawn}{tk:Nat}{vs:List V}{us:List (Str × V)}{ps:List Value}{qs:List (Str × Value)},Stt Θ A.frames gd L m φ' H' news' h'->Ext φ news φ' news'->VRels Θ.τ φ' news' vs ps->KRel Θ φ' news' us qs->
  Pst Θ A.frames gd L m R Q E φ' news' ⟨h',gn,dr,tk,s.os⟩ (g vs us H')->wpAny Θ.M A (call f (first ++ ps) qs) Q E ⟨h',gn,dr,tk,s.os⟩) :
 wpAny Θ.M A (callWith pos f first (backTo pos (starEach args env)) (backToKw pos (keywordEach kws env))) Q E s:=by
 obtain⟨e1,e2,e3⟩:=some_keys ((kw_keys pos env kws).trans hkn)
 have e4:=starEach_plain pos env args hst
 refine callWith_of (P:=λh'=>∃k,(k=Keeper.frame\/k=Keeper.machine\/k=Keeper.boundFrame)/\Looks Θ.M h' (keeperOf f) k) (by rw [e4,e3];rfl) (λ_ x=>x) ?_
 have body:wpAny Θ.M A (spliced (backTo pos (starEach args env))) (λvs s₁=>wpAny Θ.M A (evalAll ((backToKw pos (keywordEach kws env)).map (·.2))) (λks s₂=>(∃k,(k=Keeper.frame\/k=Keeper.machine\/k=Keeper.boundFrame)/\Looks Θ.M s₂.heap (keeperOf f) k)/\wpAny Θ.M A (call f (first ++ vs) (((backToKw pos (keywordEach kws env)).filterMap (·.1)).zip ks)) Q E s₂) E s₁) E s:=by
  rw [e1]
  refine hxs pos a (Pst.bind hp λg₁ φ₁ news₁ h₁ tk vs ps H₁ T₁ S₁ x₁ r₁ hp₁=> ?_)
  refine hks pos (a.step S₁ x₁) (Pst.bind hp₁ λg₂ φ₂ news₂ h₂ tk₂ us qs H₂ T₂ S₂ x₂ r₂ hp₂=> ?_)
  exact⟨hk S₂ (x₁.trans x₂),kall S₂ (x₁.trans x₂) (r₁.mono x₂) (vrels_zip r₂) hp₂⟩
 cases args with
 | nil=>
  unfold evalArgs
  show wpAny Θ.M A (spliced [] >>= _) _ E s
  refine wpAny_bind (wpAny_mono body (λvs s₁ h₁=>wpAny_holding ?_) λ_ _ x=>x)
  rw [e2,if_pos rfl]
  exact wpAny_bind (wpAny_mono h₁ (λks s₂ h₂=>wpAny_bind (wpAny_pure (wpAny_pure h₂))) λ_ _ x=>x)
 | cons e r=>
  rw [starEach_cons (Bool.not_eq_true' _▸(Bool.and_eq_true_iff.mp hst).1)] at body ⊢
  exact evalArgs_kw e2 body
end
structure Stat3 (Θ:Cx):Prop extends Stat2 Θ where
 isi1: ∀ (k:Nat) (C:Addr),Θ.τ.ca k=some C->kitOne Θ.K (.type "int") (.ref C)=some false
 isi2: ∀b:B,b= .int\/b= .bool\/b= .tstr->kitOne Θ.K (.type "int") (bval b)=some (decide (b= .int))/\kitOne Θ.K (.type "str") (bval b)=some (decide (b= .tstr))
 isi3: ∀ (c k:Nat) (C D:Addr),Θ.τ.ca c=some C->Θ.τ.ca k=some D->kitOne Θ.K (.ref C) (.ref D)=some (c == k)
 own: ∀ (c:Nat) (C:Addr),Θ.τ.ca c=some C->findIn Θ.K (.ref C) "__class__" =some (some (.builtin "object.__class__"))/\mroIn Θ.K C (.type "object")=some true
 own2:specialIn Θ.K (.builtin "object.__class__") "__get__" =some (some (.builtin "getset_descriptor.__get__"))/\takesIn Θ.K (.builtin "object.__class__")=some true
section
variable {Θ:Cx}{n:Nat}{env:Env}{A:Around}{h₀:Gd}{h:Heap}{L:Addr}{m:Str->Option Value}{φ:Phi}{H:Hp}{news:Nws}{s:Shared}{ρ:Lo}{E:Value->Shared->Prop}
theorem wp_isiC {v:V}{p:Value}{k:Nat}{C:Addr}{Q:Value->Shared->Prop} (st:Stat3 Θ) (S:Stt Θ A.frames h₀ L m φ H news s.heap) (hc:Θ.τ.ca k=some C) (rv:VRel Θ.τ φ news v p)
 (hp:Pst Θ A.frames h₀ L m (RV Θ) Q E φ news s (isInst k v H)):wpAny Θ.M A (call (.builtin "isinstance") [p, .ref C]) Q E s:=
 have X:=S.top.k.keeps S.fr.keep
 Pst.om hp (λ_ hp=>Pst.ite hp λhi hp=>(Option.isSome_iff_exists.mp hi).elim λi hi=>rv.intI (C:=λp=>wpAny Θ.M A (call (.builtin "isinstance") [p, .ref C]) Q E s) hi λu=>kia_one (b:=false) kitx_int X trivial (st.isi1 k C hc) nofun λtk=>hp _ _ _ _ _ _ .rfl S (.refl _ _) (.bool false))
  λl hv hp=>Pst.getO hp λo ho hp=>Pst.ofO hp λc hi hp=>rv.refI (C:=λp=>wpAny Θ.M A (call (.builtin "isinstance") [p, .ref C]) Q E s) hv λpa hl=>inst_at S hl ho hi λC2 es kk d=>
   kia_one (b:=c.1 == k) (kitx_own (od:=dictOf es kk) (ox:=instObj C2 pa.2) (st.cls c.1 C2 d.ca) (st.clsD c.1 C2 d.ca) (st.own c.1 C2 d.ca).1 st.own2.1 st.own2.2 (st.own c.1 C2 d.ca).2) X (d.at S) (st.isi3 c.1 k C2 C d.ca hc) nofun λtk=>hp _ _ _ _ _ _ .rfl S (.refl _ _) (.bool _)
theorem wp_isiB {v:V}{p:Value}{b:B}{Q:Value->Shared->Prop} (st:Stat3 Θ) (S:Stt Θ A.frames h₀ L m φ H news s.heap) (hb:b= .int\/b= .bool\/b= .tstr) (rv:VRel Θ.τ φ news v p)
 (hp:Pst Θ A.frames h₀ L m (RV Θ) Q E φ news s (isB b v H)):wpAny Θ.M A (call (.builtin "isinstance") [p,bval b]) Q E s:=by
 have X:=S.top.k.keeps S.fr.keep
 have e:=st.isi2 b hb
 unfold isB at hp
 by_cases h2:kd v=2
 ·rw [if_pos h2] at hp
  obtain⟨u,rfl⟩:=(kd2 h2▸rv).inv
  exact kia_one kitx_int X trivial e.1 nofun λtk=>hp _ _ _ _ _ _ .rfl S (.refl _ _) (.bool _)
 ·rw [if_neg h2] at hp
  refine Pst.ite hp λh3 hp=> ?_
  obtain⟨u,rfl⟩:=(kd3 h3▸rv).inv
  exact kia_one kitx_str X trivial e.2 nofun λtk=>hp _ _ _ _ _ _ .rfl S (.refl _ _) (.bool _)
theorem wp_len {v:V}{p:Value}{Q:Value->Shared->Prop} (S:Stt Θ A.frames h₀ L m φ H news s.heap) (rv:VRel Θ.τ φ news v p)
 (hp:Pst Θ A.frames h₀ L m (RV Θ) Q E φ news s (bLen Θ.P v H)):wpAny Θ.M A (call (.builtin "len") [p]) Q E s:=
 Pst.ite2 hp (λhz hp=>by
  obtain rfl:=isScr_eq hz
  refine scr_at S rv λa its ea hl hal hsz=> ?_
  rw [ea]
  exact len_list hl (Int.ofNat_lt.mpr (Nat.lt_of_le_of_lt hsz (by decide:2 ^ 20 < 2 ^ 63))) ((show Θ.P.scr.length=its.size from hal.length)▸hp _ _ _ _ _ _ .rfl S (.refl _ _) (.int _ _))) λhz hp=>
 Pst.ofO hp λl hv hp=>Pst.getLs hp λo vs ho hl' hp=>rv.refI (C:=λp=>wpAny Θ.M A (call (.builtin "len") [p]) Q E s) hv λpa hl=>list_at S hl ho hl' λits k d=>
  len_list (d.at S) d.lt (d.len.symm▸hp _ _ _ _ _ _ .rfl S (.refl _ _) (.int _ _))
end
section
variable {Θ:Cx}{n:Nat}{env:Env}
theorem snd_attr {x:X}{e:Expr}{a:Nat}{name:Str}{pos:Pos} (st:Stat3 Θ) (hn:Θ.τ.nm[a]? =some name) (hx:SndE Θ n env x e)
 (he:eval (.Attribute e name pos) env=(do
  let o <- eval e env
  standAt pos.atName
  let r <- holding [o] (getAttr o name true)
  letTemporaryGo e o r
  pure r)):SndE Θ n env (.attr x a) (.Attribute e name pos):=λat_ hp=>
 Attribute_any_ (hx at_ (Pst.bind hp λg₁ φ₁ news₁ h₁ tk v p H₁ T₁ S₁ x₁ r₁ hp=>wp_getA st.toStat S₁ hn r₁ hp)) he
theorem snd_sub {x y:X}{e i:Expr}{pos:Pos} (st:Stat3 Θ) (hC:SndC Θ n) (hs:isSlice i=false) (hx:SndE Θ n env x e) (hy:SndE Θ n env y i):SndE Θ n env (.sub x y) (.Subscript e i pos):=λat_ hp=>
 Subscript_ (hx at_ (Pst.bind hp λg₁ φ₁ news₁ h₁ tk v p H₁ T₁ S₁ x₁ r₁ hp=>hy (at_.step S₁ x₁) (Pst.bind hp λg₂ φ₂ news₂ h₂ tk₂ w q H₂ T₂ S₂ x₂ r₂ hp=>wp_sub hs st.toStat2 hC at_.room S₂ (r₁.mono x₂) r₂ hp)))
theorem snd_neg {x:X}{a:Expr}{pos:Pos} (hx:SndE Θ n env x a):SndE Θ n env (.neg x) (.UnaryOp .USub a pos):=λ {A h₀ L m φ H news s ρ Q E} at_ hp=>
 wpAny_UnaryOp (hx at_ (Pst.bind hp λ {gn₁ dr₁} g₁ φ₁ news₁ h₁ tk v p H₁ T₁ S₁ x₁ r₁ hp=>Pst.ofO hp λi hi hp=>r₁.intI (C:=λp=>wpAny Θ.M A (unaryOp .USub p) Q E ⟨h₁,gn₁,dr₁,tk,s.os⟩) hi λt=>neg_int (hp _ _ _ _ _ _ .rfl S₁ (.refl _ _) (.int _ _))))
theorem snd_not {x:X}{a:Expr}{pos:Pos} (st:Stat3 Θ) (hC:SndC Θ n) (hx:SndE Θ n env x a):SndE Θ n env (.not x) (.UnaryOp .Not a pos):=λat_ hp=>
 wpAny_UnaryOp (hx at_ (Pst.bind hp λg₁ φ₁ news₁ h₁ tk v p H₁ T₁ S₁ x₁ r₁ hp=>not_of (wp_truthy st.toStat hC at_.room S₁ r₁ (Pst.bind (R:=RE) hp λg₂ φ₂ news₂ h₂ tk₂ a b H₂ T₂ S₂ x₂ r₂ hp=>(show a=b from r₂)▸hp _ _ _ _ _ _ .rfl S₂ (.refl _ _) (.bool _)))))
theorem snd_cmp {x y:X}{a b:Expr}{op:CmpOp}{pos:Pos} (st:Stat3 Θ) (hC:SndC Θ n) (hm:behindInMarks op b=false) (hx:SndE Θ n env x a) (hy:SndE Θ n env y b):SndE Θ n env (.cmp op x y) (.Compare a [op] [b] pos):=λat_ hp=>
 wpAny_Compare1 (hx at_ (Pst.bind hp λg₁ φ₁ news₁ h₁ tk v p H₁ T₁ S₁ x₁ r₁ hp=>hy (at_.step S₁ x₁) (Pst.bind hp λg₂ φ₂ news₂ h₂ tk₂ w q H₂ T₂ S₂ x₂ r₂ hp=>wp_cmpOp st.toStat2 hC at_.room S₂ (r₁.mono x₂) r₂ hp))) hm
noncomputable def SndT (Θ:Cx) (n:Nat) (env:Env) (x:X) (e:Expr):Prop:=
 ∀ {A:Around}{h₀:Gd}{L:Addr}{m:Str->Option Value}{φ:Phi}{H:Hp}{news:Nws}{s:Shared}{ρ:Lo}{Q:Bool->Shared->Prop}{E:Value->Shared->Prop},
  At Θ A n env h₀ L m φ H news s ρ->Pst Θ A.frames h₀ L m RE Q E φ news s (evT (run n Θ.P) Θ.P x ρ H)->wpAny Θ.M A (isTrue e env (eval e env)) Q E s
theorem sndt_truth {x:X}{e:Expr} (st:Stat3 Θ) (hC:SndC Θ n) (hx:SndE Θ n env x e) (he:isTrue e env (eval e env)=(do let v <- eval e env;standAt e.pos;holding [v] (PySem.truthy v))):SndT Θ n env (.truth x) e:=λat_ hp=>
 wpAny_isTrue_value (hx at_ (Pst.bind hp λg₁ φ₁ news₁ h₁ tk v p H₁ T₁ S₁ x₁ r₁ hp=>wp_truthy st.toStat hC at_.room S₁ r₁ hp)) he
theorem sndt_not {x:X}{e:Expr}{pos:Pos} (h:SndT Θ n env x e):SndT Θ n env (.not x) (.UnaryOp .Not e pos):=λat_ hp=>
 wpAny_isTrue_Not (h at_ (Pst.bind (R:=RE) hp λg₁ φ₁ news₁ h₁ tk a b H₁ T₁ S₁ x₁ r₁ hp=>(show a=b from r₁)▸hp _ _ _ _ _ _ .rfl S₁ (.refl _ _) rfl))
theorem sndt_and {x y:X}{a b:Expr}{pos:Pos} (hx:SndT Θ n env x a) (hy:SndT Θ n env y b):SndT Θ n env (.and x y) (.BoolOp .And [a,b] pos):=λat_ hp=>
 wpAny_isTrue_BoolOp (wpAny_allTrue_And_cons (hx at_ (Pst.bind (R:=RE) hp λg₁ φ₁ news₁ h₁ tk c d H₁ T₁ S₁ x₁ r₁ hp=>by
  obtain rfl:c=d:=r₁
  cases c with
  | false=>exact hp _ _ _ _ _ _ .rfl S₁ (.refl _ _) rfl
  | true=>exact wpAny_allTrue_And_cons (hy (at_.step S₁ x₁) (Pst.mono hp λb s' h=>by
   cases b
   ·exact h
   ·exact wpAny_allTrue_And_nil h)))))
theorem sndt_or {x y:X}{a b:Expr}{pos:Pos} (hx:SndT Θ n env x a) (hy:SndT Θ n env y b):SndT Θ n env (.or x y) (.BoolOp .Or [a,b] pos):=λat_ hp=>
 wpAny_isTrue_BoolOp (wpAny_allTrue_Or_cons (hx at_ (Pst.bind (R:=RE) hp λg₁ φ₁ news₁ h₁ tk c d H₁ T₁ S₁ x₁ r₁ hp=>by
  obtain rfl:c=d:=r₁
  cases c with
  | true=>exact hp _ _ _ _ _ _ .rfl S₁ (.refl _ _) rfl
  | false=>exact wpAny_allTrue_Or_cons (hy (at_.step S₁ x₁) (Pst.mono hp λb s' h=>by
   cases b
   ·exact wpAny_allTrue_Or_nil h
   ·exact h)))))
theorem truthyB {A:Around}{l:Option (List Env)}{h₀:Gd}{L:Addr}{m:Str->Option Value}{φ:Phi}{H:Hp}{news:Nws}{s:Shared}{Q:Bool->Shared->Prop}{E:Value->Shared->Prop}{v:V}{p:Value} (S:Stt Θ l h₀ L m φ H news s.heap) (r:VRel Θ.τ φ news v p)
 (hp:Pst Θ l h₀ L m RE Q E φ news s (asBool v H)):wpAny Θ.M A (PySem.truthy p) Q E s:=
 Pst.ofO0 hp λb hb hp=>r.boolI hb▸wpAny_truthy_bool (hp _ _ _ _ _ _ .rfl S (.refl _ _) rfl)
theorem sndt_cmp {x y:X}{a b:Expr}{op:CmpOp}{pos:Pos} (st:Stat3 Θ) (hC:SndC Θ n) (hm:behindInMarks op b=false) (hx:SndE Θ n env x a) (hy:SndE Θ n env y b):SndT Θ n env (.cmp op x y) (.Compare a [op] [b] pos):=λat_ hp=>
 wpAny_isTrue_Compare1 (hx at_ (Pst.bind hp λg₁ φ₁ news₁ h₁ tk v p H₁ T₁ S₁ x₁ r₁ hp=>hy (at_.step S₁ x₁) (Pst.bind hp λg₂ φ₂ news₂ h₂ tk₂ w q H₂ T₂ S₂ x₂ r₂ hp=>wp_cmpOp st.toStat2 hC at_.room S₂ (r₁.mono x₂) r₂
  (Pst.bind hp λg₃ φ₃ news₃ h₃ tk₃ w₃ q₃ H₃ T₃ S₃ x₃ r₃ hp=>truthyB S₃ r₃ hp)))) hm
theorem snd_cmp2 {x y z:X}{a b c:Expr}{op op2:CmpOp}{pos:Pos} (st:Stat3 Θ) (hC:SndC Θ n) (hm:lastMarks [op,op2] [b,c]=false) (hx:SndE Θ n env x a) (hy:SndE Θ n env y b) (hz:SndE Θ n env z c):SndE Θ n env (.cmp2 x op y op2 z) (.Compare a [op,op2] [b,c] pos):=λat_ hp=>by
 refine Compare_chain (hx at_ (Pst.bind hp λg₁ φ₁ news₁ h₁ tk v p H₁ T₁ S₁ x₁ r₁ hp=>chain_link (hy (at_.step S₁ x₁) (Pst.bind hp λg₂ φ₂ news₂ h₂ tk₂ w q H₂ T₂ S₂ x₂ r₂ hp=>wp_cmpOp st.toStat2 hC at_.room S₂ (r₁.mono x₂) r₂ (Pst.bind hp λg₃ φ₃ news₃ h₃ tk₃ w₃ q₃ H₃ T₃ S₃ x₃ r₃ hp=> ?_))))) hm
 refine Pst.ofO hp λb hb hp=>r₃.boolI hb▸wpAny_truthy_bool ?_
 cases b with
 | false=>exact hp _ _ _ _ _ _ .rfl S₃ (.refl _ _) (.bool _)
 | true=>exact chain_last (hz (((at_.step S₁ x₁).step S₂ x₂).step S₃ x₃) (Pst.bind hp λg₄ φ₄ news₄ h₄ tk₄ w₄ q₄ H₄ T₄ S₄ x₄ r₄ hp=>wp_cmpOp st.toStat2 hC at_.room S₄ ((r₂.mono x₃).mono x₄) r₄ hp))
theorem snd_and {x y:X}{e e₂:Expr}{es:List Expr}{pos:Pos} (st:Stat3 Θ) (hC:SndC Θ n) (hx:SndE Θ n env x e) (hy:SndE Θ n env y (.BoolOp .And (e₂ :: es) pos)):SndE Θ n env (.and x y) (.BoolOp .And (e :: e₂ :: es) pos):=λat_ hp=>
 BoolOp_and (hx at_ (Pst.bind hp λg₁ φ₁ news₁ h₁ tk v p H₁ T₁ S₁ x₁ r₁ hp=>wp_truthy st.toStat hC at_.room S₁ r₁ (Pst.bind (R:=RE) hp λg₂ φ₂ news₂ h₂ tk₂ c q H₂ T₂ S₂ x₂ r₂ hp=>by
  obtain rfl:c=q:=r₂
  cases c with
  | false=>exact hp _ _ _ _ _ _ .rfl S₂ (.refl _ _) (r₁.mono x₂)
  | true=>exact hy ((at_.step S₁ x₁).step S₂ x₂) hp)))
theorem snd_one {op:BoolOp}{x:X}{e:Expr}{pos:Pos} (hx:SndE Θ n env x e):SndE Θ n env x (.BoolOp op [e] pos):=λat_ hp=>BoolOp_one (hx at_ hp)
theorem snd_ite {t x y:X}{a b e:Expr}{pos:Pos} (ht:SndT Θ n env t e) (hx:SndE Θ n env x a) (hy:SndE Θ n env y b):SndE Θ n env (.ite t x y) (.IfExp e a b pos):=λat_ hp=>
 wpAny_IfExp (ht at_ (Pst.bind (R:=RE) hp λg₁ φ₁ news₁ h₁ tk c q H₁ T₁ S₁ x₁ r₁ hp=>by
  obtain rfl:c=q:=r₁
  cases c
  ·exact hy (at_.step S₁ x₁) hp
  ·exact hx (at_.step S₁ x₁) hp))
theorem bind_ok {α β:Type}{x:M α}{f:α->M β}{H:Hp}{b:β}{H':Hp}{G:Prop} (h:M.bind x f H= .ok b H') (k: ∀a H₁,x H= .ok a H₁->f a H₁= .ok b H'->G):G:=by
 unfold M.bind at h
 cases hx:x H with
 | ok a H₁=>rw [hx] at h;exact k a H₁ hx h
 | ex H₁=>rw [hx] at h;injection h
 | no=>rw [hx] at h;injection h
theorem evs_length (C:CallT) (P:Prog) {ρ:Lo} (xs:List X): ∀ {H H':Hp}{vs:List V},evs C P xs ρ H= .ok vs H'->vs.length=xs.length:=by
 induction xs with
 | nil=>intro H H' vs h;exact congrArg List.length (Res.okI h).1.symm
 | cons x r ih=>
  intro H H' vs h
  refine bind_ok h λa H₁ _ h=>bind_ok h λus H₂ h2 h=> ?_
  have e:=(Res.okI h).1
  exact e▸congrArg (· + 1) (ih h2)
theorem small100 {k:Nat} (h:k<=100):k<=sizeLine:=by rw [sizeLine_eq];lia
theorem snd_tup {xs:List X}{es:List Expr}{k:Nat}{pos:Pos} (hxs:SndEs Θ n env xs es) (hz:xs.length<=100):SndE Θ n env (.tup xs) (.Tuple es k pos):=λ {A h₀ L m φ H news s ρ Q E} at_ hp=>
 Tuple_ (hxs pos at_ (Pst.bindE hp λg₁ φ₁ news₁ h₁ tk vs ps H₁ hev T₁ S₁ x₁ r₁ hp=>kup_newTuple S₁.fr S₁.nw (λD h' F' N' lt=>
  hp _ _ _ h' _ _ .rfl (S₁.new F' N' lt) (Ext.cons _ _ _) (.tup (.head _) (VRels.mono (Ext.cons _ _ _) r₁))) (small100 (r₁.length▸(evs_length _ _ xs hev).symm▸hz))))
theorem snd_lst {xs:List X}{es:List Expr}{pos:Pos} (hxs:SndEs Θ n env xs es) (hz:xs.length<=100):SndE Θ n env (.lst xs) (.List es pos):=λ {A h₀ L m φ H news s ρ Q E} at_ hp=>
 List_ (hxs pos at_ (Pst.bindE hp λg₁ φ₁ news₁ h₁ tk vs ps H₁ hev T₁ S₁ x₁ r₁ hp=>newList_K S₁.fr S₁.nw (λD h' F' N' lt=>
  S₁.allocList F' N' lt (vs:=vs) r₁ (Nat.le_trans ((evs_length _ _ xs hev).symm▸hz) (by decide)) λS' x' r'=>hp _ _ _ h' _ _ .rfl S' x' r') (small100 (r₁.length▸(evs_length _ _ xs hev).symm▸hz))))
theorem snd_dict0 {pos:Pos}:SndE Θ n env .dict0 (.Dict [] [] pos):=λ {A h₀ L m φ H news s ρ Q E} at_ hp=>by
 refine newDict_K at_.st.fr at_.st.nw at_.st.top.top.nolimit λd h' o F' N' lt lo _ _ hi _=> ?_
 have S:=at_.st
 have ne: ∀q∈news,q.1≠d:=λq hq=>Nat.ne_of_lt (lt q hq)
 have x:Ext φ news (φ ++ [(d,d)]) ((d,o) :: news):=⟨ext_snoc φ _,λq hq _=> .tail _ hq⟩
 have hf:Mini.frz o=false:=hi.elim λes h=>h.elim λep h=>frz_dict h.1.1
 have S1:=S.new F' N' lt
 exact hp _ _ _ h' _ (.ref d) .rfl ⟨F',N',S1.nd,S.rep.alloc (λq hq=> .tail _ hq) ne ne ⟨o,[],rfl, .head _,hi,rfl, .nil,hf,lo,Nat.zero_le _⟩,S.gb,S1.df.alloc λq hq=>⟨Ne.symm (ne q (S.df.p q hq).1),Ne.symm (ne q (S.df.p q hq).1)⟩⟩ x
  (VRel.ref (p:=(d,d)) (by rw [<- S.rep.len];exact nth_append_self φ _))
end
section
variable {prog:Program}{w:World}{A:Around}{E:Value->Shared->Prop}{s:Shared}{Q:Value->Shared->Prop}
theorem declNone_lt (y:Value) (h:Q .notImplemented s):wpAny (model prog w) A (call (.builtin "NoneType.__lt__") [.none,y]) Q E s:=
 wpAny_call_entry PySem.F.slot_NoneType_lt (typeIs_none s) PySem.F.entry_NoneType_lt
  (show wpAny _ _ (do ret .notImplemented) _ _ s from wpAny_pure ⟨_,rfl,h⟩) (PySem.F.args_NoneType_lt_2 _ _)
theorem declNone_gt (y:Value) (h:Q .notImplemented s):wpAny (model prog w) A (call (.builtin "NoneType.__gt__") [.none,y]) Q E s:=
 wpAny_call_entry PySem.F.slot_NoneType_gt (typeIs_none s) PySem.F.entry_NoneType_gt
  (show wpAny _ _ (do ret .notImplemented) _ _ s from wpAny_pure ⟨_,rfl,h⟩) (PySem.F.args_NoneType_gt_2 _ _)
noncomputable def notI:Value->Bool
 | .none=>true
 | .str _ _=>true
 | _=>false
noncomputable def notS:Value->Bool
 | .none=>true
 | .int _ _=>true
 | _=>false
theorem declInt_lt (i:Int) (t:Tok) (y:Value) (hy:notI y=true) (h:Q .notImplemented s):wpAny (model prog w) A (call (.builtin "int.__lt__") [.int i t,y]) Q E s:=by
 cases y <;> first | exact Bool.noConfusion hy | exact wpAny_call_entry slot_int_lt (typeIs_int s i t) entry_int_lt (show wpAny _ _ (do rule "int.binary.not-an-int";ret .notImplemented) _ _ s from wpAny_bind (wpAny_rule (wpAny_pure ⟨_,rfl,h⟩))) (args_int_lt _ _)
theorem declInt_gt (i:Int) (t:Tok) (y:Value) (hy:notI y=true) (h:Q .notImplemented s):wpAny (model prog w) A (call (.builtin "int.__gt__") [.int i t,y]) Q E s:=by
 cases y <;> first | exact Bool.noConfusion hy | exact wpAny_call_entry PySem.F.slot_int_gt (typeIs_int s i t) PySem.F.entry_int_gt (show wpAny _ _ (do rule "int.binary.not-an-int";ret .notImplemented) _ _ s from wpAny_bind (wpAny_rule (wpAny_pure ⟨_,rfl,h⟩))) (PySem.F.args_int_gt_2 _ _)
theorem declStr_lt (x:Str) (t:Tok) (y:Value) (hy:notS y=true) (h:Q .notImplemented s):wpAny (model prog w) A (call (.builtin "str.__lt__") [.str x t,y]) Q E s:=by
 cases y <;> first | exact Bool.noConfusion hy | exact wpAny_call_entry PySem.F.slot_str_lt (typeIs_str s x t) PySem.F.entry_str_lt (show wpAny _ _ (do rule "str.__lt__.not-a-str";ret .notImplemented) _ _ s from wpAny_bind (wpAny_rule (wpAny_pure ⟨_,rfl,h⟩))) (PySem.F.args_str_lt_2 _ _)
theorem declStr_gt (x:Str) (t:Tok) (y:Value) (hy:notS y=true) (h:Q .notImplemented s):wpAny (model prog w) A (call (.builtin "str.__gt__") [.str x t,y]) Q E s:=by
 cases y <;> first | exact Bool.noConfusion hy | exact wpAny_call_entry PySem.F.slot_str_gt (typeIs_str s x t) PySem.F.entry_str_gt (show wpAny _ _ (do rule "str.__gt__.not-a-str";ret .notImplemented) _ _ s from wpAny_bind (wpAny_rule (wpAny_pure ⟨_,rfl,h⟩))) (PySem.F.args_str_gt_2 _ _)
end
theorem pord0_kinds {v w:V} (h:pord0 false v w= .err):kd v≠0/\kd w≠0/\kd v≠kd w:=by
 unfold pord0 at h
 by_cases q:kd v=2/\kd w=2
 ·rw [if_pos q] at h;injection h
 rw [if_neg q] at h
 by_cases q:kd v=3/\kd w=3
 ·rw [if_pos q] at h;injection h
 rw [if_neg q] at h
 by_cases q:kd v≠0/\kd w≠0/\false=false/\kd v≠kd w
 ·exact⟨q.1,q.2.1,q.2.2.2⟩
 ·rw [if_neg q] at h;injection h
theorem kd_rel {τ:Tabs}{φ:Phi}{news:Nws}{v:V}{p:Value} (r:VRel τ φ news v p) (h:kd v≠0):(kd v=1/\p= .none)\/(kd v=2/\∃i t,p= .int i t)\/(kd v=3/\∃x t,p= .str x t):=by
 cases v with
 | none=>exact .inl ⟨rfl,r.inv⟩
 | int i=>exact .inr (.inl ⟨rfl,i,r.inv⟩)
 | str x=>exact .inr (.inr ⟨rfl,x,r.inv⟩)
 | _=>exact absurd rfl h
theorem sndErr (Θ:Cx):SndErr Θ:=by
 intro A φ news s v w p q Q E hh hu rv rw_ he h
 show wpAny Θ.M A (richCompare .Lt p q) Q E s
 have k:=pord0_kinds he
 rcases kd_rel rv k.1 with⟨e1,rfl⟩ | ⟨e1,i,t,rfl⟩ | ⟨e1,i,t,rfl⟩ <;> rcases kd_rel rw_ k.2.1 with⟨e2,rfl⟩ | ⟨e2,j,u,rfl⟩ | ⟨e2,j,u,rfl⟩ <;> first | exact absurd (e1.trans e2.symm) k.2.2 | clear he k rv rw_ e1 e2
 ·exact wpAny_richCompare_lt_declined hh (λs'=>typeIs_none s') (λs'=>typeIs_int s' j u) (by decide) PySem.F.sub_int_NoneType PySem.F.slot_NoneType_lt PySem.F.slot_int_gt_refl (by decide) (by decide)
   (declNone_lt _ ⟨rfl,declInt_gt _ _ _ rfl ⟨rfl,h⟩⟩)
 ·exact wpAny_richCompare_lt_declined hh (λs'=>typeIs_none s') (λs'=>typeIs_str s' j u) (by decide) PySem.F.sub_str_NoneType PySem.F.slot_NoneType_lt PySem.F.slot_str_gt_refl (by decide) (by decide)
   (declNone_lt _ ⟨rfl,declStr_gt _ _ _ rfl ⟨rfl,h⟩⟩)
 ·exact wpAny_richCompare_lt_declined hh (λs'=>typeIs_int s' i t) (λs'=>typeIs_none s') (by decide) PySem.F.sub_NoneType_int slot_int_lt PySem.F.slot_NoneType_gt_refl (by decide) (by decide)
   (declInt_lt _ _ _ rfl ⟨rfl,declNone_gt _ ⟨rfl,h⟩⟩)
 ·exact wpAny_richCompare_lt_declined hh (λs'=>typeIs_int s' i t) (λs'=>typeIs_str s' j u) (by decide) PySem.F.sub_str_int slot_int_lt PySem.F.slot_str_gt_refl (by decide) (by decide)
   (declInt_lt _ _ _ rfl ⟨rfl,declStr_gt _ _ _ rfl ⟨rfl,h⟩⟩)
 ·exact wpAny_richCompare_lt_declined hh (λs'=>typeIs_str s' i t) (λs'=>typeIs_none s') (by decide) PySem.F.sub_NoneType_str PySem.F.slot_str_lt PySem.F.slot_NoneType_gt_refl (by decide) (by decide)
   (declStr_lt _ _ _ rfl ⟨rfl,declNone_gt _ ⟨rfl,h⟩⟩)
 ·exact wpAny_richCompare_lt_declined hh (λs'=>typeIs_str s' i t) (λs'=>typeIs_int s' j u) (by decide) PySem.F.sub_int_str PySem.F.slot_str_lt PySem.F.slot_int_gt_refl (by decide) (by decide)
   (declStr_lt _ _ _ rfl ⟨rfl,declInt_gt _ _ _ rfl ⟨rfl,h⟩⟩)
noncomputable def gval (τ:Tabs):G->Option Value
 | .cls k=>(τ.ca k).map .ref
 | .fn k=>(τ.fa k).map .ref
 | .bi b=>some (bval b)
structure Stat4 (Θ:Cx):Prop extends Stat3 Θ where
 gl: ∀ (x:Str) (g:G),Θ.gl.lookup x=some g->∃v,gval Θ.τ g=some v/\(nsIn Θ.K mainGlobals x=some (some v)\/(nsIn Θ.K mainGlobals x=some none/\bootBuiltins x=some v/\x≠ "__name__"))
section
variable {Θ:Cx}{n:Nat}{env:Env}
theorem gval_rel {τ:Tabs}{φ:Phi}{news:Nws}{g:G}{v:Value} (h:gval τ g=some v):VRel τ φ news (.g g) v:=by
 cases g with
 | cls k=>
  obtain⟨a,ha,rfl⟩:=Option.map_eq_some_iff.mp h
  exact .cls ha
 | fn k=>
  obtain⟨a,ha,rfl⟩:=Option.map_eq_some_iff.mp h
  exact .fn ha
 | bi b=>cases h;exact .bi b
theorem snd_glob {x:Str}{g:G}{pos:Pos} (st:Stat4 Θ) (hg:Θ.gl.lookup x=some g) (hk:env.scope.names.lookup x=some .globalImplicit) (hd:(x == ("__debug__" :Str))=false):SndE Θ n env (.glob g) (.Name x pos):=λ {A h₀ L m φ H news s ρ Q E} a hp=>by
 refine(st.gl x g hg).elim λv h=> ?_
 have fin:Q v s:=hp _ _ _ _ s.toks v .rfl a.st (.refl _ _) (gval_rel h.1)
 have X:=a.st.top.k
 have T:=a.st.top.top
 have F:=a.st.fr
 refine PySem.Calls.Name_function_global a.eo.kind hk (h.2.elim (λh=> ?_) λh=> ?_) hd
 ·exact PySem.Calls.loadGlobal_global (by rw [a.eo.glob];exact T.g.keeps F.keep) (mg_of X T.g h) fin
 ·exact PySem.Calls.loadGlobal_builtin (by rw [a.eo.glob];exact T.g.keeps F.keep) (mg_none_of X T.g h.1) (by rw [a.eo.blt];exact T.b.keeps F.keep) ((T.builtins x h.2.2).trans h.2.1) fin
theorem snd_cel {x:Str}{i:Nat}{pos:Pos} (hi:idxIn x env.scope.names=some i) (hk:env.scope.names.lookup x=some .cell\/env.scope.names.lookup x=some .free) (hd:(x == ("__debug__" :Str))=false) (hn:(x == ("__classdict__" :Str))=false):SndE Θ n env (.cel i) (.Name x pos):=λ {A h₀ L m φ H news s ρ Q E} a hp=>by
 refine Pst.ofO hp λov hv hp=>Pst.ofO hp λl hl hp=>Pst.getO hp λo ho hp=>Pst.ofO hp λcv hc hp=>Pst.ofO0 hp λv hv' hp=>(a.lr.cel i l (hl▸hv)).elim λy e=>e.elim λk e=>e.elim λp e=> ?_
 have ha:OAt Θ.τ φ news (.cell (some v)) p:=hv'▸oCell_eq hc▸a.st.rep.at_ l _ p ho e.2.2.1
 have e4:=idx_name hi e.1▸e.2.2.2
 refine ha.elim λob ha=>ha.elim λw d=>(d.val v rfl).elim λyv r=> ?_
 have fin:Q yv s:=hp _ _ _ _ s.toks yv .rfl a.st (.refl _ _) r.2
 have at_: ∃ob,s.heap.get? p.1=some ob/\ob.data= .cell (some yv):=⟨ob,a.st.nw.get d.self,r.1▸d.data⟩
 exact wpAny_Name (hk.elim (λhk=>wpAny_loadName_cell a.eo.kind hk e4 at_ fin) λhk=>wpAny_loadName_free a.eo.kind hk e4 at_ fin hn) hd
end
section
variable {Θ:Cx}{n:Nat}{env:Env}{A:Around}{h₀:Gd}{h:Heap}{L:Addr}{m:Str->Option Value}{φ:Phi}{H:Hp}{news:Nws}{s:Shared}{ρ:Lo}{E:Value->Shared->Prop}
theorem Stt.push (S:Stt Θ A.frames h₀ L m φ H news h) (o:Obj) (hf:o.isFreed=false):Stt Θ A.frames h₀ L m φ H ((h.objs.size,o) :: news) (h.push o) :=
 S.new (S.fr.push o) (S.nw.push S.fr o hf) λq hq=>Heap.lt_size (S.nw q hq).1
theorem wp_range {v:V}{p:Value}{Q:Value->Shared->Prop} (S:Stt Θ A.frames h₀ L m φ H news s.heap) (rv:VRel Θ.τ φ news v p) (hp:Pst Θ A.frames h₀ L m (RV Θ) Q E φ news s (bRange v H)):wpAny Θ.M A (call (.type "range") [p]) Q E s:=
 Pst.ofO hp λi hi hp=>Pst.ite hp λ_ hp=>rv.intI (C:=λp=>wpAny Θ.M A (call (.type "range") [p]) Q E s) hi λt=>call_range_1 (hp _ _ _ _ _ _ .rfl (S.push (rngO 0 i s.toks t (s.toks + 1)) rfl) (Ext.cons _ _ _) (.rng (.head _)))
theorem wp_intb {v:V}{p:Value}{Q:Value->Shared->Prop} (S:Stt Θ A.frames h₀ L m φ H news s.heap) (rv:VRel Θ.τ φ news v p) (hp:Pst Θ A.frames h₀ L m (RV Θ) Q E φ news s (bInt v H)):wpAny Θ.M A (call (.type "int") [p]) Q E s:=
 Pst.ofO hp λb hb hp=>rv.boolI hb▸call_int_bool (hp _ _ _ _ _ _ .rfl S (.refl _ _) (.int _ _))
theorem absIf (i:Int):(if i < 0 then -i else i)=(i.natAbs:Int):=by
 by_cases h:i < 0
 ·rw [if_pos h];exact(Int.ofNat_natAbs_of_nonpos (Int.le_of_lt h)).symm
 ·rw [if_neg h];exact(Int.natAbs_of_nonneg (Int.not_lt.mp h)).symm
theorem wp_abs {v:V}{p:Value}{Q:Value->Shared->Prop} (S:Stt Θ A.frames h₀ L m φ H news s.heap) (rv:VRel Θ.τ φ news v p) (hp:Pst Θ A.frames h₀ L m (RV Θ) Q E φ news s (bAbs v H)):wpAny Θ.M A (call (.builtin "abs") [p]) Q E s:=
 Pst.ofO hp λi hi hp=>rv.intI (C:=λp=>wpAny Θ.M A (call (.builtin "abs") [p]) Q E s) hi λt=>call_abs_int λu tk=>absIf i▸hp _ _ _ _ _ _ .rfl S (.refl _ _) (.int _ _)
theorem wp_max {v w:V}{p q:Value}{Q:Value->Shared->Prop} (hh:Θ.P.hd=false->A.handled=none) (S:Stt Θ A.frames h₀ L m φ H news s.heap) (rv:VRel Θ.τ φ news v p) (rw_:VRel Θ.τ φ news w q) (hp:Pst Θ A.frames h₀ L m (RV Θ) Q E φ news s (bMax Θ.P v w H)):wpAny Θ.M A (call (.builtin "max") [p,q]) Q E s:=
 Pst.ite' hp λhd hp=>Pst.int2 (C:=λp q=>wpAny Θ.M A (call (.builtin "max") [p,q]) Q E s) rv rw_ hp λa b t u _ _ hp=>max_two_N (hh (Bool.eq_false_iff.mpr hd)) S.fr S.nw λh' tk F' N'=>hp _ _ _ h' _ _ .rfl ⟨F',N',S.nd,S.rep,S.gb,S.df⟩ (.refl _ _) (.int _ _)
end
noncomputable def SndK (Θ:Cx) (n:Nat):Prop:=
 ∀ {A:Around}{h₀:Gd}{L:Addr}{m:Str->Option Value}{φ:Phi}{H:Hp}{news:Nws}{s:Shared}{f:Nat}{a:Addr}{args:List V}{vals:List Value}{kw:List (Str × V)}{kvs:List (Str × Value)}{R:Result->Shared->Prop},
  RoomC A n Θ.P.hd->Stt Θ A.frames h₀ L m φ H news s.heap->Θ.τ.fa f=some a->VRels Θ.τ φ news args vals->KRel Θ φ news kw kvs->
  Pst Θ A.frames h₀ L m (RI Θ) (λv s'=>R (.ok (.ret v)) s') (λe s'=>R (.error e) s') φ news s (run n Θ.P f [] args kw H)->codeAny Θ.M A (.call (.ref a) ⟨vals,kvs⟩) R s
theorem SndK.toC {Θ:Cx}{n:Nat} (h:SndK Θ n):SndC Θ n:=λr S hf ra rk hp=>wpAny_call (h r S hf ra rk hp)
structure Stat5 (Θ:Cx):Prop extends Stat4 Θ where
 keepC: ∀ (k:Nat) (C:Addr),Θ.τ.ca k=some C->keepIn Θ.K (.ref C)=true
 keepF: ∀ (k:Nat) (a:Addr),Θ.τ.fa k=some a->keepIn Θ.K (.ref a)=true/\fnIn Θ.K a=true
 cm : ∀ (c m f:Nat) (C:Addr) (name:Str),Θ.P.getM c m=some f->Θ.P.cms.contains f=true->Θ.τ.ca c=some C->Θ.τ.nm[m]? =some name->
  ∃ a mc p rest,Θ.τ.fa f=some a/\specialIn Θ.K (.ref C) "__getattribute__" =some (some (.builtin "type.__getattribute__"))/\typeIn Θ.K (.ref C)=some mc/\readsIn Θ.K C mc=true/\
   findCls Θ.K (.ref C) mc name=some (.get (.builtin "classmethod.__get__") (.ref p) .none (.ref C))/\recIn Θ.K p "classmethod" =some (.ref a :: rest)
 plain: ∀ (c:Nat) (C:Addr) (name:Str),Θ.τ.ca c=some C->plainGet Θ.K C name=true
section
variable {Θ:Cx}{n:Nat}{env:Env}{A:Around}{h₀:Gd}{h:Heap}{L:Addr}{m:Str->Option Value}{φ:Phi}{H:Hp}{news:Nws}{s:Shared}{ρ:Lo}{E:Value->Shared->Prop}
theorem under_depth (A:Around) (C:Addr) (vals:List Value) (kw:List (Str × Value)):(A.under (.builtin "type.__call__" ⟨.ref C :: vals,kw⟩)).depth=A.depth + 1:=rfl
theorem under_units (A:Around) (C:Addr) (vals:List Value) (kw:List (Str × Value)):(A.under (.builtin "type.__call__" ⟨.ref C :: vals,kw⟩)).units=A.units + 1:=rfl
theorem under_handled (A:Around) (C:Addr) (vals:List Value) (kw:List (Str × Value)):(A.under (.builtin "type.__call__" ⟨.ref C :: vals,kw⟩)).handled=A.handled:=rfl
theorem Pst.ext {α β:Type}{l:Option (List Env)}{g:Gd}{R:Phi->Nws->α->β->Prop}{Q:β->Shared->Prop}{r:Res α}{φ₁:Phi}{news₁:Nws}{h':Heap}{tk:Nat}{gn:Array GenState}{dr:Drawn} (hp:Pst Θ l h₀ L m R Q E φ news s r) (T:TurnG s.gens gn h₀ g) (X:Ext φ news φ₁ news₁) :
 Pst Θ l g L m R Q E φ₁ news₁ ⟨h',gn,dr,tk,s.os⟩ r:=by
 cases r with
 | ok v H₂=>exact λ_ _ g₂ φ₂ news₂ h₂ tk b T₂ S₂ x₂ r₂=>hp g₂ φ₂ news₂ h₂ tk b (T.trans T₂) S₂ (X.trans x₂) r₂
 | ex H₂=>exact λ_ _ g₂ φ₂ news₂ h₁ h₂ tk e T₂ S₂ x₂ ne=>hp g₂ φ₂ news₂ h₁ h₂ tk e (T.trans T₂) S₂ (X.trans x₂) ne
 | no=>exact hp
theorem wp_make {k:Nat}{C:Addr}{args:List V}{vals:List Value}{kw:List (Str × V)}{kvs:List (Str × Value)}{Q:Value->Shared->Prop} (st:Stat5 Θ) (hK:SndK Θ n) (r:Room A n Θ.P.hd)
 (S:Stt Θ A.frames h₀ L m φ H news s.heap) (hc:Θ.τ.ca k=some C) (ra:VRels Θ.τ φ news args vals) (rk:KRel Θ φ news kw kvs)
 (hp:Pst Θ A.frames h₀ L m (RI Θ) Q E φ news s (make (run n Θ.P) Θ.P k args kw H)):wpAny Θ.M A (call (.ref C) vals kvs) Q E s:=by
 have hp:Pst Θ A.frames h₀ L m (RI Θ) Q E φ news s (M.bind (ofO (Θ.P.getM k nInit)) (λf=>M.bind (run n Θ.P f [] (.ref H.length :: args) kw) λr=>if isNone r then pure (.ref H.length) else stuck) (H ++ [.inst k []])):=hp
 refine Pst.ofO hp λf hi hp=>(st.meth k nInit f C "__init__" hi (st.spm k nInit f hi (by decide)) hc (st.sp (nInit, "__init__") (by decide))).elim λa e=> ?_
 refine wpAny_call (make_K S.fr S.nw (S.top.k.keeps S.fr.keep) (st.clsM k C hc) e.2.1 (beq_iff_eq.mp e.2.2.1) λx dx h' F' N' l1 l2=> ?_)
 have n1: ∀q∈news,q.1≠dx:=λq hq=>Nat.ne_of_lt (l1 q hq)
 have n2: ∀q∈news,q.1≠x:=λq hq=>Nat.ne_of_lt (Nat.lt_trans (l1 q hq) l2)
 have X:Ext φ news (φ ++ [(x,dx)]) ((x,instObj C dx) :: (dx,emptyDict) :: news):=⟨ext_snoc φ _,λq hq _=> .tail _ (.tail _ hq)⟩
 have nd:(((x,instObj C dx) :: (dx,emptyDict) :: news).map (·.1)).Nodup:=
  List.nodup_cons.mpr ⟨λhm=>(List.mem_cons.mp hm).elim (Nat.ne_of_gt l2) λhm=>(List.mem_map.mp hm).elim λq hq=>n2 q hq.1 hq.2,List.nodup_cons.mpr ⟨λhm=>(List.mem_map.mp hm).elim λq hq=>n1 q hq.1 hq.2,S.nd⟩⟩
 have S':Stt Θ A.frames h₀ L m (φ ++ [(x,dx)]) (H ++ [.inst k []]) ((x,instObj C dx) :: (dx,emptyDict) :: news) h':=
  ⟨F',N',nd,S.rep.alloc (p:=(x,dx)) (λq hq=> .tail _ (.tail _ hq)) n2 n1 ⟨C,[],0,hc, .head _, .tail _ (.head _), .nil,Nat.zero_le _,Nat.ne_of_gt l2⟩,S.gb,(S.df.alloc (x:=(x,dx)) λq hq=>⟨Ne.symm (n2 q (S.df.p q hq).1),Ne.symm (n1 q (S.df.p q hq).1)⟩).more λq hq=> .tail _ (.tail _ hq)⟩
 have rx:VRel Θ.τ (φ ++ [(x,dx)]) ((x,instObj C dx) :: (dx,emptyDict) :: news) (.ref H.length) (.ref x):=VRel.ref (p:=(x,dx)) (by rw [<- S.rep.len];exact nth_append_self φ _)
 have hp:=Pst.ext (h':=h') (tk:=s.toks) (dr:=s.drawn) hp .rfl X
 exact hK (r.down (i:=1) (j:=1) (under_depth A C vals kvs) (under_units A C vals kvs) (rD (by decide)) (rD (by decide)) (under_handled A C vals kvs)) S' e.1 (.cons rx (VRels.mono X ra)) (rk.mono X)
  (Pst.bind hp λg₁ φ₁ news₁ h₁ tk v p H₁ T₁ S₁ x₁ r₁ hp=>Pst.ite hp λhn hp=>r₁.inv (λr₁=>⟨r₁.of_none hn,hp _ _ _ _ _ _ .rfl S₁ (.refl _ _) (.inl (rx.mono x₁))⟩) λl e=>by subst e;exact Bool.noConfusion hn)
end
structure SndB (Θ:Cx) (n:Nat):Prop where
 sorted: ∀ {A:Around}{h₀:Gd}{L:Addr}{m:Str->Option Value}{φ:Phi}{H:Hp}{news:Nws}{s:Shared}{v:V}{p:Value}{Q:Value->Shared->Prop}{E:Value->Shared->Prop},
  Room A n Θ.P.hd->Stt Θ A.frames h₀ L m φ H news s.heap->VRel Θ.τ φ news v p->
  Pst Θ A.frames h₀ L m (RV Θ) Q E φ news s (bSorted (run n Θ.P) Θ.P v H)->wpAny Θ.M A (call (.builtin "sorted") [p]) Q E s
 set: ∀ {A:Around}{h₀:Gd}{L:Addr}{m:Str->Option Value}{φ:Phi}{H:Hp}{news:Nws}{s:Shared}{v:V}{p:Value}{Q:Value->Shared->Prop}{E:Value->Shared->Prop},
  Room A n Θ.P.hd->Stt Θ A.frames h₀ L m φ H news s.heap->VRel Θ.τ φ news v p->
  Pst Θ A.frames h₀ L m (RV Θ) Q E φ news s (bSet Θ.P v H)->wpAny Θ.M A (call (.type "set") [p]) Q E s
section
variable {Θ:Cx}{n:Nat}{env:Env}{A:Around}{h₀:Gd}{h:Heap}{L:Addr}{m:Str->Option Value}{φ:Phi}{H:Hp}{news:Nws}{s:Shared}{ρ:Lo}{E:Value->Shared->Prop}
theorem krel_nil {kvs:List (Str × Value)} (h:KRel Θ φ news [] kvs):kvs= []:=List.map_eq_nil_iff.mp h.1.symm
theorem arg1_rel {args:List V}{vals:List Value}{kw:List (Str × V)}{kvs:List (Str × Value)}{f:V->M V}{R:Phi->Nws->V->Value->Prop}{Q:Value->Shared->Prop}{C:List Value->List (Str × Value)->Prop}{l:Option (List Env)}
 (ra:VRels Θ.τ φ news args vals) (rk:KRel Θ φ news kw kvs) (hp:Pst Θ l h₀ L m R Q E φ news s (arg1 args kw f H)) (k: ∀v p,VRel Θ.τ φ news v p->Pst Θ l h₀ L m R Q E φ news s (f v H)->C [p] []):C vals kvs:=by
 cases kw with
 | cons _ _=>exact hp.elim
 | nil=>
  rw [krel_nil rk]
  cases ra with
  | nil=>exact hp.elim
  | cons r1 r2=>cases r2 with
   | cons _ _=>exact hp.elim
   | nil=>exact k _ _ r1 hp
theorem arg2_rel {args:List V}{vals:List Value}{kw:List (Str × V)}{kvs:List (Str × Value)}{f:V->V->M V}{R:Phi->Nws->V->Value->Prop}{Q:Value->Shared->Prop}{C:List Value->List (Str × Value)->Prop}{l:Option (List Env)}
 (ra:VRels Θ.τ φ news args vals) (rk:KRel Θ φ news kw kvs) (hp:Pst Θ l h₀ L m R Q E φ news s (arg2 args kw f H)) (k: ∀v w p q,VRel Θ.τ φ news v p->VRel Θ.τ φ news w q->Pst Θ l h₀ L m R Q E φ news s (f v w H)->C [p,q] []):C vals kvs:=by
 cases ra with
 | nil=>exact hp.elim
 | @cons v _ p _ r1 r2=>exact arg1_rel (C:=λvs ks=>C (p :: vs) ks) r2 rk hp λw q r hp=>k v w p q r1 r hp
theorem wp_isi {v w:V}{p q:Value}{Q:Value->Shared->Prop} (st:Stat3 Θ) (S:Stt Θ A.frames h₀ L m φ H news s.heap) (rv:VRel Θ.τ φ news v p) (rw_:VRel Θ.τ φ news w q)
 (hp:Pst Θ A.frames h₀ L m (RV Θ) Q E φ news s (bIsi v w H)):wpAny Θ.M A (call (.builtin "isinstance") [p,q]) Q E s:=by
 cases w with
 | g g=>cases g with
  | cls k=>exact(show VInv Θ.τ φ news (.g (.cls k)) q from rw_.inv).elim λC e=>e.1▸wp_isiC st S e.2 rv hp
  | bi b=>rw [show q=bval b from rw_.inv];exact Pst.ite hp λhb hp=>wp_isiB st S hb rv hp
  | fn _=>exact hp.elim
 | _=>exact hp.elim
theorem wp_bcall {bi:B}{args:List V}{vals:List Value}{kw:List (Str × V)}{kvs:List (Str × Value)}{Q:Value->Shared->Prop} (st:Stat5 Θ) (hB:SndB Θ n) (r:Room A n Θ.P.hd)
 (S:Stt Θ A.frames h₀ L m φ H news s.heap) (ra:VRels Θ.τ φ news args vals) (rk:KRel Θ φ news kw kvs)
 (hp:Pst Θ A.frames h₀ L m (RV Θ) Q E φ news s (bcall (run n Θ.P) Θ.P bi args kw H)):wpAny Θ.M A (call (bval bi) vals kvs) Q E s:=by
 have one: ∀ {b:B}{f:V->M V},Pst Θ A.frames h₀ L m (RV Θ) Q E φ news s (arg1 args kw f H)->(∀v p,VRel Θ.τ φ news v p->Pst Θ A.frames h₀ L m (RV Θ) Q E φ news s (f v H)->wpAny Θ.M A (call (bval b) [p] []) Q E s)->wpAny Θ.M A (call (bval b) vals kvs) Q E s:=
  λ {b f} hp k=>arg1_rel (C:=λvs ks=>wpAny Θ.M A (call (bval b) vs ks) Q E s) ra rk hp k
 cases bi with
 | len=>exact one hp λv p r1 hp=>wp_len S r1 hp
 | range=>exact one hp λv p r1 hp=>wp_range S r1 hp
 | int=>exact one hp λv p r1 hp=>wp_intb S r1 hp
 | abs=>exact one hp λv p r1 hp=>wp_abs S r1 hp
 | sorted=>exact one hp λv p r1 hp=>hB.sorted r S r1 hp
 | set=>exact one hp λv p r1 hp=>hB.set r S r1 hp
 | max=>exact arg2_rel (C:=λvs ks=>wpAny Θ.M A (call (bval .max) vs ks) Q E s) ra rk hp λv w p q r1 r2 hp=>wp_max r.hand S r1 r2 hp
 | isinstance=>exact arg2_rel (C:=λvs ks=>wpAny Θ.M A (call (bval .isinstance) vs ks) Q E s) ra rk hp λv w p q r1 r2 hp=>wp_isi st.toStat3 S r1 r2 hp
 | _=>exact hp.elim
theorem Pst.ofRI {α:Type}{Q:Value->Shared->Prop}{r:Res V} (hp:Pst Θ A.frames h₀ L m (RI Θ) Q E φ news s r):Pst Θ A.frames h₀ L m (RV Θ) Q E φ news s r:=by
 cases r with
 | ok v H₂=>exact λ_ _ g₂ φ₂ news₂ h₂ tk b T₂ S₂ x₂ r₂=>hp g₂ φ₂ news₂ h₂ tk b T₂ S₂ x₂ (.inl r₂)
 | ex H₂=>exact hp
 | no=>exact hp
theorem wp_callV {g:G}{p:Value}{args:List V}{vals:List Value}{kw:List (Str × V)}{kvs:List (Str × Value)}{Q:Value->Shared->Prop} (st:Stat5 Θ) (hK:SndK Θ n) (hB:SndB Θ n) (r:Room A n Θ.P.hd)
 (S:Stt Θ A.frames h₀ L m φ H news s.heap) (rf:VRel Θ.τ φ news (.g g) p) (ra:VRels Θ.τ φ news args vals) (rk:KRel Θ φ news kw kvs)
 (hp:Pst Θ A.frames h₀ L m (RI Θ) Q E φ news s (callV (run n Θ.P) Θ.P (.g g) args kw H)):wpAny Θ.M A (call p vals kvs) Q E s:=by
 cases g with
 | cls k=>exact(show VInv Θ.τ φ news (.g (.cls k)) p from rf.inv).elim λC e=>e.1▸wp_make st hK r S e.2 ra rk hp
 | fn k=>exact(show VInv Θ.τ φ news (.g (.fn k)) p from rf.inv).elim λC e=>e.1▸hK.toC r.c S e.2 ra rk hp
 | bi bi=>rw [show p=bval bi from rf.inv];exact wp_bcall st hB r S ra rk (Pst.ofRI (α:=V) hp)
theorem keeper_of {g:G}{p:Value} (st:Stat5 Θ) (t:TopIn Θ h₀.h) (F:Fr h₀.h L h m) (rv:VRel Θ.τ φ news (.g g) p) :
 ∃k,(k=Keeper.frame\/k=Keeper.machine\/k=Keeper.boundFrame)/\Looks Θ.M h (keeperOf p) k:=by
 have X:=t.k.keeps F.keep
 cases g with
 | cls k=>exact(show VInv Θ.τ φ news (.g (.cls k)) p from rv.inv).elim λC e=>e.1▸keeps_K (st.keepC _ _ e.2) h X
 | fn k=>exact(show VInv Θ.τ φ news (.g (.fn k)) p from rv.inv).elim λC e=>e.1▸keeps_K (st.keepF _ _ e.2).1 h X
 | bi bi=>
  rw [show p=bval bi from rv.inv]
  exact⟨.machine, .inr (.inl rfl),Looks.of_pure (by cases bi <;> rfl)⟩
theorem snd_call {g:G}{y:Str}{yp:Pos}{xs ks:List X}{args:List Expr}{kws:List Keyword}{kn:List Str}{pos:Pos} (st:Stat5 Θ) (hK:SndK Θ n) (hB:SndB Θ n)
 (hst:args.all (λe=> !isStar e)=true) (hkn:kws.map (·.arg)=kn.map some) (hf:SndE Θ n env (.glob g) (.Name y yp)) (hxs:SndEs Θ n env xs args) (hks:SndKs Θ n env ks kws) :
 SndE Θ n env (.call (.glob g) xs kn ks) (.Call (.Name y yp) args kws pos):=λ {A h₀ L m φ H news s ρ Q E} a hp=>by
 show wpAny Θ.M A (do callWith pos (<- eval (.Name y yp) env) [] (backTo pos (starEach args env)) (backToKw pos (keywordEach kws env))) Q E s
 have hp:Pst Θ A.frames h₀ L m (RV Θ) Q E φ news s (M.bind (ev (run n Θ.P) Θ.P (.glob g) ρ) (λfv=>do
  let vs <- evs (run n Θ.P) Θ.P xs ρ
  let us <- evs (run n Θ.P) Θ.P ks ρ
  chkIt (<- callV (run n Θ.P) Θ.P fv vs (kn.zip us))) H):=hp
 refine wpAny_bind (hf a (Pst.bindE hp λg₁ φ₁ news₁ h₁ tk fv fp H₁ hev T₁ S₁ x₁ r₁ hp=> ?_))
 obtain rfl:=(Res.okI hev).1
 exact wp_args (g:=λvs us=>do chkIt (<- callV (run n Θ.P) Θ.P (.g g) vs us)) hst hkn hxs hks (λS' x'=>keeper_of st S'.top S'.fr (r₁.mono x')) (a.step S₁ x₁) hp
  λS' x' rv rk hp'=>wp_callV st hK hB a.room S' (r₁.mono x') rv rk (chkIt_bind Q hp')
end
noncomputable def MtRel (Θ:Cx) (φ:Phi) (news:Nws) (mt:Mt) (fx:Value × List Value):Prop:=match mt with
 | .fn f self=>∃a p,Θ.τ.fa f=some a/\VRel Θ.τ φ news self p/\(fx=(.ref a,[p])\/∃q,fx=(.ref q,[])/\(q,methodObj (.ref a) p)∈news)
 | .app l=>∃p:Addr × Addr,φ[l]? =some p/\fx=(.builtin "list.append",[.ref p.1])
theorem MtRel.mono {Θ:Cx}{φ φ':Phi}{news news':Nws} (x:Ext φ news φ' news') {mt:Mt}{fx:Value × List Value} (h:MtRel Θ φ news mt fx):MtRel Θ φ' news' mt fx:=by
 cases mt with
 | fn f self=>exact h.elim λa h=>h.elim λp h=>⟨a,p,h.1,h.2.1.mono x,h.2.2.imp id λh=>h.imp λq h=>⟨h.1,x.frz _ h.2 rfl⟩⟩
 | app l=>exact h.elim λp h=>⟨p,x.pre _ _ h.1,h.2⟩
section
variable {Θ:Cx}{n:Nat}{env:Env}{A:Around}{h₀:Gd}{h:Heap}{L:Addr}{m:Str->Option Value}{φ:Phi}{H:Hp}{news:Nws}{s:Shared}{ρ:Lo}{E:Value->Shared->Prop}
theorem vCls_eq {v:V}{k:Nat} (h:vCls v=some k):v= .g (.cls k):=by
 cases v with
 | g g=>cases g <;> first | exact nos h | exact Option.some.inj h▸rfl
 | _=>exact nos h
theorem wp_methOf {v:V}{p:Value}{k:Nat}{name:Str}{pl:Sem Bool}{Q:Value × List Value->Shared->Prop} (st:Stat5 Θ) (S:Stt Θ A.frames h₀ L m φ H news s.heap) (hn:Θ.τ.nm[k]? =some name) (hap:k=nAppend->name= "append")
 (rv:VRel Θ.τ φ news v p) (hp:Pst Θ A.frames h₀ L m (MtRel Θ) Q E φ news s (methOf Θ.P v k H)):wpAny Θ.M A (getMethod p name pl) Q E s:=by
 refine Pst.om hp (λ_ hp=> ?obj) λc hc hp=> ?cls
 case obj=>
  refine Pst.ofO hp λl hv hp=>Pst.getO hp λo ho hp=>rv.refI hv λpa hl=>Pst.om hp (λ_ hp=> ?lst) λc hi hp=> ?inst
  case lst=>
   refine Pst.ofO hp λvs hv' hp=>Pst.ite hp λhk hp=>list_at S hl ho hv' λits n1 d=> ?_
   obtain rfl:=hap hk
   exact getMethod_builtin (d.at S).typeIs PySem.F.plainAttrs_list PySem.F.slot_list_append (by kernel_rfl) (λa e=>Value.ref.inj e▸⟨_,S.nw.get d.self,rfl⟩) (hp _ _ _ _ s.toks _ .rfl S (.refl _ _) ⟨pa,hl,rfl⟩)
  case inst=>
   refine Pst.ofO hp λf hm hp=>Pst.ite' hp λhcm hp=>inst_at S hl ho hi λC es kk d=> ?_
   rw [Bool.or_eq_true,not_or] at hcm
   exact(st.meth c.1 k f C name hm (Bool.eq_false_iff.mpr hcm.1) d.ca hn).elim λa e=>method_inst S.fr S.top.k (d.at S) (st.plain c.1 C name d.ca) e.2.1 e.2.2.1 (d.at_.getL_none st.nmnd hn (Option.not_isSome_iff_eq_none.mp hcm.2))
    (hp _ _ _ _ _ _ .rfl S (.refl _ _) ⟨a,_,e.1,vRef_eq hv▸ .ref hl, .inl rfl⟩)
 case cls=>
  obtain rfl:=vCls_eq hc
  refine Pst.ofO hp λf hm hp=>Pst.ite hp λhcm hp=>(show VInv Θ.τ φ news (.g (.cls c)) p from rv.inv).elim λC e=> ?_
  rw [e.1]
  refine(st.cm c k f C name hm hcm e.2 hn).elim λa h=>h.elim λmc h=>h.elim λpa h=>h.elim λrest h=> ?_
  exact method_of_cls S.fr S.top.k h.2.1 (cls_cm S.fr S.top.k S.nw h.2.2.1 h.2.2.2.1 h.2.2.2.2.1 h.2.2.2.2.2 λq h' F' N' lt=>hp _ _ _ h' _ _ .rfl (S.new F' N' lt) (Ext.cons _ _ _) ⟨a,_,h.1, .cls e.2, .inr ⟨q,rfl, .head _⟩⟩)
theorem wp_append {l:Nat}{x:V}{pa:Addr × Addr}{p:Value}{R:Phi->Nws->V->Value->Prop}{Q:Value->Shared->Prop} (S:Stt Θ A.frames h₀ L m φ H news s.heap) (hl:φ[l]? =some pa) (rx:VRel Θ.τ φ news x p) (hr: ∀φ news,R φ news .none .none)
 (hp:Pst Θ A.frames h₀ L m R Q E φ news s (appendL l x H)):wpAny Θ.M A (call (.builtin "list.append") [.ref pa.1,p]) Q E s:=
 Pst.getLs hp λo vs ho hv hp=>Pst.ite hp λhz hp=>list_at S hl ho hv λits k d=>by
  have hp:Pst Θ A.frames h₀ L m R Q E φ news s (.ok .none (H.set l (.list (vs ++ [x])))):=hp
  refine append_K S.fr S.nw (rpl_upd news d.self S.nd) (λh' F' N'=> ?_) (by rw [d.len,sizeLine_eq];lia)
  have X:=ext_rpl (φ:=φ) (ob:=W.listOf (its.push p) (k + 1)) S d.self rfl
  exact hp _ _ _ h' s.toks _ .rfl (S.set hl (.inl rfl) d.self rfl F' N' ⟨_,_,d.eq,rpl_self d.self,by rw [Array.toList_push];exact(VRels.mono X d.items).append (.cons (rx.mono X) .nil),by rw [List.length_append];exact Nat.le_trans (Nat.succ_le_of_lt hz) (by decide)⟩) X (hr _ _)
theorem wp_callMt {mt:Mt}{fx:Value × List Value}{args:List V}{vals:List Value}{kw:List (Str × V)}{kvs:List (Str × Value)}{Q:Value->Shared->Prop} (hK:SndK Θ n) (r:Room A n Θ.P.hd)
 (S:Stt Θ A.frames h₀ L m φ H news s.heap) (rf:MtRel Θ φ news mt fx) (ra:VRels Θ.τ φ news args vals) (rk:KRel Θ φ news kw kvs)
 (hp:Pst Θ A.frames h₀ L m (RI Θ) Q E φ news s (callMt (run n Θ.P) mt args kw H)):wpAny Θ.M A (call fx.1 (fx.2 ++ vals) kvs) Q E s:=by
 cases mt with
 | fn f self=>
  refine rf.elim λa h=>h.elim λp h=>h.2.2.elim (λe=> ?_) λe=>e.elim λq e=> ?_
  ·rw [e];exact hK.toC r.c S h.1 (.cons h.2.1 ra) rk hp
  ·rw [e.1];exact call_meth S.nw e.2 (hK r.c S h.1 (.cons h.2.1 ra) rk hp)
 | app l=>
  refine rf.elim λpa h=> ?_
  rw [h.2]
  exact arg1_rel (C:=λvs ks=>wpAny Θ.M A (call (.builtin "list.append") (.ref pa.1 :: vs) ks) Q E s) ra rk hp λv p r1 hp=>wp_append S h.1 r1 (λ_ _=> .inl .none) hp
theorem mt_keeper {mt:Mt}{fx:Value × List Value} (st:Stat5 Θ) (t:TopIn Θ h₀.h) (F:Fr h₀.h L h m) (N:News h₀.h L h news) (rf:MtRel Θ φ news mt fx) :
 ∃k,(k=Keeper.frame\/k=Keeper.machine\/k=Keeper.boundFrame)/\Looks Θ.M h (keeperOf fx.1) k:=by
 have X:=t.k.keeps F.keep
 cases mt with
 | fn f self=>
  refine rf.elim λa h=>h.elim λp h=>h.2.2.elim (λe=> ?_) λe=>e.elim λq e=> ?_
  ·rw [e];exact keeps_K (st.keepF _ _ h.1).1 _ X
  ·rw [e.1];exact keeps_M (st.keepF _ _ h.1).2 _ (methP N e.2 X)
 | app l=>exact rf.elim λpa h=>by rw [h.2];exact⟨.machine, .inr (.inl rfl),Looks.of_pure rfl⟩
theorem snd_meth {x:X}{e:Expr}{k:Nat}{name:Str}{xs ks:List X}{args:List Expr}{kws:List Keyword}{kn:List Str}{apos pos:Pos}{pl:Sem Bool} (st:Stat5 Θ) (hK:SndK Θ n) (hn:Θ.τ.nm[k]? =some name) (hap:k=nAppend->name= "append")
 (hst:args.all (λe=> !isStar e)=true) (hkn:kws.map (·.arg)=kn.map some) (hx:SndE Θ n env x e) (hxs:SndEs Θ n env xs args) (hks:SndKs Θ n env ks kws)
 (he:eval (.Call (.Attribute e name apos) args kws pos) env=(do
  let ov <- eval e env
  standAt apos.atName
  let (f,first) <- holding [ov] (getMethod ov name pl)
  callWith pos f first (backTo pos (starEach args env)) (backToKw pos (keywordEach kws env)))) :
 SndE Θ n env (.meth x k xs kn ks) (.Call (.Attribute e name apos) args kws pos):=λ {A h₀ L m φ H news s ρ Q E} a hp=>
 methodCall_KW (pl:=pl) (hx a (Pst.bind hp λg₁ φ₁ news₁ h₁ tk ov op H₁ T₁ S₁ x₁ r₁ hp=>wp_methOf st S₁ hn hap r₁ (Pst.bind hp λg₂ φ₂ news₂ h₂ tk₂ mt fx H₂ T₂ S₂ x₂ r₂ hp=>
  wp_args (g:=λvs us=>do chkIt (<- callMt (run n Θ.P) mt vs us)) hst hkn hxs hks (λS' x'=>mt_keeper st S'.top S'.fr S'.nw (r₂.mono x')) ((a.step S₁ x₁).step S₂ x₂) hp
   λS' x' rv rk hp'=>wp_callMt hK a.room S' (r₂.mono x') rv rk (chkIt_bind Q hp')))) he
theorem ite01 (c:Bool):(if c=true then 0 else 1)<=1:=by cases c <;> decide
theorem eval_methCall {e:Expr}{name:Str}{args:List Expr}{kws:List Keyword}{kn:List Str}{apos pos:Pos} (hst:args.all (λe=> !isStar e)=true) (hkn:kws.map (·.arg)=kn.map some)
 (hz:args.length + kws.length<=20) (hl:apos.endLine=pos.line) (hsup:attributeBase e name env (eval e env)=eval e env) :
 eval (.Call (.Attribute e name apos) args kws pos) env=(do
  let ov <- eval e env
  standAt apos.atName
  let (f,first) <- holding [ov] (getMethod ov name (do return (<- importBound e env).getD true))
  callWith pos f first (backTo pos (starEach args env)) (backToKw pos (keywordEach kws env))):=by
 have e2:=(some_keys ((kw_keys pos env kws).trans hkn)).2.1
 have e4:(backTo pos (starEach args env)).all (!·.1)=true:=by
  rw [<- Bool.not_eq_false', <- List.not_any_eq_all_not,Bool.not_not]
  exact starEach_plain pos env args hst
 have hf:methodCallForm (args.length + kws.length) (backTo pos (starEach args env)) (backToKw pos (keywordEach kws env))=true:=by
  unfold methodCallForm
  rw [e2,e4]
  exact decide_eq_true (Nat.lt_of_le_of_lt (Nat.add_le_add hz (ite01 _)) (by decide))
 have hpos:methodCallPos true e env apos pos=pure pos:=if_pos (beq_iff_eq.mpr hl)
 show(do
  let ov <- attributeBase e name env (eval e env)
  standAt apos.atName
  methodCall e name apos pos env ov (args.length + kws.length) (backTo pos (starEach args env)) (backToKw pos (keywordEach kws env)))=_
 rw [hsup]
 unfold methodCall
 rw [hf,hpos]
 simp only [pure_bind]
 rfl
end
noncomputable abbrev rngIt (x left:Int):Obj:={cls:= .type "range_iterator",dict:=none,data:= .fields #[rawInt x,rawInt left,rawInt 1],slots:= #[] }
structure ItL (φ:Phi) (o:Obj) (l i:Nat) (p:Addr × Addr):Prop where
 cls:o.cls= .type "list_iterator"
 data:o.data= .fields #[.ref p.1, .int i 0]
 at_:φ[l]? =some p
structure ItT (Θ:Cx) (φ:Phi) (news:Nws) (o:Obj) (items:List V) (i:Nat) (t:Addr) (its:Array Value) (n:Nat):Prop where
 cls:o.cls= .type "tuple_iterator"
 data:o.data= .fields #[.ref t, .int i 0]
 tup:(t,tupO its n)∈news
 items:VRels Θ.τ φ news items its.toList
structure ItR (o:Obj) (items:List V) (i:Nat) (a b:Int):Prop where
 eq:o=rngIt (a + i) ((b - a).toNat - i)
 items:items=rngItems a b
 le:i<=(b - a).toNat
noncomputable def ItO (Θ:Cx) (φ:Phi) (news:Nws) (o:Obj) (l:Option Nat) (items:List V) (i:Nat):Prop:=match l with
 | some l=>∃p,ItL φ o l i p
 | none=>(∃t its n,ItT Θ φ news o items i t its n)\/∃a b,ItR o items i a b
structure ItRel (Θ:Cx) (φ:Phi) (news:Nws) (I:Addr) (l:Option Nat) (items:List V) (i:Nat):Prop where
 off: ∀q∈Θ.pin,q.1≠I
 has: ∃o,(I,o)∈news/\ItO Θ φ news o l items i
section
variable {Θ:Cx}{n:Nat}{env:Env}{A:Around}{h₀:Gd}{h h':Heap}{L:Addr}{m:Str->Option Value}{φ φ':Phi}{H:Hp}{news news':Nws}{s:Shared}{ρ:Lo}{E:Value->Shared->Prop}{I:Addr}{l:Option Nat}{items:List V}{i:Nat}{o:Obj}
theorem frz_itr {o:Obj} (h:itr o=true):frz o=true:=by unfold frz;rw [h,Bool.or_true]
theorem kept_of {o:Obj}{a:Value}{cl:String} (h1:o.cls= .type cl) (h2:cl= "list_iterator" \/cl= "tuple_iterator") (h3:o.data= .fields #[a, .int i 0]):itr o=true/\kept o=decide ((0:Int) < i):=by
 have e1:frz0 o=false:=by unfold frz0 notCell;rw [h1,h3];rcases h2 with rfl | rfl <;> rfl
 have e2:itr o=true:=by unfold itr notCell;rw [h1,h3];rcases h2 with rfl | rfl <;> rfl
 have e3:used o=decide ((0:Int) < i):=by unfold used;rw [h3]
 exact⟨e2,by unfold kept;rw [e1,e2,e3];rfl⟩
theorem ItL.both {l:Nat}{p:Addr × Addr} (r:ItL φ o l i p):itr o=true/\kept o=decide ((0:Int) < i):=kept_of r.cls (.inl rfl) r.data
theorem ItT.both {t:Addr}{its:Array Value}{k:Nat} (r:ItT Θ φ news o items i t its k):itr o=true/\kept o=decide ((0:Int) < i):=kept_of r.cls (.inr rfl) r.data
theorem ItO.itr (r:ItO Θ φ news o l items i):itr o=true:=by
 cases l with
 | some l=>exact r.elim λp r=>r.both.1
 | none=>exact r.elim (λh=>h.elim λt h=>h.elim λits h=>h.elim λk r=>r.both.1) λh=>h.elim λa h=>h.elim λb r=>by rw [r.eq];rfl
theorem ItO.kept (r:ItO Θ φ news o l items i) (hi:0 < i):kept o=true:=by
 have h0:decide ((0:Int) < i)=true:=decide_eq_true (Int.ofNat_lt.mpr hi)
 cases l with
 | some l=>exact r.elim λp r=>r.both.2.trans h0
 | none=>exact r.elim (λh=>h.elim λt h=>h.elim λits h=>h.elim λk r=>r.both.2.trans h0) λh=>h.elim λa h=>h.elim λb r=>by rw [r.eq];rfl
theorem ItO.mono0 (x:Ext0 φ news φ' news') (r:ItO Θ φ news o l items i):ItO Θ φ' news' o l items i:=by
 cases l with
 | some l=>exact r.elim λp r=>⟨p,r.cls,r.data,x.pre _ _ r.at_⟩
 | none=>exact r.imp (λh=>h.elim λt h=>h.elim λits h=>h.elim λk r=>⟨t,its,k,r.cls,r.data,x.frz _ r.tup rfl,VRels.mono0 x r.items⟩) id
theorem ItRel.mono (x:Ext φ news φ' news') (hi:0 < i) (r:ItRel Θ φ news I l items i):ItRel Θ φ' news' I l items i:=
 ⟨r.off,r.has.imp λo h=>⟨x.frz _ h.1 (h.2.kept hi),h.2.mono0 x.to0⟩⟩
theorem itr_frz0 {o:Obj} (h:itr o=true):frz0 o=false:=by
 have h:=(Bool.and_eq_true_iff.mp h).2
 unfold frz0
 rw [Bool.or_eq_true,Bool.or_eq_true,beq_iff_eq,beq_iff_eq,beq_iff_eq] at h
 rcases h with(h | h) | h <;> rw [h] <;> exact Bool.and_false _
theorem OAt.unfrz {τ:Tabs}{o:O}{p:Addr × Addr} (r:OAt τ φ news o p):(∃ob,(p.1,ob)∈news/\frz ob=false)/\∃ob,(p.2,ob)∈news/\frz ob=false:=by
 cases o with
 | inst c at_=>exact r.elim λC h=>h.elim λes h=>h.elim λn h=>⟨⟨_,h.self,rfl⟩,⟨_,h.dict,rfl⟩⟩
 | list vs=>exact r.elim λits h=>h.elim λn h=>⟨⟨_,h.self,rfl⟩,⟨_,h.eq▸h.self,rfl⟩⟩
 | dict kvs=>exact r.elim λob h=>h.elim λkv h=>⟨⟨_,h.self,h.frz⟩,⟨_,h.eq▸h.self,h.frz⟩⟩
 | cell v=>exact r.elim λob h=>h.elim λw h=>⟨⟨_,h.self,h.frz⟩,⟨_,h.eq▸h.self,h.frz⟩⟩
theorem Stt.off (S:Stt Θ A.frames h₀ L m φ H news h) {a:Addr}{o:Obj} (e:(a,o)∈news) (hf:frz o=true) (k:Nat) (p:Addr × Addr) (hp:φ[k]? =some p):p.1≠a/\p.2≠a:=by
 have hk:k < H.length:=S.rep.len▸(List.getElem?_eq_some_iff.mp hp).1
 have u:=(S.rep.at_ k _ p (List.getElem?_eq_getElem hk) hp).unfrz
 exact⟨λe1=>u.1.elim λo1 h=>Bool.noConfusion (hf.symm.trans ((congrArg frz (S.uniq e (e1▸h.1))).trans h.2)),λe1=>u.2.elim λo1 h=>Bool.noConfusion (hf.symm.trans ((congrArg frz (S.uniq e (e1▸h.1))).trans h.2))⟩
theorem Stt.itr0 (S:Stt Θ A.frames h₀ L m φ H news h) {o:Obj} (e:(I,o)∈news) (hi:Mini.itr o=true) {q:Addr × Obj} (hq:q∈news) (hf:frz0 q.2=true):q.1≠I:=λe1=>
 Bool.noConfusion ((itr_frz0 hi).symm.trans ((congrArg frz0 (S.uniq e (show(I,q.2)∈news from e1▸hq))).trans hf))
theorem Stt.itr (S:Stt Θ A.frames h₀ L m φ H news h) {o o':Obj} (e:(I,o)∈news) (hi:Mini.itr o=true) (hpn: ∀q∈Θ.pin,q.1≠I) (hs:Heap.SameBut I h h') (ho:h'.get? I=some o') :
 Stt Θ A.frames h₀ L m φ H (rpl news I o') h'/\Ext0 φ news φ (rpl news I o'):=by
 have z:=S.nw _ e
 have X:Ext0 φ news φ (rpl news I o'):=⟨λ_ _ e=>e,λq hq hf=>rpl_other hq (S.itr0 e hi hq hf)⟩
 exact⟨⟨S.fr.change hs z.2.1 z.2.2,S.nw.replace hs ho,by rw [rpl_keys];exact S.nd,⟨S.rep.len,λk ob p h1 h2=>(S.rep.at_ k ob p h1 h2).mono0 X λq hq hk=>rpl_other hq λe1=>
  hk.elim (λhk=>(S.off e (frz_itr hi) k p h2).1 (hk.symm.trans e1)) λhk=>(S.off e (frz_itr hi) k p h2).2 (hk.symm.trans e1),S.rep.sep⟩,S.gb,S.df.keep X.frz λq hq hm _=>rpl_other hm (hpn q hq)⟩,X⟩
noncomputable def dropI (news:Nws) (I:Addr):Nws:=news.filter λq=>decide (q.1≠I)
theorem mem_dropI {q:Addr × Obj} (h:q∈news) (ne:q.1≠I):q∈dropI news I:=List.mem_filter.mpr ⟨h,decide_eq_true ne⟩
theorem Stt.dropI (S:Stt Θ A.frames h₀ L m φ H news h) {o:Obj} (e:(I,o)∈news) (hi:Mini.itr o=true) (hpn: ∀q∈Θ.pin,q.1≠I) (hs:Heap.ExtBut I h h') :
 Stt Θ A.frames h₀ L m φ H (dropI news I) h'/\Ext0 φ news φ (Mini.dropI news I):=by
 have z:=S.nw _ e
 have X:Ext0 φ news φ (Mini.dropI news I):=⟨λ_ _ e=>e,λq hq hf=>mem_dropI hq (S.itr0 e hi hq hf)⟩
 refine⟨⟨⟨S.fr.ns.at' λo' e'=>hs L o' (Ne.symm z.2.1) e',λb ob e'=>hs b ob (λq=>nos ((q▸z.2.2).symm.trans e')) (S.fr.keep b ob e'),S.fr.above⟩,λq hq=> ?_,S.nd.sublist (List.filter_sublist.map _),⟨S.rep.len,λk ob p h1 h2=>(S.rep.at_ k ob p h1 h2).mono0 X λq hq hk=>mem_dropI hq λe1=>
  hk.elim (λhk=>(S.off e (frz_itr hi) k p h2).1 (hk.symm.trans e1)) λhk=>(S.off e (frz_itr hi) k p h2).2 (hk.symm.trans e1),S.rep.sep⟩,S.gb,S.df.keep X.frz λq hq hm _=>mem_dropI hm (hpn q hq)⟩,X⟩
 have hq:=List.mem_filter.mp hq
 have y:=S.nw q hq.1
 exact⟨hs _ _ (of_decide_eq_true hq.2) y.1,y.2⟩
theorem ItRel.small {a b:Int} (h:a.natAbs < 2 ^ 20/\b.natAbs < 2 ^ 20):Builtin.Range.small a b 1=true:=small_one (by lia) (by lia) (by lia) (by lia)
noncomputable abbrev ROpen (Θ:Cx) (news:Nws):Phi->Nws->Option Nat × List V->Value->Prop:=λ φ' news' x it=>∃I,it= .ref I/\ItRel Θ φ' news' I x.1 x.2 0/\∀q∈news,kept q.2=true->q.1≠I
theorem fresh_it {Q:Value->Shared->Prop}{x:Option Nat × List V}{tk:Nat} (S:Stt Θ A.frames h₀ L m φ H news s.heap) (o:Obj) (hf:o.isFreed=false) (r:ItO Θ φ ((s.heap.objs.size,o) :: news) o x.1 x.2 0)
 (hp:Pst Θ A.frames h₀ L m (ROpen Θ news) Q E φ news s (.ok x H)):Q (.ref s.heap.objs.size) {s with heap:=s.heap.push o,toks:=tk} :=
 have ne: ∀q∈news,q.1≠s.heap.objs.size:=λq hq=>Nat.ne_of_lt (Heap.lt_size (S.nw q hq).1)
 hp _ _ _ _ tk _ .rfl (S.push o hf) (Ext.cons _ _ _) ⟨_,rfl,⟨λq hq=>ne q (S.df.p q hq).1,o, .head _,r⟩,λq hq _=>ne q hq⟩
noncomputable abbrev RIt (Θ:Cx) (news:Nws):Phi->Nws->Nat->Value->Prop:=λ φ' news' k p=>∃ (i:Addr) (pa:Addr × Addr),p= .ref i/\φ'[k]? =some pa/\(i,iterO pa.1)∈news'/\(∀q∈Θ.pin,q.1≠i)/\∀q∈news,kept q.2=true->q.1≠i
theorem wp_open {l:Nat}{p:Value}{Q:Value->Shared->Prop} (st:Stat5 Θ) (hC:SndC Θ n) (r:RoomC A n Θ.P.hd) (S:Stt Θ A.frames h₀ L m φ H news s.heap) (rv:VRel Θ.τ φ news (.ref l) p)
 (hp:Pst Θ A.frames h₀ L m (RIt Θ news) Q E φ news s (openIt (run n Θ.P) Θ.P (.ref l) H)):wpAny Θ.M A (pyIter p) Q E s:=by
 have hp:Pst Θ A.frames h₀ L m (RIt Θ news) Q E φ news s (M.bind (getO l) (λo=>om (oInst o) (M.bind (ofO (oList o)) λ_=>pure l) λq=>M.bind (ofO (Θ.P.getM q.1 nIter)) λf=>M.bind (run n Θ.P f [] [.ref l] []) λr=>ofO (vIt r)) H):=hp
 refine rv.refI rfl λpa hl=>Pst.getO hp λo ho hp=> ?_
 cases hi:oInst o with
 | none=>
  rw [hi] at hp
  refine Pst.ofO hp λvs hv hp=>list_at S hl ho hv λits n1 d=>wpAny_pyIter_list (d.at S) ?_
  have ne: ∀q∈news,q.1≠s.heap.objs.size:=λq hq=>Nat.ne_of_lt (Heap.lt_size (S.nw q hq).1)
  exact hp _ _ _ _ s.toks _ .rfl (S.push (iterO pa.1) rfl) (Ext.cons _ _ _) ⟨_,pa,rfl,hl, .head _,λq hq=>ne q (S.df.p q hq).1,λq hq _=>ne q hq⟩
 | some c=>
  rw [hi] at hp
  refine Pst.ofO hp λf hf hp=>inst_at S hl ho hi λC es kk d=>(st.meth c.1 nIter f C "__iter__" hf (st.spm c.1 nIter f hf (by decide)) d.ca (st.sp (nIter, "__iter__") (by decide))).elim λa e=> ?_
  refine owit_iter S.fr S.top.k (d.at S) e.2.1 e.2.2.1 (hC r S e.1 (.cons (.ref hl) .nil) .nil (Pst.bind hp λg₁ φ₁ news₁ h₁ tk v1 p1 H₁ T₁ S₁ x₁ r₁ hp=>Pst.ofO0 hp λk hk hp=> ?_))
  refine r₁.elim (λr₁=>(vIt_eq hk▸r₁).inv.elim) λh=>h.elim λl' h=>h.elim λi' h=>h.elim λpp h=> ?_
  obtain rfl:l'=k:=V.itI (h.1.symm.trans (vIt_eq hk))
  rw [h.2.1]
  exact wpAny_specialOf ⟨_,S₁.nw.get h.2.2.2.1,rfl⟩ slot_listiter_next.lookup (hp _ _ _ _ tk _ .rfl S₁ (.refl _ _) ⟨_,pp,rfl,h.2.2.1,h.2.2.2.1,h.2.2.2.2,λq hq hk e=>
   Bool.noConfusion ((kept_of (i:=0) (o:=iterO pp.1) rfl (.inl rfl) rfl).2.symm.trans ((congrArg kept (S₁.uniq h.2.2.2.1 (show(i',q.2)∈news₁ from e▸x₁.frz _ hq hk))).trans hk))⟩)
theorem wp_iter {v:V}{p:Value}{Q:Value->Shared->Prop} (st:Stat5 Θ) (hC:SndC Θ n) (r:RoomC A n Θ.P.hd) (S:Stt Θ A.frames h₀ L m φ H news s.heap) (rv:VRel Θ.τ φ news v p)
 (hp:Pst Θ A.frames h₀ L m (ROpen Θ news) Q E φ news s (iterOf (run n Θ.P) Θ.P v H)):wpAny Θ.M A (pyIter p) Q E s:=by
 refine Pst.ite' hp λ_ hp=> ?_
 cases v with
 | ref l=>
  exact wp_open st hC r S rv (Pst.bind hp λg₁ φ₁ news₁ h₁ tk k it H₁ T₁ S₁ x₁ r₁ hp=>Pst.getLs hp λo vs ho hv hp=>r₁.elim λi h=>h.elim λpa h=>
   hp _ _ _ _ tk _ .rfl S₁ (.refl _ _) ⟨i,h.1,⟨h.2.2.2.1,_,h.2.2.1,pa,rfl,rfl,h.2.1⟩,h.2.2.2.2⟩)
 | tup vs=>exact rv.tupI rfl λa its k hm hr=>wpAny_pyIter_tuple ⟨_,S.nw.get hm,rfl,_,rfl⟩ (fresh_it (x:=(none,vs)) S _ rfl (Or.inl ⟨a,its,k,rfl,rfl, .tail _ hm,VRels.mono (Ext.cons _ _ _) hr⟩) hp)
 | rng x y=>
  refine(show VInv Θ.τ φ news (.rng x y) p from rv.inv).elim λa h=>h.elim λt h=>h.elim λu h=>h.elim λv h=>h.1▸Pst.ite hp λhb hp=>wpAny_pyIter_range (S.nw.get h.2) (ItRel.small hb) ?_
  have e:Builtin.Range.rangeSize x y 1=((y - x).toNat:Int):=by rw [rangeSize_one];split <;> lia
  rw [e]
  exact fresh_it (x:=(none,rngItems x y)) S _ rfl (Or.inr ⟨x,y,by rw [Int.ofNat_zero,Int.add_zero,Int.sub_zero],rfl,Nat.zero_le _⟩) hp
 | _=>exact hp.elim
theorem rngItems_get {a b:Int}{v:V} (h:(rngItems a b)[i]? =some v):i < (b - a).toNat/\v= .int (a + i):=by
 unfold rngItems at h
 rw [List.getElem?_map] at h
 obtain⟨k,hk,rfl⟩:=Option.map_eq_some_iff.mp h
 have hk:=List.getElem?_eq_some_iff.mp hk
 refine hk.elim λh1 h2=> ?_
 rw [List.getElem_range] at h2
 exact⟨List.length_range (n:=(b - a).toNat)▸h1,h2▸rfl⟩
theorem curItem_some {k:Nat}{v:V} (h:curItem (some k) items i H= .ok v H) {G:Prop} (f: ∀o ws,H[k]? =some o->oList o=some ws->ws.length=items.length->ws[i]? =some v->G):G:=
 getLs_inv (G:=λr=>r= .ok v H) nofun h λo ws ho hw h=>ite_inv (G:=λr=>r= .ok v H) nofun h λhl h=>ofO_inv0 (G:=λr=>r= .ok v H) nofun h λw hi h=>f o ws ho hw hl ((Res.okI h).1▸hi)
theorem wp_next {v:V}{Q:Option Value->Shared->Prop} (S:Stt Θ A.frames h₀ L m φ H news s.heap) (r:ItRel Θ φ news I l items i) (hc:curItem l items i H= .ok v H)
 (hq: ∀news' h' tk p,Stt Θ A.frames h₀ L m φ H news' h'->Ext0 φ news φ news'->(∀q∈news,q.1≠I->q∈news')->ItRel Θ φ news' I l items (i + 1)->VRel Θ.τ φ news' v p->Q (some p) {s with heap:=h',toks:=tk}) :
 wpAny Θ.M A (pyNext (.ref I)) Q E s:=by
 refine r.has.elim λo h=> ?_
 have go: ∀ {h':Heap}{o':Obj}{tk:Nat}{p:Value},Heap.SameBut I s.heap h'->h'.get? I=some o'->(∀ {news'},Ext0 φ news φ news'->ItO Θ φ news' o' l items (i + 1))->VRel Θ.τ φ news v p->Q (some p) {s with heap:=h',toks:=tk}:=λ {h' o' tk p} hs ho it rp=>
  have z:=S.itr h.1 h.2.itr r.off hs ho
  hq _ h' tk p z.1 z.2 (λq hq ne=>rpl_other hq ne) ⟨r.off,o',rpl_self h.1,it z.2⟩ (rp.mono0 z.2)
 cases l with
 | some k=>
  refine curItem_some hc λob ws ho hw _ hi=>h.2.elim λp d=>list_at S d.at_ ho hw λits n1 dl=>(dl.items.get hi).elim λx hx=> ?_
  exact wpAny_pyNext_list_item ⟨o,S.nw.get h.1,d.cls,d.data⟩ (dl.at S) (Array.getElem?_toList▸hx.1) λh' hit hs=>hit.elim λo' e=>go hs e.1 (λX=>⟨p,e.2.1,e.2.2,d.at_⟩) hx.2
 | none=>
  refine ofO_inv0 (G:=λr=>r= .ok v H) nofun hc λw hi hc=> ?_
  obtain rfl:=(Res.okI hc).1
  refine h.2.elim (λh2=>h2.elim λt h2=>h2.elim λits h2=>h2.elim λk d=>(d.items.get hi).elim λx hx=> ?_) λh2=>h2.elim λa h2=>h2.elim λb d=> ?_
  ·exact wpAny_pyNext_tuple_item ⟨o,S.nw.get h.1,d.cls,d.data⟩ ⟨_,S.nw.get d.tup,rfl,_,rfl⟩ (Array.getElem?_toList▸hx.1) λh' hit hs=>hit.elim λo' e=>go hs e.1 (λX=> .inl ⟨t,its,k,e.2.1,e.2.2,X.frz _ d.tup rfl,VRels.mono0 X d.items⟩) hx.2
  ·have z:=rngItems_get (d.items▸hi)
   refine wpAny_pyNext_range_item (d.eq▸S.nw.get h.1) (by lia) λh' hit hs=>go hs hit (λX=> .inr ⟨a,b, ?_,d.items,z.1⟩) (z.2▸ .int _ _)
   have e1:a + ((i + 1:Nat):Int)=a + i + 1:=by lia
   have e2:((b - a).toNat:Int) - ((i + 1:Nat):Int)=(b - a).toNat - i - 1:=by lia
   rw [e1,e2]
theorem still_some {k:Nat} (h:still (some k) items H= .ok () H) {G:Prop} (f: ∀o ws,H[k]? =some o->oList o=some ws->ws.length=items.length->G):G:=
 getLs_inv (G:=λr=>r= .ok () H) nofun h λo ws ho hw h=>ite_inv (G:=λr=>r= .ok () H) nofun h λhl _=>f o ws ho hw hl
theorem wp_end {Q:Option Value->Shared->Prop} (hh:A.handled=none) (S:Stt Θ A.frames h₀ L m φ H news s.heap) (r:ItRel Θ φ news I l items items.length) (hc:still l items H= .ok () H)
 (hq: ∀news' h',Stt Θ A.frames h₀ L m φ H news' h'->Ext0 φ news φ news'->(∀q∈news,q.1≠I->q∈news')->Q none {s with heap:=h'}) :
 wpAny Θ.M A (pyNext (.ref I)) Q E s:=by
 refine r.has.elim λo h=> ?_
 have fin: ∀h',Heap.ExtBut I s.heap h'->Q none {s with heap:=h'}:=λh' hs=>
  have z:=S.dropI h.1 h.2.itr r.off hs
  hq _ h' z.1 z.2 λq hq ne=>mem_dropI hq ne
 cases l with
 | some k=>
  refine still_some hc λob ws ho hw hl=>h.2.elim λp d=>list_at S d.at_ ho hw λits n1 dl=> ?_
  exact wpAny_pyNext_list_end hh ⟨o,S.nw.get h.1,d.cls,d.data⟩ (dl.at S) (Array.getElem?_eq_none_iff.mpr (Nat.le_of_eq (dl.len.trans hl))) fin
 | none=>
  refine h.2.elim (λh2=>h2.elim λt h2=>h2.elim λits h2=>h2.elim λk d=> ?_) λh2=>h2.elim λa h2=>h2.elim λb d=> ?_
  ·exact wpAny_pyNext_tuple_end hh ⟨o,S.nw.get h.1,d.cls,d.data⟩ ⟨_,S.nw.get d.tup,rfl,_,rfl⟩ (Array.getElem?_eq_none_iff.mpr (Nat.le_of_eq d.items.length.symm)) fin
  ·have:items.length=(b - a).toNat:=by rw [d.items];unfold rngItems;rw [List.length_map,List.length_range]
   exact wpAny_pyNext_range_end hh (d.eq▸S.nw.get h.1) (by lia) fin
end
noncomputable def PstM {α β:Type} (Θ:Cx) (l:Option (List Env)) (h₀:Gd) (L:Addr) (R:(Str->Option Value)->Phi->Nws->α->β->Prop) (Q:β->Shared->Prop) (E:Value->Shared->Prop) (φ:Phi) (news:Nws) (s:Shared):Res α->Prop
 | .ok a H'=>∀ ⦃gn:Array GenState⦄ ⦃dr:Drawn⦄ g m' φ' news' h' tk b,TurnG s.gens gn h₀ g->Stt Θ l g L m' φ' H' news' h'->Ext φ news φ' news'->R m' φ' news' a b->Q b ⟨h',gn,dr,tk,s.os⟩
 | .ex H'=>∀ ⦃gn:Array GenState⦄ ⦃dr:Drawn⦄ g m' φ' news' h₁ h' tk e,TurnG s.gens gn h₀ g->Stt Θ l g L m' φ' H' news' h₁->Ext φ news φ' news'->Heap.NewExc h₁ h' e "TypeError" ->E (.ref e) ⟨h',gn,dr,tk,s.os⟩
 | .no=>False
section
variable {Θ:Cx}{l:Option (List Env)}{h₀:Gd}{L:Addr}{m:Str->Option Value}{E:Value->Shared->Prop}{φ:Phi}{news:Nws}{s:Shared}
theorem PstM.bind {α β γ δ:Type}{R:(Str->Option Value)->Phi->Nws->α->β->Prop}{R':(Str->Option Value)->Phi->Nws->γ->δ->Prop}{Q:δ->Shared->Prop}{mm:M α}{f:α->M γ}{H:Hp}{Q₁:β->Shared->Prop}
 (hp:PstM Θ l h₀ L R' Q E φ news s (M.bind mm f H))
 (k: ∀ {gn:Array GenState}{dr:Drawn} g m₁ φ₁ news₁ h₁ tk a b H₁,TurnG s.gens gn h₀ g->Stt Θ l g L m₁ φ₁ H₁ news₁ h₁->Ext φ news φ₁ news₁->R m₁ φ₁ news₁ a b->PstM Θ l g L R' Q E φ₁ news₁ ⟨h₁,gn,dr,tk,s.os⟩ (f a H₁)->Q₁ b ⟨h₁,gn,dr,tk,s.os⟩) :
 PstM Θ l h₀ L R Q₁ E φ news s (mm H):=by
 unfold M.bind at hp
 cases hr:mm H with
 | ok a H₁=>
  rw [hr] at hp
  intro gn₁ dr₁ g₁ m₁ φ₁ news₁ h₁ tk b T₁ S₁ x₁ r₁
  refine k g₁ m₁ φ₁ news₁ h₁ tk a b H₁ T₁ S₁ x₁ r₁ ?_
  dsimp only at hp
  clear hr k
  generalize f a H₁=r at hp ⊢
  cases r with
  | ok c H₂=>exact λgn₂ dr₂ g₂ m₂ φ₂ news₂ h₂ tk₂ d T₂ S₂ x₂ r₂=>hp g₂ m₂ φ₂ news₂ h₂ tk₂ d (T₁.trans T₂) S₂ (x₁.trans x₂) r₂
  | ex H₂=>exact λgn₂ dr₂ g₂ m₂ φ₂ news₂ h₂ h₃ tk₂ e T₂ S₂ x₂ ne=>hp g₂ m₂ φ₂ news₂ h₂ h₃ tk₂ e (T₁.trans T₂) S₂ (x₁.trans x₂) ne
  | no=>exact hp.elim
 | ex H₁=>rw [hr] at hp;exact hp
 | no=>rw [hr] at hp;exact hp.elim
theorem PstM.fix {α β:Type}{R:Phi->Nws->α->β->Prop}{Q:β->Shared->Prop}{r:Res α} (hp:PstM Θ l h₀ L (λm' φ' news' a b=>m'=m/\R φ' news' a b) Q E φ news s r):Pst Θ l h₀ L m R Q E φ news s r:=by
 cases r with
 | ok a H'=>exact λ_ _ g φ' news' h' tk b T S x r=>hp g m φ' news' h' tk b T S x ⟨rfl,r⟩
 | ex H'=>exact λ_ _ g φ' news' h₁ h' tk e T S x ne=>hp g m φ' news' h₁ h' tk e T S x ne
 | no=>exact hp
theorem Pst.bindM {α β γ δ:Type}{R:Phi->Nws->α->β->Prop}{R':(Str->Option Value)->Phi->Nws->γ->δ->Prop}{Q:δ->Shared->Prop}{mm:M α}{f:α->M γ}{H:Hp}{Q₁:β->Shared->Prop}
 (hp:PstM Θ l h₀ L R' Q E φ news s (M.bind mm f H))
 (k: ∀ {gn:Array GenState}{dr:Drawn} g φ₁ news₁ h₁ tk a b H₁,TurnG s.gens gn h₀ g->Stt Θ l g L m φ₁ H₁ news₁ h₁->Ext φ news φ₁ news₁->R φ₁ news₁ a b->PstM Θ l g L R' Q E φ₁ news₁ ⟨h₁,gn,dr,tk,s.os⟩ (f a H₁)->Q₁ b ⟨h₁,gn,dr,tk,s.os⟩) :
 Pst Θ l h₀ L m R Q₁ E φ news s (mm H) :=
 PstM.fix (PstM.bind hp λg m₁ φ₁ news₁ h₁ tk a b H₁ T₁ S₁ x₁ r₁ hp=>k g φ₁ news₁ h₁ tk a b H₁ T₁ (r₁.1▸S₁) x₁ r₁.2 hp)
section
variable {α β γ:Type}{R:(Str->Option Value)->Phi->Nws->β->γ->Prop}{Q:γ->Shared->Prop}{H:Hp}{C:Prop}
theorem PstM.ofO {o:Option α}{f:α->M β} (h:PstM Θ l h₀ L R Q E φ news s (M.bind (Mini.ofO o) f H)) (k: ∀a,o=some a->PstM Θ l h₀ L R Q E φ news s (f a H)->C):C:=ofO_inv (G:=PstM Θ l h₀ L R Q E φ news s) id h k
theorem PstM.getO {n:Nat}{f:O->M β} (h:PstM Θ l h₀ L R Q E φ news s (M.bind (Mini.getO n) f H)) (k: ∀a,H[n]? =some a->PstM Θ l h₀ L R Q E φ news s (f a H)->C):C:=getO_inv (G:=PstM Θ l h₀ L R Q E φ news s) id h k
theorem PstM.ite' {c:Prop} [Decidable c] {a:M β} (h:PstM Θ l h₀ L R Q E φ news s ((if c then stuck else a:M β) H)) (k: ¬c->PstM Θ l h₀ L R Q E φ news s (a H)->C):C:=ite_inv' (G:=PstM Θ l h₀ L R Q E φ news s) id h k
end
theorem PstM.ext {α β:Type}{g:Gd}{R:(Str->Option Value)->Phi->Nws->α->β->Prop}{Q:β->Shared->Prop}{r:Res α}{φ₁:Phi}{news₁:Nws}{h':Heap}{tk:Nat}{gn:Array GenState}{dr:Drawn} (hp:PstM Θ l h₀ L R Q E φ news s r) (T:TurnG s.gens gn h₀ g) (X:Ext φ news φ₁ news₁) :
 PstM Θ l g L R Q E φ₁ news₁ ⟨h',gn,dr,tk,s.os⟩ r:=by
 cases r with
 | ok v H₂=>exact λ_ _ g₂ m₂ φ₂ news₂ h₂ tk b T₂ S₂ x₂ r₂=>hp g₂ m₂ φ₂ news₂ h₂ tk b (T.trans T₂) S₂ (X.trans x₂) r₂
 | ex H₂=>exact λ_ _ g₂ m₂ φ₂ news₂ h₁ h₂ tk e T₂ S₂ x₂ ne=>hp g₂ m₂ φ₂ news₂ h₁ h₂ tk e (T.trans T₂) S₂ (X.trans x₂) ne
 | no=>exact hp
end
noncomputable abbrev RLo (Θ:Cx) (env:Env):(Str->Option Value)->Phi->Nws->Lo->Unit->Prop:=λm φ news ρ _=>LRel Θ env.scope.names env.cells m φ news ρ
theorem idx_of_lookup {x:Str}{l:List (Str × NameKind)}: ∀ {i:Nat}{k:NameKind},idxIn x l=some i->l.lookup x=some k->l[i]? =some (x,k):=by
 induction l with
 | nil=>intro i k h;injection h
 | cons p r ih=>
  intro i k h h2
  have h:(if p.1=x then some 0 else(idxIn x r).map (· + 1))=some i:=h
  rw [List.lookup_cons] at h2
  by_cases e:p.1=x
  ·rw [if_pos e] at h
   rw [e,beq_self_eq_true] at h2
   rw [<- Option.some.inj h, <- e, <- Option.some.inj h2]
   rfl
  ·rw [if_neg e] at h
   rw [beq_false_of_ne (Ne.symm e)] at h2
   obtain⟨j,hj,rfl⟩:=Option.map_eq_some_iff.mp h
   exact ih hj h2
section
variable {Θ:Cx}{n:Nat}{env:Env}{A:Around}{h₀:Gd}{h h':Heap}{L:Addr}{m:Str->Option Value}{φ φ':Phi}{H:Hp}{news news':Nws}{s:Shared}{ρ:Lo}{E:Value->Shared->Prop}
theorem names_inj (nd:(env.scope.names.map (·.1)).Nodup) {i j:Nat}{x:Str}{k k':NameKind} (hi:env.scope.names[i]? =some (x,k)) (hj:env.scope.names[j]? =some (x,k')):i=j:=by
 have h1:(env.scope.names.map (·.1))[i]? =some x:=by rw [List.getElem?_map,hi];rfl
 have h2:(env.scope.names.map (·.1))[j]? =some x:=by rw [List.getElem?_map,hj];rfl
 exact(List.getElem?_inj (List.getElem?_eq_some_iff.mp h1).1 nd).mp (h1.trans h2.symm)
theorem LRel.setLoc {x:Str}{i:Nat}{v:V}{p:Value} (nd:(env.scope.names.map (·.1)).Nodup) (r:LRel Θ env.scope.names env.cells m φ news ρ) (hi:env.scope.names[i]? =some (x, .local)) (rv:VRel Θ.τ φ news v p) :
 LRel Θ env.scope.names env.cells (λy=>if y=x then some p else m y) φ news {ρ with loc:=ρ.loc.set i (some v) }:=by
 refine⟨λj w e=> ?_,r.cel⟩
 by_cases hj:j=i
 ·subst hj
  have hlt:j < ρ.loc.length:=List.length_set (as:=ρ.loc)▸(List.getElem?_eq_some_iff.mp e).1
  have e2:=Option.some.inj (Option.some.inj ((List.getElem?_set_self hlt).symm.trans e))
  exact⟨x,p,hi,if_pos rfl,e2▸rv⟩
 ·refine(r.loc j w ((List.getElem?_set_ne (Ne.symm hj)).symm.trans e)).elim λy h=>h.elim λval h=>⟨y,val,h.1, ?_,h.2.2⟩
  have ne:y≠x:=λq=>hj (names_inj nd (q▸h.1) hi)
  exact(if_neg ne).trans h.2.1
theorem plainFn (eo:EnvOK env L):(env.scope.kind == .class || (env.scope.kind == .module && env.locals != env.globals))=false:=by rw [eo.kind];rfl
theorem wp_stLoc {x:Str}{i:Nat}{v:V}{p:Value}{Q:Unit->Shared->Prop} (eo:EnvOK env L) (S:Stt Θ A.frames h₀ L m φ H news s.heap) (lr:LRel Θ env.scope.names env.cells m φ news ρ) (hi:idxIn x env.scope.names=some i) (hk:env.scope.names.lookup x=some .local) (rv:VRel Θ.τ φ news v p)
 (hp: ∀m' h' tk,Stt Θ A.frames h₀ L m' φ H news h'->LRel Θ env.scope.names env.cells m' φ news {ρ with loc:=ρ.loc.set i (some v) }->Q () ⟨h',s.gens,s.drawn,tk,s.os⟩):wpAny Θ.M A (bindName env x p) Q E s:=by
 refine wpAny_bindName (wpAny_storeName_local hk (by rw [eo.loc];exact S.fr.ns) (λh' hn hs=> ?_) (plainFn eo))
 rw [eo.loc] at hn hs
 exact hp _ h' _ ⟨S.fr.set hn hs,S.nw.set hs,S.nd,S.rep,S.gb,S.df⟩ (lr.setLoc eo.nd (idx_of_lookup hi hk) rv)
theorem wp_stCel {x:Str}{i l:Nat}{v:V}{w:Option V}{p:Value}{Q:Unit->Shared->Prop} (eo:EnvOK env L) (S:Stt Θ A.frames h₀ L m φ H news s.heap) (lr:LRel Θ env.scope.names env.cells m φ news ρ) (hi:idxIn x env.scope.names=some i) (hk:env.scope.names.lookup x=some .cell)
 (hl:ρ.cel[i]? =some (some l)) (hw:H[l]? =some (.cell w)) (rv:VRel Θ.τ φ news v p)
 (hp: ∀news' h' tk,Stt Θ A.frames h₀ L m φ (H.set l (.cell (some v))) news' h'->Ext φ news φ news'->Q () ⟨h',s.gens,s.drawn,tk,s.os⟩):wpAny Θ.M A (bindName env x p) Q E s:=by
 refine(lr.cel i l hl).elim λy e=>e.elim λk e=>e.elim λpa e=> ?_
 have e4:=idx_name hi e.1▸e.2.2.2
 refine(show OAt Θ.τ φ news (.cell w) pa from S.rep.at_ l _ pa hw e.2.2.1).elim λob d=>d.elim λwv d=> ?_
 have z:=S.nw _ d.self
 have ho':=Heap.get?_update_self (h:=s.heap) (a:=pa.1) (o:=ob) (λo=> {o with data:= .cell (some p) }) z.1 rfl
 have hs:Heap.SameBut pa.1 s.heap (s.heap.update pa.1 λo=> {o with data:= .cell (some p) }):=Heap.SameBut.update ..
 have X:=ext_rpl (φ:=φ) (ob:={ob with data:= .cell (some p) }) S d.self d.frz
 have fin:=hp _ _ s.toks (S.set e.2.2.1 (.inl rfl) d.self d.frz (S.fr.change hs z.2.1 z.2.2) (S.nw.replace hs ho') ⟨_,some p,d.eq,rpl_self d.self,rfl,λx ex=>⟨p,rfl,Option.some.inj ex▸rv.mono X⟩,frz_cell rfl⟩) X
 refine wpAny_bindName ?_
 unfold storeName
 rw [show env.kindOf x=some .cell from hk,eo.kind]
 refine wpAny_bind (wpAny_cellOf e4 ?_)
 unfold cellSet
 refine wpAny_bind (wpAny_load z.1 ?_)
 rw [d.data]
 exact wpAny_update z.1 fin
end
noncomputable def SndG (Θ:Cx) (n:Nat) (env:Env) (t:T) (e:Expr):Prop:=
 ∀ {A:Around}{h₀:Gd}{L:Addr}{m:Str->Option Value}{φ:Phi}{H:Hp}{news:Nws}{s:Shared}{ρ:Lo}{v:V}{p:Value}{Q:Unit->Shared->Prop}{E:Value->Shared->Prop},
  At Θ A n env h₀ L m φ H news s ρ->VRel Θ.τ φ news v p->PstM Θ A.frames h₀ L (RLo Θ env) Q E φ news s (asg (run n Θ.P) Θ.P t v ρ H)->wpAny Θ.M A (assign e env p) Q E s
section
variable {Θ:Cx}{n:Nat}{env:Env}{A:Around}{h₀:Gd}{h h':Heap}{L:Addr}{m:Str->Option Value}{φ φ':Phi}{H:Hp}{news news':Nws}{s:Shared}{ρ:Lo}{E:Value->Shared->Prop}
theorem sndg_n {x:Str}{i:Nat}{pos:Pos} (hi:idxIn x env.scope.names=some i) (hk:env.scope.names.lookup x=some .local):SndG Θ n env (.n i) (.Name x pos):=λa rv hp=>by
 rw [PySem.assign_Name]
 refine wpAny_bind (wpAny_standAt (wp_stLoc a.eo a.st a.lr hi hk rv λm' h' tk S' lr'=> ?_))
 exact hp _ m' _ _ h' tk () .rfl S' (.refl _ _) lr'
theorem sndg_c {x:Str}{i:Nat}{pos:Pos} (hi:idxIn x env.scope.names=some i) (hk:env.scope.names.lookup x=some .cell):SndG Θ n env (.c i) (.Name x pos):=λ {A h₀ L m φ H news s ρ v p Q E} a rv hp=>by
 rw [PySem.assign_Name]
 refine PstM.ofO hp λol hv hp=>PstM.ofO hp λl hl hp=>PstM.getO hp λo ho hp=>PstM.ofO hp λw hw hp=> ?_
 have hp:PstM Θ A.frames h₀ L (RLo Θ env) Q E φ news s (.ok ρ (H.set l (.cell (some v)))):=hp
 exact wpAny_bind (wpAny_standAt (wp_stCel a.eo a.st a.lr hi hk (hl▸hv) (oCell_eq hw▸ho) rv λnews' h' tk S' x'=>hp _ m _ _ h' tk () .rfl S' x' (a.lr.mono x')))
theorem assign_Attr (o:Expr) (attr:Str) (pos:Pos) (env:Env) (v:Value):assign (.Attribute o attr pos) env v=(do
 let ov <- holding [v] (eval o env)
 standAt pos.atName
 holding [v,ov] (setAttr ov attr v)
 release [v,ov] []):=rfl
theorem assign_Sub (o i:Expr) (pos:Pos) (env:Env) (v:Value): ∃xs:Value->Value->List Value,assign (.Subscript o i pos) env v=(do
 let ov <- holding [v] (eval o env)
 let iv <- holding [v,ov] (eval i env)
 standAt pos
 holding [v,ov,iv] (PySem.setItem ov iv v)
 release (xs ov iv) []):=⟨_,rfl⟩
theorem sndg_attr {x:X}{e:Expr}{k:Nat}{name:Str}{pos:Pos} (st:Stat5 Θ) (hn:Θ.τ.nm[k]? =some name) (hx:SndE Θ n env x e):SndG Θ n env (.attr x k) (.Attribute e name pos):=λ {A h₀ L m φ H news s ρ v p Q E} a rv hp=>by
 rw [assign_Attr]
 exact wpAny_bind (wpAny_holding (hx a (Pst.bindM hp λg₁ φ₁ news₁ h₁ tk ov op H₁ T₁ S₁ x₁ r₁ hp=>wpAny_bind (wpAny_standAt (wpAny_bind (wpAny_holding (wp_setA st.toStat S₁ hn r₁ (rv.mono x₁) (Pst.bindM hp λg₂ φ₂ news₂ h₂ tk₂ _ _ H₂ T₂ S₂ x₂ _ hp=>
  wpAny_release' (hp _ m _ _ _ _ () .rfl S₂ (.refl _ _) (a.lr.mono (x₁.trans x₂)))))))))))
theorem sndg_sub {x y:X}{e i:Expr}{pos:Pos} (st:Stat5 Θ) (hC:SndC Θ n) (hx:SndE Θ n env x e) (hy:SndE Θ n env y i):SndG Θ n env (.sub x y) (.Subscript e i pos):=λ {A h₀ L m φ H news s ρ v p Q E} a rv hp=>by
 refine(assign_Sub e i pos env p).elim λxs e=> ?_
 rw [e]
 exact wpAny_bind (wpAny_holding (hx a (Pst.bindM hp λg₁ φ₁ news₁ h₁ tk ov op H₁ T₁ S₁ x₁ r₁ hp=>wpAny_bind (wpAny_holding (hy (a.step S₁ x₁) (Pst.bindM hp λg₂ φ₂ news₂ h₂ tk₂ iv ip H₂ T₂ S₂ x₂ r₂ hp=>
  wpAny_bind (wpAny_standAt (wpAny_bind (wpAny_holding (wp_setItem st.toStat2 hC a.room S₂ (r₁.mono x₂) r₂ (rv.mono (x₁.trans x₂)) (Pst.bindM hp λg₃ φ₃ news₃ h₃ tk₃ _ _ H₃ T₃ S₃ x₃ _ hp=>
   wpAny_release' (hp _ m _ _ _ _ () .rfl S₃ (.refl _ _) (a.lr.mono ((x₁.trans x₂).trans x₃))))))))))))))
inductive LocNames (env:Env):List Nat->List Expr->Prop
 | nil:LocNames env [] []
 | cons {x:Str}{i:Nat}{pos:Pos}{is:List Nat}{es:List Expr}:idxIn x env.scope.names=some i->env.scope.names.lookup x=some .local->LocNames env is es->LocNames env (i :: is) (.Name x pos :: es)
theorem locs_each {is:List Nat}{es:List Expr} (h:LocNames env is es):(assignEach es env).findIdx? (·.1)=none/\(assignEach es env).length=is.length:=by
 induction h with
 | nil=>exact⟨rfl,rfl⟩
 | @cons x i pos is es h1 h2 _ ih=>
  have e:assignEach (.Name x pos :: es) env=(false,assign (.Name x pos) env) :: assignEach es env:=rfl
  rw [e,List.findIdx?_cons,ih.1]
  exact⟨rfl,congrArg (· + 1) ih.2⟩
theorem bindIs_len {is:List Nat}: ∀ {vs:List V}{ρ:Lo},bindIs is vs ρ H= .no\/is.length=vs.length:=by
 induction is with
 | nil=>intro vs ρ;cases vs with
  | nil=>exact .inr rfl
  | cons _ _=>exact .inl rfl
 | cons i is ih=>intro vs ρ;cases vs with
  | nil=>exact .inl rfl
  | cons v vs=>exact(ih (vs:=vs) (ρ:={ρ with loc:=ρ.loc.set i (some v) })).imp id (congrArg (· + 1))
theorem wp_bindIs {is:List Nat}{es:List Expr} (hl:LocNames env is es) (eo:EnvOK env L): ∀ {vs:List V}{ps:List Value}{m:Str->Option Value}{s:Shared}{ρ:Lo}{Q:Unit->Shared->Prop},VRels Θ.τ φ news vs ps->Stt Θ A.frames h₀ L m φ H news s.heap->LRel Θ env.scope.names env.cells m φ news ρ->
 PstM Θ A.frames h₀ L (RLo Θ env) Q E φ news s (bindIs is vs ρ H)->wpAny Θ.M A (assignInOrder ((assignEach es env).map (·.2)) ps) Q E s:=by
 induction hl with
 | nil=>
  intro vs ps m s ρ Q rv S lr hp
  cases rv with
  | nil=>exact wpAny_pure (hp _ m _ _ _ s.toks () .rfl S (.refl _ _) lr)
  | cons _ _=>exact hp.elim
 | @cons x i pos is es h1 h2 _ ih=>
  intro vs ps m s ρ Q rv S lr hp
  cases rv with
  | nil=>exact hp.elim
  | @cons v vs p ps r1 r2=>
   have hp:PstM Θ A.frames h₀ L (RLo Θ env) Q E φ news s (bindIs is vs {ρ with loc:=ρ.loc.set i (some v) } H):=hp
   show wpAny Θ.M A (do holding _ (assign (.Name x pos) env _);assignInOrder _ _) Q E s
   refine wpAny_bind (wpAny_holding ?_)
   rw [PySem.assign_Name]
   exact wpAny_bind (wpAny_standAt (wp_stLoc eo S lr h1 h2 r1 λm' h' tk S' lr'=>ih r2 S' lr' (PstM.ext hp .rfl (.refl _ _))))
theorem Stt.extBut (S:Stt Θ A.frames h₀ L m φ H news h) (hs:Heap.ExtBut h.objs.size h h'):Stt Θ A.frames h₀ L m φ H news h':=by
 have old: ∀b o,h.get? b=some o->h'.get? b=some o:=λb o e=>hs b o (Nat.ne_of_lt (Heap.lt_size e)) e
 exact⟨⟨S.fr.ns.at' λo e=>old L o e,λb o e=>old b o (S.fr.keep b o e),S.fr.above⟩,λq hq=>⟨old _ _ (S.nw q hq).1,(S.nw q hq).2⟩,S.nd,S.rep,S.gb,S.df⟩
noncomputable def SndN (Θ:Cx) (env:Env) (t:NT) (e:Expr):Prop:=
 ∀ {A:Around}{h₀:Gd}{L:Addr}{m:Str->Option Value}{φ:Phi}{H:Hp}{news:Nws}{s:Shared}{ρ:Lo}{v:V}{p:Value}{I:Addr}{l:Option Nat}{items:List V}{i:Nat}{Q:Unit->Shared->Prop}{E:Value->Shared->Prop},
  A.handled=none->EnvOK env L->Stt Θ A.frames h₀ L m φ H news s.heap->LRel Θ env.scope.names env.cells m φ news ρ->VRel Θ.τ φ news v p->ItRel Θ φ news I l items i->
  PstM Θ A.frames h₀ L (RLo Θ env) Q E φ news s (bindNT t v ρ H)->wpAny Θ.M A (letOwnedTupleGo e (.ref I) p) (λ_ s'=>wpAny Θ.M A (assign e env p) Q E s') E s
theorem sndn_n {x:Str}{i:Nat}{pos:Pos} (hi:idxIn x env.scope.names=some i) (hk:env.scope.names.lookup x=some .local):SndN Θ env (.n i) (.Name x pos):=λhh eo S lr rv ri hp=>by
 refine wpAny_of_eq (a:=()) rfl ?_
 rw [PySem.assign_Name]
 refine wpAny_bind (wpAny_standAt (wp_stLoc eo S lr hi hk rv λm' h' tk S' lr'=> ?_))
 exact hp _ m' _ _ h' tk () .rfl S' (.refl _ _) lr'
theorem ItO.other {o:Obj}{l:Option Nat}{items:List V}{i:Nat} (r:ItO Θ φ news o l items i): ∃ (cl:String) (vs:Array Value),o.cls= .type cl/\o.data= .fields vs/\(["enumerate", "zip", "dict_itemiterator", "dict_reverseitemiterator", "odict_iterator", "itertools.zip_longest", "itertools.pairwise"].contains cl)=false:=by
 cases l with
 | some l=>exact r.elim λp r=>⟨_,_,r.cls,r.data,by decide⟩
 | none=>exact r.elim (λh=>h.elim λt h=>h.elim λits h=>h.elim λk r=>⟨_,_,r.cls,r.data,by decide⟩) λh=>h.elim λa h=>h.elim λb r=>by rw [r.eq];exact⟨_,_,rfl,rfl,by decide⟩
theorem letGo_it {es:List Expr}{k:Nat}{pos:Pos}{I:Addr}{l:Option Nat}{items:List V}{i:Nat}{p:Value}{Q:Unit->Shared->Prop} (S:Stt Θ A.frames h₀ L m φ H news s.heap) (ri:ItRel Θ φ news I l items i) (hq:Q () s):wpAny Θ.M A (letOwnedTupleGo (.Tuple es k pos) (.ref I) p) Q E s:=by
 refine ri.has.elim λo h=>h.2.other.elim λcl d=>d.elim λvs d=> ?_
 unfold letOwnedTupleGo
 cases p with
 | ref a=>
  dsimp only
  refine wpAny_bind (wpAny_load (S.nw.get h.1) ?_)
  rw [d.1,d.2.1]
  dsimp only
  rw [d.2.2,Bool.false_and,if_neg (by decide)]
  exact wpAny_pure hq
 | _=>exact wpAny_pure hq
theorem sndn_t {is:List Nat}{es:List Expr}{k:Nat}{pos:Pos} (hl:LocNames env is es):SndN Θ env (.t is) (.Tuple es k pos):=λ {A h₀ L m φ H news s ρ v p I l items i Q E} hh eo S lr rv ri hp=>
 letGo_it S ri (PstM.ofO hp λvs hv hp=>rv.tupI (C:=λp=>wpAny Θ.M A (assign (.Tuple es k pos) env p) Q E s) hv λa its n hm hr=>by
  rcases bindIs_len (H:=H) (is:=is) (vs:=vs) (ρ:=ρ) with e | e
  ·rw [e] at hp;exact hp.elim
  ·have z:=locs_each hl
   exact wpAny_assign_Tuple hh ⟨_,S.nw.get hm,rfl,_,rfl⟩ (z.2.trans (e.trans hr.length)) z.1 λh' hs=>wp_bindIs hl eo hr (S.extBut hs) lr (PstM.ext hp .rfl (.refl _ _)))
end
section
variable {Θ:Cx}{n:Nat}{env:Env}{A:Around}{h₀:Gd}{h h':Heap}{L:Addr}{m:Str->Option Value}{φ φ':Phi}{H:Hp}{news news':Nws}{s:Shared}{ρ:Lo}{E:Value->Shared->Prop}
theorem ground_back (F:Fr h₀.h L s.heap m) (st:h₀.h.StaysIn (hideAll s.heap (news.map (·.1)))) {oL:Obj} (hL:(hideAll s.heap (news.map (·.1))).get? L=some oL) (hns: ∀ (h':Heap) (sl:Array (Option Value)),h'.get? L=some {oL with slots:=sl}->h'.Ns L m) {fs:List Addr}
 (hfs: ∀b∈h₀.fs,b∈fs/\∃o,h₀.h.get? b=some o) (hfs2: ∀b∈fs,b∈h₀.fs\/b=L) {g':Gd}{h':Heap}{L':Addr}{m':Str->Option Value}{news':Nws} (T:Turn ⟨hideAll s.heap (news.map (·.1)),fs⟩ g') (F':Fr g'.h L' h' m') (N':News g'.h L' h' news') :
 ∃g₀,Turn h₀ g₀/\Fr g₀.h L h' m/\News g₀.h L h' news':=by
 have T2:=T.2
 have fr: ∀b,b∈g'.fs\/True:=λ_=> .inr trivial
 have k:=kts_turn_at (fs:=h₀.fs) (g:=h₀.h) (h:=h') (λb hb=>(hfs b hb).2)
  (λb o e hb=>F'.keep b o (T2.other b o (st b o e) λhm=>(hfs2 b hm).elim hb λh1=>nos ((kts_self F).symm.trans (h1▸e))))
  (λb o e hb=>(T2.frame b o (st b o e) (hfs b hb).1).imp λsl hs=>F'.keep b _ hs)
 refine(T2.up hL).elim λsl hs=>⟨⟨ktsHeap h' h₀.fs h₀.h,h₀.fs⟩,⟨rfl,k.1⟩,⟨hns h' sl (F'.keep L _ hs),k.2,(show(ktsHeap h' h₀.fs h₀.h).objs.size<=L from k.1.size▸F.above)⟩,λq hq=> ?_⟩
 have z:=N' q hq
 refine⟨z.1,λe=>nos (z.2.2.symm.trans (e▸hs)), ?_⟩
 show(ktsHeap h' h₀.fs h₀.h).get? q.1=none
 cases e:(ktsHeap h' h₀.fs h₀.h).get? q.1 with
 | none=>rfl
 | some o=>
  exfalso
  cases e0:h₀.h.get? q.1 with
  | none=>exact nos ((k.1.none_ _ e0).symm.trans e)
  | some o0=>exact(T2.up (st _ _ e0)).elim λsl hs=>nos (z.2.2.symm.trans hs)
structure Grd0 (Θ:Cx) (A:Around) (news:Nws) (h:Heap) (g:Gd) (base:Heap) (outer:List Env):Prop where
 below:Below A base outer g.h
 frames:A.frames=some outer
 fs:g.fs=outer.filterMap (·.frame)
 top:TopIn Θ base
 size:g.h.objs.size=h.objs.size
 sub: ∀b o,g.h.get? b=some o->h.get? b=some o
 hid: ∀q∈news,g.h.get? q.1=none
structure Grd (Θ:Cx) (A:Around) (h₀:Gd) (L:Addr) (m:Str->Option Value) (news:Nws) (h:Heap) (g:Gd) (base:Heap) (outer:List Env):Prop extends Grd0 Θ A news h g base outer where
 back: ∀ {g' h' L' m' news'},Turn g g'->Fr g'.h L' h' m'->News g'.h L' h' news'->∃g₀,Turn h₀ g₀/\Fr g₀.h L h' m/\News g₀.h L h' news'
theorem ground (S:Stt Θ A.frames h₀ L m φ H news s.heap): ∃g base outer,Grd Θ A h₀ L m news s.heap g base outer:=by
 have F:=S.fr
 have N:=S.nw
 have nm: ∀b o,h₀.h.get? b=some o->b∉news.map (·.1):=λb o e q=>(List.mem_map.mp q).elim λp hp=>nos ((N p hp.1).2.2.symm.trans (hp.2▸e))
 have st:h₀.h.StaysIn (hideAll s.heap (news.map (·.1))):=λb o e=>hideAll_get _ (F.keep b o e) (nm b o e)
 have hid: ∀q∈news,(hideAll s.heap (news.map (·.1))).get? q.1=none:=λq hq=>hideAll_none _ (List.mem_map_of_mem hq)
 obtain⟨oL,es,ep,hL,hLd,hLk,hLf⟩:=F.ns
 have hLg:=hideAll_get (news.map (·.1)) hL λq=>(List.mem_map.mp q).elim λp hp=>(N p hp.1).2.1 hp.2
 have hns: ∀ (h':Heap) (sl:Array (Option Value)),h'.get? L=some {oL with slots:=sl}->h'.Ns L m:=λh' sl e=>⟨_,es,ep,e,hLd,hLk,hLf⟩
 cases S.gb with
 | @own A₀ base outer env B h1 h2 h3 h4 t=>
  obtain⟨_,B',_,_⟩:=groundX (s:=s) (R:=λ_ _=>True) B F N h1 h2 h3
  have hcons:(env :: outer).filterMap (·.frame)=L :: h₀.fs:=by rw [List.filterMap_cons,h2,h4]
  exact⟨⟨hideAll s.heap (news.map (·.1)),(env :: outer).filterMap (·.frame)⟩,base,env :: outer,⟨B',h1,rfl,t,hideAll_size _ _,λb o e=>of_hideAll _ e,hid⟩,
   ground_back F st hLg hns (λb hb=>⟨hcons▸ .tail _ hb,(B.frames.mem (h4▸hb)).2.elim λo h=>⟨o,h.1⟩⟩) λb hb=>(List.mem_cons.mp (hcons▸hb)).symm⟩
 | @comp A₀ base outer B h1 h4 t=>
  refine⟨⟨hideAll s.heap (news.map (·.1)),h₀.fs⟩,base,outer,⟨⟨h1,λb o e=>st b o (B.stays b o e), ?_⟩,h1,h4,t,hideAll_size _ _,λb o e=>of_hideAll _ e,hid⟩,ground_back F st hLg hns (λb hb=>⟨hb,(B.frames.mem (h4▸hb)).2.elim λo h=>⟨o,h.1⟩⟩) λb hb=> .inl hb⟩
  exact funFrames_hideAll (B.frames.of_keeps λb o e _=>⟨o,F.keep b o e,rfl⟩) λenv' he a ha hf=>(funFrames_in B.frames env' he).elim λL₁ h=>h.elim λo₁ h=>nm L₁ o₁ h.2 (Option.some.inj (h.1.symm.trans hf)▸ha)
noncomputable def testLoop (es:List Expr) (env:Env):Sem Bool:=forIn es true λc r=>if r=true then do let ok <- isTrue c env (eval c env);pure (ForInStep.yield ok) else pure (ForInStep.yield r)
noncomputable def SndTs (Θ:Cx) (n:Nat) (env:Env) (xs:List X) (es:List Expr):Prop:=
 ∀ {A:Around}{h₀:Gd}{L:Addr}{m:Str->Option Value}{φ:Phi}{H:Hp}{news:Nws}{s:Shared}{ρ:Lo}{Q:Bool->Shared->Prop}{E:Value->Shared->Prop},
  At Θ A n env h₀ L m φ H news s ρ->Pst Θ A.frames h₀ L m RE Q E φ news s (evTests (run n Θ.P) Θ.P xs ρ H)->wpAny Θ.M A (testLoop es env) Q E s
theorem sndts_nil:SndTs Θ n env [] []:=λ {A h₀ L m φ H news s ρ Q E} a hp=>wpAny_pure (hp _ _ _ _ _ _ .rfl a.st (.refl _ _) rfl)
theorem testLoop_no (env:Env) (l:List Expr):(forIn l false λc r=>if r=true then do let ok <- isTrue c env (eval c env);pure (ForInStep.yield ok) else pure (ForInStep.yield r):Sem Bool)=pure false:=by
 induction l with
 | nil=>rfl
 | cons y r ih=>rw [List.forIn_cons,if_neg (by decide),pure_bind];exact ih
theorem sndts_cons {x:X}{xs:List X}{e:Expr}{es:List Expr} (hx:SndT Θ n env x e) (hxs:SndTs Θ n env xs es):SndTs Θ n env (x :: xs) (e :: es):=λ {A h₀ L m φ H news s ρ Q E} a hp=>by
 unfold testLoop
 rw [List.forIn_cons,if_pos rfl]
 refine wpAny_bind (wpAny_bind (hx a (Pst.bind (R:=RE) hp λg₁ φ₁ news₁ h₁ tk c p H₁ T₁ S₁ x₁ r₁ hp=>wpAny_pure ?_)))
 obtain rfl:c=p:=r₁
 cases c with
 | true=>exact hxs (a.step S₁ x₁) hp
 | false=>exact wpAny_of_eq (testLoop_no env es) (hp _ _ _ _ _ _ .rfl S₁ (.refl _ _) rfl)
theorem codeAny_compLoop_any {prog:Program}{w:World}{R:Result->Shared->Prop}{elt target iter:Expr}{ifs:List Expr}{scope:Scope}{pos:Pos}{it acc:Value} (I:Nat->Shared->Prop)
 (turn : ∀ n s,I n s->wpAny (model prog w) A (pyNext it) (λr s₁=>match r with
  | none=>R (.ok .next) s₁
  | some v =>wpAny (model prog w) A (letOwnedTupleGo target it v) (λ_ s₁'=>wpAny (model prog w) A (assign target env v) (λ_ s₂=>
   wpAny (model prog w) A (testLoop ifs env) (λok s₃=>
    if ok=true then wpAny (model prog w) A (eval elt env) (λx s₄=>
     wpAny (model prog w) A (call (.builtin "list.append") [acc,x]) (λ_ s₅=>∃m,m < n/\I m s₅) (notedBy (model prog w) A env λe s'=>R (.error e) s') s₄) (notedBy (model prog w) A env λe s'=>R (.error e) s') s₃
    else∃m,m < n/\I m s₃) (notedBy (model prog w) A env λe s'=>R (.error e) s') s₂) (notedBy (model prog w) A env λe s'=>R (.error e) s') s₁') (notedBy (model prog w) A env λe s'=>R (.error e) s') s₁) (notedBy (model prog w) A env λe s'=>R (.error e) s') s)
 (n:Nat) (h:I n s) :
 codeAny (model prog w) A (.compLoop (.ListComp elt [⟨target,iter,ifs,0⟩] scope pos) 0 it acc env) R s:=by
 refine codeAny_loop rfl I (λn s hI=> ?_) n h
 show wpAny _ A ((compTurn (.ListComp elt [⟨target,iter,ifs,0⟩] scope pos) 0 it acc env).onRaise (λx=>do noteFrame x env;theTreesLotGoes x)) _ _ s
 refine wpAny_noted ?_
 rw [compTurn_list]
 refine wpAny_bind (wpAny_standAt (wpAny_bind (wpAny_mono (turn n s hI) (λr s₁ h₁=> ?_) λ_ _ h'=>h')))
 cases r with
 | none=>exact wpAny_pure h₁
 | some v=>
  refine wpAny_bind (wpAny_mono h₁ (λ_ s₁' h₁'=> ?_) λ_ _ h'=>h')
  refine wpAny_bind (wpAny_mono h₁' (λ_ s₂ h₂=>wpAny_bind (wpAny_mono h₂ (λok s₃ h₃=> ?_) λ_ _ h'=>h')) λ_ _ h'=>h')
  cases ok with
  | false=>exact wpAny_pure ⟨rfl,h₃⟩
  | true=>
   exact wpAny_bind (wpAny_bind (wpAny_mono h₃ (λx s₄ h₄=>wpAny_bind (wpAny_mono h₄ (λ_ s₅ h₅=>wpAny_pure (wpAny_pure ⟨rfl,h₅⟩)) λ_ _ h'=>h')) λ_ _ h'=>h'))
theorem PstM.bindB {α β γ δ:Type}{gb:Gd}{R:(Str->Option Value)->Phi->Nws->α->β->Prop}{R':(Str->Option Value)->Phi->Nws->γ->δ->Prop}{Q:δ->Shared->Prop}{E':Value->Shared->Prop}{mm:M α}{f:α->M γ}{H:Hp}{Q₁:β->Shared->Prop}
 {φb:Phi}{newsb:Nws}{sb:Shared} (hp:PstM Θ A.frames gb L R' Q E' φb newsb sb (noEx (M.bind mm f) H))
 (k: ∀ {gn:Array GenState}{dr:Drawn} g m₁ φ₁ news₁ h₁ tk a b H₁,TurnG s.gens gn h₀ g->Stt Θ A.frames g L m₁ φ₁ H₁ news₁ h₁->Ext φ news φ₁ news₁->R m₁ φ₁ news₁ a b->PstM Θ A.frames gb L R' Q E' φb newsb sb (noEx (f a) H₁)->Q₁ b ⟨h₁,gn,dr,tk,s.os⟩) :
 PstM Θ A.frames h₀ L R Q₁ E φ news s (mm H):=by
 unfold noEx M.bind at hp
 cases hr:mm H with
 | ok a H₁=>
  rw [hr] at hp
  exact λ_ _ g m₁ φ₁ news₁ h₁ tk b T S₁ x₁ r₁=>k g m₁ φ₁ news₁ h₁ tk a b H₁ T S₁ x₁ r₁ hp
 | ex H₁=>rw [hr] at hp;exact hp.elim
 | no=>rw [hr] at hp;exact hp.elim
theorem Pst.bindB {α β γ δ:Type}{gb:Gd}{R:Phi->Nws->α->β->Prop}{R':(Str->Option Value)->Phi->Nws->γ->δ->Prop}{Q:δ->Shared->Prop}{E':Value->Shared->Prop}{mm:M α}{f:α->M γ}{H:Hp}{Q₁:β->Shared->Prop}
 {φb:Phi}{newsb:Nws}{sb:Shared} (hp:PstM Θ A.frames gb L R' Q E' φb newsb sb (noEx (M.bind mm f) H))
 (k: ∀ {gn:Array GenState}{dr:Drawn} g φ₁ news₁ h₁ tk a b H₁,TurnG s.gens gn h₀ g->Stt Θ A.frames g L m φ₁ H₁ news₁ h₁->Ext φ news φ₁ news₁->R φ₁ news₁ a b->PstM Θ A.frames gb L R' Q E' φb newsb sb (noEx (f a) H₁)->Q₁ b ⟨h₁,gn,dr,tk,s.os⟩) :
 Pst Θ A.frames h₀ L m R Q₁ E φ news s (mm H):=PstM.fix (PstM.bindB hp λg m₁ φ₁ news₁ h₁ tk a b H₁ T₁ S₁ x₁ r₁ hp=>k g φ₁ news₁ h₁ tk a b H₁ T₁ (r₁.1▸S₁) x₁ r₁.2 hp)
section
variable {α β:Type}{gb:Gd}{R:(Str->Option Value)->Phi->Nws->α->β->Prop}{Q:β->Shared->Prop}{E':Value->Shared->Prop}{φb:Phi}{newsb:Nws}{sb:Shared}{l:Option Nat}{all:List V}{i:Nat}{C:Prop}
theorem Ext.next {I:Addr} (x:Ext φb newsb φ news) (hI: ∀q∈newsb,kept q.2=true->q.1≠I) (y: ∀q∈news,q.1≠I->q∈news'):Ext φb newsb φ news':=
 ⟨x.pre,λq hq hk=>y q (x.frz q hq hk) (hI q hq hk)⟩
theorem curItem_same (l:Option Nat) (all:List V) (i:Nat) (H:Hp):curItem l all i H= .no\/∃v,curItem l all i H= .ok v H:=by
 have fin: ∀o:Option V,ofO o H= .no\/∃v,ofO o H= .ok v H:=λo=>by
  cases o with
  | none=>exact .inl rfl
  | some v=>exact .inr ⟨v,rfl⟩
 cases l with
 | none=>exact fin _
 | some l=>
  refine Classical.byCases (λh:curItem (some l) all i H= .no=> .inl h) λh=> .inr ?_
  exact getLs_inv (G:=λr=>r≠ .no) (λq=>q rfl) h λo ws ho hw h=>ite_inv (G:=λr=>r≠ .no) (λq=>q rfl) h λhl h=>ofO_inv0 (G:=λr=>r≠ .no) (λq=>q rfl) h λv hv _=>⟨v,(getLs_fwd ho hw).trans (by rw [if_pos hl,hv];rfl)⟩
theorem PstM.cur {f:V->M α} (hp:PstM Θ A.frames gb L R Q E' φb newsb sb (noEx (M.bind (curItem l all i) f) H)) (k: ∀v,curItem l all i H= .ok v H->PstM Θ A.frames gb L R Q E' φb newsb sb (noEx (f v) H)->C):C:=by
 rcases curItem_same l all i H with e | ⟨v,e⟩
 ·unfold noEx M.bind at hp;rw [e] at hp;exact hp.elim
 ·refine k v e ?_
  unfold noEx M.bind at hp;rw [e] at hp;exact hp
theorem still_or (l:Option Nat) (items:List V) (H:Hp):still l items H= .ok () H\/still l items H= .no:=by
 cases l with
 | none=>exact .inl rfl
 | some l=>
  refine Classical.byCases (λh:still (some l) items H= .no=> .inr h) λh=> .inl ?_
  exact getLs_inv (G:=λr=>r≠ .no) (λq=>q rfl) h λo ws ho hw h=>ite_inv (G:=λr=>r≠ .no) (λq=>q rfl) h λhl _=>(getLs_fwd ho hw).trans (by rw [if_pos hl];rfl)
end
structure LD where
 i:Nat
 g:Gd
 m:Str->Option Value
 φ:Phi
 H:Hp
 news:Nws
 σ:Lo
structure LI (Θ:Cx) (A:Around) (env:Env) (L I:Addr) (l:Option Nat) (items:List V) (gb:Gd) (φb:Phi) (newsb:Nws) (sb:Shared) (k:Nat) (d:LD) (s:Shared):Prop where
 os:s.os=sb.os
 ki:k + d.i=items.length
 tg:TurnG sb.gens s.gens gb d.g
 st:Stt Θ A.frames d.g L d.m d.φ d.H d.news s.heap
 lr:LRel Θ env.scope.names env.cells d.m d.φ d.news d.σ
 ri:ItRel Θ d.φ d.news I l items d.i
 xb:Ext φb newsb d.φ d.news
theorem LI.next {I:Addr}{l:Option Nat}{items:List V}{gb:Gd}{φb:Phi}{newsb news₁:Nws}{sb:Shared}{k:Nat}{d d':LD}{gn:Array GenState}{dr:Drawn}{tk:Nat}{h₁:Heap} (li:LI Θ A env L I l items gb φb newsb sb (k + 1) d s) (xb:Ext φb newsb d.φ news₁) (ri:ItRel Θ d.φ news₁ I l items (d.i + 1))
 (hi:d'.i=d.i + 1) (T:TurnG s.gens gn d.g d'.g) (S:Stt Θ A.frames d'.g L d'.m d'.φ d'.H d'.news h₁) (lr:LRel Θ env.scope.names env.cells d'.m d'.φ d'.news d'.σ) (x:Ext d.φ news₁ d'.φ d'.news):LI Θ A env L I l items gb φb newsb sb k d' ⟨h₁,gn,dr,tk,s.os⟩ :=
 ⟨li.os,by have:=li.ki;lia,li.tg.trans T,S,lr,hi▸ri.mono x (Nat.succ_pos _),xb.trans x⟩
theorem comp_turns {elt target iter:Expr}{ifs:List Expr}{scope:Scope}{pos:Pos}{x:X}{fs:List X}{tg:NT}{R:Result->Shared->Prop}{I D:Addr}{l:Option Nat}{items:List V}{acc:Nat}{gb:Gd}{φb:Phi}{newsb:Nws}{sb:Shared}
 (st:Stat5 Θ) (hK:SndK Θ n) (hx:SndE Θ n env x elt) (ht:SndN Θ env tg target) (hfs:SndTs Θ n env fs ifs) (room:Room A n Θ.P.hd) (eo:EnvOK env L) (own:env.frame=some L->∃outer,A.frames=some (env :: outer)) (hh:A.handled=none)
 (hI: ∀q∈newsb,kept q.2=true->q.1≠I) (hacc:φb[acc]? =some (D,D)) (k:Nat) (d:LD) (li:LI Θ A env L I l items gb φb newsb sb k d s)
 (hp:PstM Θ A.frames gb L (λ_ _ _ _ _=>True) (λ (_:Unit) s'=>R (.ok .next) s') (λ_ _=>False) φb newsb sb (noEx (compLoop (ev (run n Θ.P) Θ.P x) (evTests (run n Θ.P) Θ.P fs) tg l items k d.i acc d.σ) d.H)) :
  codeAny Θ.M A (.compLoop (.ListComp elt [⟨target,iter,ifs,0⟩] scope pos) 0 (.ref I) (.ref D) env) R s:=by
 refine codeAny_compLoop_any (λk s'=>∃d,LI Θ A env L I l items gb φb newsb sb k d s'/\
  PstM Θ A.frames gb L (λ_ _ _ _ _=>True) (λ (_:Unit) s'=>R (.ok .next) s') (λ_ _=>False) φb newsb sb (noEx (compLoop (ev (run n Θ.P) Θ.P x) (evTests (run n Θ.P) Θ.P fs) tg l items k d.i acc d.σ) d.H)) (λk s h=> ?_) k ⟨d,li,hp⟩
 clear hp li
 refine h.elim λd h=>h.elim λli hp=> ?_
 clear h
 cases k with
 | zero=>
  have hi:d.i=items.length:=(Nat.zero_add _).symm.trans li.ki
  have hp:PstM Θ A.frames gb L (λ_ _ _ _ _=>True) (λ (_:Unit) s'=>R (.ok .next) s') (λ_ _=>False) φb newsb sb (noEx (still l items) d.H):=hp
  rcases still_or l items d.H with e | e
  ·refine wp_end hh li.st (hi▸li.ri) e λnews' h' S' X hy=> ?_
   unfold noEx at hp
   rw [e] at hp
   exact li.os▸hp d.g d.m d.φ news' h' s.toks () li.tg S' (li.xb.next hI hy) trivial
  ·unfold noEx at hp;rw [e] at hp;exact hp.elim
 | succ k=>
  refine PstM.cur hp λv hv hp=>wp_next li.st li.ri hv λnews' h' tk' p S' X hy ri' rv=> ?_
  have xb':=li.xb.next hI hy
  refine ht hh eo S' (li.lr.mono0 X) rv ri' (PstM.bindB hp λg₁ m₁ φ₁ news₁ h₁ tk₁ σ₁ _ H₁ T₁ S₁ x₁ lr₁ hp=>hfs ⟨room,eo,own,S₁,lr₁⟩ (Pst.bindB (R:=RE) hp λg₂ φ₂ news₂ h₂ tk₂ ok ok' H₂ T₂ S₂ x₂ r₂ hp=> ?_))
  obtain rfl:ok=ok':=r₂
  cases ok with
  | false=>exact⟨k,Nat.lt_succ_self _,⟨d.i + 1,g₂,m₁,φ₂,H₂,news₂,σ₁⟩,li.next xb' ri' rfl (T₁.trans T₂) S₂ (lr₁.mono x₂) (x₁.trans x₂),hp⟩
  | true=>
   refine hx ⟨room,eo,own,S₂,lr₁.mono x₂⟩ (Pst.bindB hp λg₃ φ₃ news₃ h₃ tk₃ xv xp H₃ T₃ S₃ x₃ r₃ hp=> ?_)
   have xa:=(x₁.trans x₂).trans x₃
   exact wp_append S₃ ((xb'.trans xa).pre _ _ hacc) r₃ (R:=λ_ _ _ _=>True) (λ_ _=>trivial) (Pst.bindB hp λg₄ φ₄ news₄ h₄ tk₄ _ _ H₄ T₄ S₄ x₄ _ hp=>
    ⟨k,Nat.lt_succ_self _,⟨d.i + 1,g₄,m₁,φ₄,H₄,news₄,σ₁⟩,li.next xb' ri' rfl (((T₁.trans T₂).trans T₃).trans T₄) S₄ (lr₁.mono ((x₂.trans x₃).trans x₄)) (xa.trans x₄),hp⟩)
end
section
variable {Θ:Cx}{n:Nat}{env:Env}{A:Around}{h₀:Gd}{h h':Heap}{L:Addr}{m:Str->Option Value}{φ φ':Phi}{H:Hp}{news news':Nws}{s:Shared}{ρ:Lo}{E:Value->Shared->Prop}
noncomputable def PstX {α β:Type} (Θ:Cx) (l:Option (List Env)) (h₀:Gd) (L:Addr) (m:Str->Option Value) (R:(Str->Option Value)->Phi->Nws->α->β->Prop) (Q:β->Shared->Prop) (E:Value->Shared->Prop) (φ:Phi) (news:Nws) (s:Shared):Res α->Prop
 | .ok a H'=>PstM Θ l h₀ L R Q E φ news s (.ok a H')
 | .ex H'=>Pst Θ l h₀ L m (λ_ _ (_:α) (_:β)=>True) Q E φ news s (.ex H')
 | .no=>False
theorem PstM.toX {α β:Type}{R:(Str->Option Value)->Phi->Nws->α->β->Prop}{Q:β->Shared->Prop}{r:Res α} (hp:PstM Θ A.frames h₀ L R Q E φ news s r):PstX Θ A.frames h₀ L m R Q E φ news s r:=by
 cases r with
 | ok a H'=>exact hp
 | ex H'=>exact λ_ _ g φ' news' h₁ h' tk e T S x ne=>hp g m φ' news' h₁ h' tk e T S x ne
 | no=>exact hp
theorem Pst.toX {α β:Type}{R:Phi->Nws->α->β->Prop}{Q:β->Shared->Prop}{r:Res α} (hp:Pst Θ A.frames h₀ L m R Q E φ news s r):PstX Θ A.frames h₀ L m (λm' φ' news' a b=>m'=m/\R φ' news' a b) Q E φ news s r:=by
 cases r with
 | ok a H'=>exact λ_ _ g m' φ' news' h' tk b T S x r=>hp g φ' news' h' tk b T (r.1▸S) x r.2
 | ex H'=>exact hp
 | no=>exact hp
theorem PstX.ext {α β:Type}{g:Gd}{R:(Str->Option Value)->Phi->Nws->α->β->Prop}{Q:β->Shared->Prop}{r:Res α}{φ₁:Phi}{news₁:Nws}{h':Heap}{tk:Nat}{gn:Array GenState}{dr:Drawn} (hp:PstX Θ A.frames h₀ L m R Q E φ news s r) (T:TurnG s.gens gn h₀ g) (X:Ext φ news φ₁ news₁) :
 PstX Θ A.frames g L m R Q E φ₁ news₁ ⟨h',gn,dr,tk,s.os⟩ r:=by
 cases r with
 | ok v H₂=>exact PstM.ext (E:=E) (r:= .ok v H₂) hp T X
 | ex H₂=>exact Pst.ext (Q:=Q) (R:=λ_ _ (_:α) _=>True) (r:= .ex H₂) hp T X
 | no=>exact hp
theorem PstX.bind {α β γ δ:Type}{R:Phi->Nws->α->β->Prop}{R':(Str->Option Value)->Phi->Nws->γ->δ->Prop}{Q:δ->Shared->Prop}{mm:M α}{f:α->M γ}{Q₁:β->Shared->Prop}
 (hp:PstX Θ A.frames h₀ L m R' Q E φ news s (M.bind mm f H))
 (k: ∀ {gn:Array GenState}{dr:Drawn} g φ₁ news₁ h₁ tk a b H₁,TurnG s.gens gn h₀ g->Stt Θ A.frames g L m φ₁ H₁ news₁ h₁->Ext φ news φ₁ news₁->R φ₁ news₁ a b->PstX Θ A.frames h₀ L m R' Q E φ news s (f a H₁)->Q₁ b ⟨h₁,gn,dr,tk,s.os⟩) :
 Pst Θ A.frames h₀ L m R Q₁ E φ news s (mm H):=by
 unfold M.bind at hp
 cases hr:mm H with
 | ok a H₁=>rw [hr] at hp;exact λ_ _ g φ₁ news₁ h₁ tk b T S₁ x₁ r₁=>k g φ₁ news₁ h₁ tk a b H₁ T S₁ x₁ r₁ hp
 | ex H₁=>rw [hr] at hp;exact hp
 | no=>rw [hr] at hp;exact hp.elim
noncomputable def clStep (cells:List (Str × Addr)) (cs:List (Str × Addr)) (x:Str × NameKind):List (Str × Addr):=if x.2= .free then(x.1,(cells.lookup x.1).getD 0) :: cs else cs
noncomputable def clOf (cells:List (Str × Addr)) (names:List (Str × NameKind)):List (Str × Addr):=names.foldl (clStep cells) []
theorem forIn_pure {α β:Type}{f:α->β->Sem (ForInStep β)}{g:β->α->β} (l:List α): ∀ (c:β),(∀x∈l,∀c,f x c=pure (.yield (g c x)))->forIn l c f=(pure (l.foldl g c):Sem β):=by
 induction l with
 | nil=>intro c _;rfl
 | cons x r ih=>intro c h;rw [List.forIn_cons,h x (.head _),pure_bind];exact ih _ λy hy=>h y (.tail _ hy)
theorem closure_of {scope:Scope} (h: ∀x∈scope.names,x.2= .free->(env.cells.lookup x.1).isSome=true):closureFor scope env=pure (clOf env.cells scope.names):=by
 simp only [closureFor]
 rw [forIn_pure (g:=clStep env.cells) scope.names [] λx hx c=> ?_]
 ·rfl
 ·obtain⟨nm,k⟩:=x
  unfold clStep
  by_cases hk:k= .free
  ·subst hk
   obtain⟨a,ha⟩:=Option.isSome_iff_exists.mp (h _ hx rfl)
   dsimp only at ha
   rw [if_pos (show(NameKind.free == NameKind.free)=true from rfl),if_pos rfl]
   unfold cellOf
   dsimp only
   rw [ha]
   simp
  ·rw [if_neg λq=>hk (eq_of_beq q),if_neg hk]
theorem clOf_lookup {cells:List (Str × Addr)}{x:Str}{a:Addr} (ha:cells.lookup x=some a) (names:List (Str × NameKind)): ∀ (cs:List (Str × Addr)),((x,NameKind.free)∈names\/cs.lookup x=some a)->(names.foldl (clStep cells) cs).lookup x=some a:=by
 induction names with
 | nil=>intro cs h;exact h.elim (λh=>nomatch h) id
 | cons y r ih=>
  intro cs h
  refine ih _ ?_
  unfold clStep
  by_cases hk:y.2= .free
  ·rw [if_pos hk,List.lookup_cons]
   by_cases e:x=y.1
   ·rw [<- e,beq_self_eq_true,ha];exact .inr rfl
   ·rw [beq_false_of_ne e]
    exact h.imp (λh=>(List.mem_cons.mp h).elim (λh=>absurd (congrArg Prod.fst h) e) id) id
  ·rw [if_neg hk]
   exact h.imp (λh=>(List.mem_cons.mp h).elim (λh=>absurd (congrArg Prod.snd h).symm hk) id) id
theorem ItRel.more {I:Addr}{l:Option Nat}{items:List V}{i:Nat} (kp: ∀q∈news,q∈news') (pre: ∀ (l:Nat) (p:Addr × Addr),φ[l]? =some p->φ'[l]? =some p) (r:ItRel Θ φ news I l items i):ItRel Θ φ' news' I l items i:=
 ⟨r.off,r.has.imp λo h=>⟨kp _ h.1,h.2.mono0 ⟨pre,λq hq _=>kp q hq⟩⟩⟩
theorem pyIter_self {I:Addr}{l:Option Nat}{items:List V}{i:Nat}{Q:Value->Shared->Prop} (N:News h₀.h L s.heap news) (r:ItRel Θ φ news I l items i) (hq:Q (.ref I) s):wpAny Θ.M A (pyIter (.ref I)) Q E s:=by
 refine r.has.elim λo h=> ?_
 cases l with
 | some l=>exact h.2.elim λp d=>wpAny_pyIter_listiter ⟨_,N.get h.1,d.cls,d.data⟩ hq
 | none=>exact h.2.elim (λh2=>h2.elim λt h2=>h2.elim λits h2=>h2.elim λk d=>wpAny_pyIter_tupleiter ⟨_,N.get h.1,d.cls,d.data⟩ hq) λh2=>h2.elim λa h2=>h2.elim λb d=>wpAny_pyIter_rangeiter (d.eq▸N.get h.1) hq
noncomputable def FreeOK (outer inner:List (Str × NameKind)) (free:List (Nat × Nat)):Prop:=∀p∈free,∃x k,inner[p.1]? =some (x, .free)/\outer[p.2]? =some (x,k)/\(k= .cell\/k= .free)
theorem cels_of (ρ:Lo) (free:List (Nat × Nat)): ∀ (cs:List (Option Nat)) (i l:Nat),(free.foldl (λl p=>l.set p.1 (match ρ.cel[p.2]? with | some c=>c | none=>none)) cs)[i]? =some (some l)->
 cs[i]? =some (some l)\/∃p∈free,p.1=i/\ρ.cel[p.2]? =some (some l):=by
 induction free with
 | nil=>intro cs i l h;exact .inl h
 | cons p r ih=>
  intro cs i l h
  rcases ih _ i l h with h1 | ⟨q,hq,e⟩
  ·by_cases e:p.1=i
   ·subst e
    rw [List.getElem?_set_self (List.length_set (as:=cs)▸(List.getElem?_eq_some_iff.mp h1).1)] at h1
    refine .inr ⟨p, .head _,rfl, ?_⟩
    cases hc:ρ.cel[p.2]? with
    | none=>rw [hc] at h1;injection h1 with h1;injection h1
    | some c=>rw [hc] at h1;exact h1
   ·rw [List.getElem?_set_ne e] at h1;exact .inl h1
  ·exact .inr ⟨q, .tail _ hq,e⟩
theorem relabel_get {scope:Scope}{i:Nat}{x:Str}{k:NameKind} (h:scope.names[i]? =some (x,k)): ∃k',(relabel scope env).names[i]? =some (x,k')/\(k'=k\/(k= .free/\k'= .cell)):=by
 unfold relabel
 dsimp only
 rw [List.getElem?_map,h]
 by_cases hc:(k == .free && env.scope.kind == .function && env.kindOf x == some .cell)=true
 ·have hk:=(Bool.and_eq_true_iff.mp (Bool.and_eq_true_iff.mp hc).1).1
  exact⟨.cell,congrArg some (if_pos hc), .inr ⟨eq_of_beq hk,rfl⟩⟩
 ·exact⟨k,congrArg some (if_neg hc), .inl rfl⟩
theorem relabel_keys (scope:Scope):(relabel scope env).names.map (·.1)=scope.names.map (·.1):=by
 unfold relabel
 rw [List.map_map]
 refine List.map_congr_left λx _=> ?_
 obtain⟨nm,k⟩:=x
 dsimp only [Function.comp]
 by_cases h:(k == NameKind.free && env.scope.kind == ScopeKind.function && env.kindOf nm == some NameKind.cell)=true
 ·rw [if_pos h]
 ·rw [if_neg h]
theorem lookup_nodup {α:Type}{l:List (Str × α)}{x:Str}{a:α} (nd:(l.map (·.1)).Nodup) (h:(x,a)∈l):l.lookup x=some a:=by
 induction l with
 | nil=>exact nomatch h
 | cons y r ih=>
  rw [List.map_cons,List.nodup_cons] at nd
  rw [List.lookup_cons]
  rcases List.mem_cons.mp h with h | h
  ·rw [<- h,beq_self_eq_true]
  ·rw [beq_false_of_ne λe=>nd.1 (List.mem_map.mpr ⟨_,h,e⟩)]
   exact ih nd.2 h
theorem compEnv_ok {scope:Scope}{C:Addr} (eo:EnvOK env L) (hkind:scope.kind= .function) (hnd:(scope.names.map (·.1)).Nodup) (hnc: ∀x∈scope.names,x.2≠ .cell) (hcl: ∀x∈scope.names,x.2= .free->(env.cells.lookup x.1).isSome=true) (hLC:L < C) :
 EnvOK (compEnvC scope (clOf env.cells scope.names) C env) C:=by
 refine⟨rfl,eo.glob,eo.blt,hkind,(relabel_keys (env:=env) scope).symm▸hnd,λx hx hk=> ?_,λx hx=>Nat.le_trans (eo.fr x hx) (Nat.le_of_lt hLC)⟩
 obtain⟨y,hy,e⟩:=List.mem_map.mp (show x.1∈scope.names.map (·.1) from relabel_keys (env:=env) scope▸List.mem_map_of_mem hx)
 obtain⟨i,hi⟩:=List.mem_iff_getElem?.mp hx
 have hi2:(scope.names.map (·.1))[i]? =some x.1:=by rw [<- relabel_keys (env:=env) scope,List.getElem?_map];exact congrArg (Option.map (·.1)) hi
 rw [List.getElem?_map] at hi2
 obtain⟨z,hz,ez⟩:=Option.map_eq_some_iff.mp hi2
 have hf:z.2= .free:=by
  refine(relabel_get (env:=env) (x:=z.1) (k:=z.2) hz).elim λk' h=> ?_
  have e2:x=(z.1,k'):=Option.some.inj (hi.symm.trans h.1)
  rcases h.2 with h | h
  ·rw [e2] at hk
   exact hk.elim (λhk=>absurd (h.symm.trans hk) (hnc _ (List.mem_of_getElem? hz))) λhk=>h.symm.trans hk
  ·exact h.1
 have hz':=List.mem_of_getElem? hz
 obtain⟨c,hc⟩:=Option.isSome_iff_exists.mp (hcl z hz' hf)
 show((clOf env.cells scope.names).lookup x.1).isSome=true
 rw [<- ez,show(clOf env.cells scope.names).lookup z.1=some c from clOf_lookup hc _ _ (.inl (hf▸hz'))]
 rfl
theorem repl_no {α:Type}{n i:Nat}{a:α}{G:Prop} (h:(List.replicate n (none:Option α))[i]? =some (some a)):G:=by
 have h:=List.eq_of_mem_replicate (List.mem_of_getElem? h)
 injection h
theorem compEnv_lr {scope:Scope}{free:List (Nat × Nat)}{C:Addr}{m':Str->Option Value} (lr:LRel Θ env.scope.names env.cells m φ news ρ) (hfree:FreeOK env.scope.names scope.names free) (pre: ∀ (l:Nat) (p:Addr × Addr),φ[l]? =some p->φ'[l]? =some p) :
 LRel Θ (compEnvC scope (clOf env.cells scope.names) C env).scope.names (clOf env.cells scope.names) m' φ' news' (compEnv scope.names.length free ρ):=by
 refine⟨λi w e=>repl_no e,λi k e=> ?_⟩
 rcases cels_of ρ free _ i k e with e1 | ⟨q,hq,e1,e2⟩
 ·exact repl_no e1
 ·refine(hfree q hq).elim λx h=>h.elim λk₂ f=>(lr.cel _ _ e2).elim λy h=>h.elim λk3 h=>h.elim λpa g=>(relabel_get (env:=env) f.1).elim λk' r=> ?_
  have exy:(x,k₂)=(y,k3):=Option.some.inj (f.2.1.symm.trans g.1)
  have ex:x=y:=congrArg Prod.fst exy
  exact⟨x,k',pa,e1▸r.1,r.2.elim .inr λh=> .inl h.2,pre _ _ g.2.2.1,clOf_lookup (ex▸g.2.2.2) _ _ (.inl (List.mem_of_getElem? f.1))⟩
theorem Stt.letGo {C:Addr}{h'':Heap} (S:Stt Θ A.frames h₀ L m φ H news h') (hs:Heap.SameBut C h' h'') (ne:C≠L) (hn:h₀.h.get? C=none) (off: ∀q∈news,q.1≠C):Stt Θ A.frames h₀ L m φ H news h'':=
 ⟨S.fr.change hs ne hn,λq hq=>⟨(hs.2 _ (off q hq)).trans (S.nw q hq).1,(S.nw q hq).2⟩,S.nd,S.rep,S.gb,S.df⟩
structure CEnd (Θ:Cx) (A:Around) (L C D:Addr) (m mC:Str->Option Value) (φ φ':Phi) (news news':Nws) (H':Hp) (acc:Nat) (g:Gd) (s':Shared):Prop where
 st:Stt Θ A.frames g L m φ' H' news' s'.heap
 ns:s'.heap.Ns C mC
 ne:C≠L
 hn:g.h.get? C=none
 off: ∀q∈news',q.1≠C
 ext:Ext φ news φ' news'
 res:φ'[acc]? =some (D,D)
theorem iter_hd {C:CallT}{P:Prog}{v:V}{G:Prop}{α:Type}{f:Option Nat × List V->M α}{Gr:Res α->Prop} (no: ¬Gr .no) (hp:Gr (M.bind (iterOf C P v) f H)) (k:P.hd=false->G):G:=by
 cases q:P.hd with
 | false=>exact k q
 | true=>
  unfold iterOf M.bind at hp
  rw [q,if_pos rfl] at hp
  exact(no hp).elim
theorem compM_bind {γ:Type}{C:CallT}{P:Prog}{it:M V}{elt:Lo->M V}{test:Lo->M Bool}{k:Nat}{free:List (Nat × Nat)}{tgt:NT}{f:Nat->M γ}:M.bind (compM C P it elt test k free tgt ρ) f H =
 M.bind it (λv=>M.bind (iterOf C P v) λli h=>M.bind (noEx (compLoop elt test tgt li.1 li.2 li.2.length 0 h.length (compEnv k free ρ))) (λ_=>f h.length) (h ++ [.list []])) H:=by
 have e1: ∀v,M.bind (M.bind (iterOf C P v) λli=>M.bind (alloc (.list [])) λacc=>M.bind (noEx (compLoop elt test tgt li.1 li.2 li.2.length 0 acc (compEnv k free ρ))) λ_=>pure acc) f =
  M.bind (iterOf C P v) λli h=>M.bind (noEx (compLoop elt test tgt li.1 li.2 li.2.length 0 h.length (compEnv k free ρ))) (λ_=>f h.length) (h ++ [.list []]):=λv=>by
  funext h
  rw [bind_assoc2]
  congr 1
  funext li h2
  exact bind_assoc2 (noEx (compLoop elt test tgt li.1 li.2 li.2.length 0 h2.length (compEnv k free ρ))) (λ_=>pure h2.length) f (h2 ++ [.list []])
 exact(bind_assoc2 it _ f H).trans (congrArg (λg=>M.bind it g H) (funext e1))
theorem noEx_ex {α:Type}{x:M α}{H':Hp}{G:Prop} (h:noEx x H= .ex H'):G:=by
 unfold noEx at h
 cases e:x H with
 | ok a h'=>rw [e] at h;injection h
 | ex h'=>rw [e] at h;injection h
 | no=>rw [e] at h;injection h
theorem comp_run {xe:X}{fs:List X}{tg:NT}{free:List (Nat × Nat)}{elt target iter:Expr}{ifs:List Expr}{scope:Scope}{pos:Pos}{use:Option (Value->Sem Unit)}{γ δ:Type}{R:(Str->Option Value)->Phi->Nws->γ->δ->Prop}{Q₀:δ->Shared->Prop}{Q:Value->Shared->Prop}{f:Nat->M γ}
 {g₁ g:Gd}{φ₁ φ₃:Phi}{news₁ news₃:Nws}{s₁ s₃:Shared}{I D:Addr}{l:Option Nat}{items:List V}{acc:Nat}{H₃:Hp}
 (st:Stat5 Θ) (hK:SndK Θ n)
 (hx: ∀cl C,EnvOK (compEnvC scope cl C env) C->SndE Θ n (compEnvC scope cl C env) xe elt)
 (hfs: ∀cl C,EnvOK (compEnvC scope cl C env) C->SndTs Θ n (compEnvC scope cl C env) fs ifs)
 (ht: ∀cl C,EnvOK (compEnvC scope cl C env) C->SndN Θ (compEnvC scope cl C env) tg target)
 (hkind:scope.kind= .function) (hnd:(scope.names.map (·.1)).Nodup) (hnc: ∀x∈scope.names,x.2≠ .cell) (hcl: ∀x∈scope.names,x.2= .free->(env.cells.lookup x.1).isSome=true)
 (hfree:FreeOK env.scope.names scope.names free) (room:Room A n Θ.P.hd) (eo:EnvOK env L) (lr:LRel Θ env.scope.names env.cells m φ news ρ) (hh:A.handled=none) (os:s₃.os=s₁.os) (x:Ext φ news φ₁ news₁) (x₃:Ext φ₁ news₁ φ₃ news₃) (T:TurnG s₁.gens s₃.gens g₁ g) (S:Stt Θ A.frames g L m φ₃ H₃ news₃ s₃.heap)
 (ri:ItRel Θ φ₃ news₃ I l items 0) (hfr: ∀q∈news₁,kept q.2=true->q.1≠I) (hacc:φ₃[acc]? =some (D,D))
 (hp:PstX Θ A.frames g₁ L m R Q₀ E φ₁ news₁ s₁ (M.bind (noEx (compLoop (ev (run n Θ.P) Θ.P xe) (evTests (run n Θ.P) Θ.P fs) tg l items items.length 0 acc (compEnv scope.names.length free ρ))) (λ_=>f acc) H₃))
 (fin: ∀ {g:Gd}{C D:Addr}{mC:Str->Option Value}{φ':Phi}{news':Nws}{H':Hp}{acc:Nat}{s':Shared},CEnd Θ A L C D m mC φ φ' news news' H' acc g s'->PstX Θ A.frames g L m R Q₀ E φ' news' s' (f acc H')->compPost Θ.M A E use Q (.ref D) C (.ok .next) s') :
 wpAny Θ.M A (newFunctionEnv scope env.globals (clOf env.cells scope.names) [] env.qual none .none (some env)) (λcenv s₄=>codeAny Θ.M A (.compStart (.ListComp elt [⟨target,iter,ifs,0⟩] scope pos) 0 (.ref I) (.ref D) {cenv with scope:=relabel scope env}) (compPost Θ.M A E use Q (.ref D) cenv.locals) s₄) E s₃:=by
 refine wpAny_newFunctionEnv hnc (λy hy=>nomatch hy) (λh₄ hns hsb=> ?_) hkind
 refine(ground S).elim λgd h=>h.elim λbase h=>h.elim λouter G=> ?_
 have old: ∀b o,s₃.heap.get? b=some o->h₄.get? b=some o:=λb o e=>hsb.extBut b o (Nat.ne_of_lt (Heap.lt_size e)) (Heap.get?_push_of_some _ e)
 have hLC:L < s₃.heap.objs.size:=S.fr.ns.elim λoL h=>h.elim λ_ h=>h.elim λ_ h=>Heap.lt_size h.1
 have eoC:=compEnv_ok eo hkind hnd hnc hcl hLC
 have S₄:Stt Θ A.frames gd s₃.heap.objs.size (λx=>([]:List (Str × Value)).reverse.lookup x) φ₃ H₃ news₃ h₄:=
  ⟨⟨hns,λb o e=>old b o (G.sub b o e),Nat.le_of_eq G.size⟩,λq hq=>⟨old _ _ (S.nw q hq).1,Nat.ne_of_lt (Heap.lt_size (S.nw q hq).1),G.hid q hq⟩,S.nd,S.rep, .comp G.below G.frames G.fs G.top,S.df⟩
 have turns:=comp_turns (R:=compPost Θ.M A E use Q (.ref D) s₃.heap.objs.size) (sb:=s₃) (newsb:=dropI news₃ I) (φb:=φ₃) (gb:=gd) (s:={s₃ with heap:=h₄}) (pos:=pos) (scope:=scope) (iter:=iter)
  st hK (hx _ _ eoC) (ht _ _ eoC) (hfs _ _ eoC) room eoC (λhf=>absurd (Nat.lt_of_lt_of_le hLC (eo.fr _ hf)) (Nat.lt_irrefl _)) hh (λq hq _=>of_decide_eq_true (List.mem_filter.mp hq).2) hacc items.length
  ⟨0,gd,λx=>([]:List (Str × Value)).reverse.lookup x,φ₃,H₃,news₃,compEnv scope.names.length free ρ⟩ ⟨rfl,rfl, .rfl,S₄,compEnv_lr lr hfree λl p e=>x₃.pre _ _ (x.pre _ _ e),ri,⟨λ_ _ e=>e,λq hq _=>(List.mem_filter.mp hq).1⟩⟩ ?_
 ·exact codeAny_compStart_list turns (pyIter_self S₄.nw ri turns)
 ·unfold M.bind at hp
  cases hr:noEx (compLoop (ev (run n Θ.P) Θ.P xe) (evTests (run n Θ.P) Θ.P fs) tg l items items.length 0 acc (compEnv scope.names.length free ρ)) H₃ with
  | no=>rw [hr] at hp;exact hp.elim
  | ex H₅=>exact noEx_ex hr
  | ok u H₅=>
   rw [hr] at hp
   intro gn' dr' g' m' φ' news' h' tk' _ T' S' x' _
   refine(G.back T'.t S'.fr S'.nw).elim λg₀ B=> ?_
   have X:Ext φ₁ news₁ φ' news':=⟨λk q e=>x'.pre _ _ (x₃.pre _ _ e),λq hq hk=>x'.frz q (mem_dropI (x₃.frz q hq hk) (hfr q hq hk)) hk⟩
   have Cn:g₀.h.get? s₃.heap.objs.size=none:=by
    cases q:g₀.h.get? s₃.heap.objs.size with
    | none=>rfl
    | some o=>exact absurd (Nat.lt_of_lt_of_le (Heap.lt_size q) (Nat.le_trans B.2.1.above (Nat.le_of_lt hLC))) (Nat.lt_irrefl _)
   exact fin (s':=⟨h',gn',dr',tk',s₃.os⟩) ⟨⟨B.2.1,B.2.2,S'.nd,S'.rep,S.gb.turn B.1,S'.df⟩,S'.fr.ns,Nat.ne_of_gt hLC,Cn,λq hq=>(S'.nw q hq).2.1,x.trans X,x'.pre _ _ hacc⟩
    (os▸PstX.ext (h':=h') (tk:=tk') (dr:=dr') hp (T.trans ⟨B.1,T'.k,T'.b⟩) X)
theorem comp_core {xe xi:X}{fs:List X}{tg:NT}{free:List (Nat × Nat)}{elt target iter:Expr}{ifs:List Expr}{scope:Scope}{pos cpos:Pos}{use:Option (Value->Sem Unit)}{γ δ:Type}{R:(Str->Option Value)->Phi->Nws->γ->δ->Prop}{Q₀:δ->Shared->Prop}{Q:Value->Shared->Prop}{f:Nat->M γ}
 (st:Stat5 Θ) (hK:SndK Θ n) (hit:SndE Θ n env xi iter)
 (hx: ∀cl C,EnvOK (compEnvC scope cl C env) C->SndE Θ n (compEnvC scope cl C env) xe elt)
 (hfs: ∀cl C,EnvOK (compEnvC scope cl C env) C->SndTs Θ n (compEnvC scope cl C env) fs ifs)
 (ht: ∀cl C,EnvOK (compEnvC scope cl C env) C->SndN Θ (compEnvC scope cl C env) tg target)
 (hs: ∀x,foldedSetIterable iter env x=pure x) (hkind:scope.kind= .function) (hnd:(scope.names.map (·.1)).Nodup) (hnc: ∀x∈scope.names,x.2≠ .cell)
 (hfree:FreeOK env.scope.names scope.names free) (hall: ∀x∈scope.names,x.2= .free->∃k,(x.1,k)∈env.scope.names/\(k= .cell\/k= .free)) (a:At Θ A n env h₀ L m φ H news s ρ)
 (hp:PstX Θ A.frames h₀ L m R Q₀ E φ news s (M.bind (compM (run n Θ.P) Θ.P (ev (run n Θ.P) Θ.P xi ρ) (ev (run n Θ.P) Θ.P xe) (evTests (run n Θ.P) Θ.P fs) scope.names.length free tg ρ) f H))
 (fin: ∀ {g:Gd}{C D:Addr}{mC:Str->Option Value}{φ':Phi}{news':Nws}{H':Hp}{acc:Nat}{s':Shared},CEnd Θ A L C D m mC φ φ' news news' H' acc g s'->PstX Θ A.frames g L m R Q₀ E φ' news' s' (f acc H')->compPost Θ.M A E use Q (.ref D) C (.ok .next) s') :
 wpAny Θ.M A (comprehension (.ListComp elt [⟨target,iter,ifs,0⟩] scope pos) scope env cpos (newList []) false (eval iter env) use) Q E s:=by
 have hcl: ∀x∈scope.names,x.2= .free->(env.cells.lookup x.1).isSome=true:=λx hx hf=>(hall x hx hf).elim λk h=>a.eo.cl (x.1,k) h.1 h.2
 have hloc: ∀x∈scope.names,x.2= .local->scope.names.lookup x.1=some .local:=λx hx hl=>lookup_nodup hnd (show(x.1,NameKind.local)∈scope.names from hl▸hx)
 rw [compM_bind] at hp
 refine wpAny_comprehension_free (use:=use) rfl hs (closure_of hcl) hkind hloc (hit a (PstX.bind hp λ {gn₁ dr₁} g₁ φ₁ news₁ h₁ tk v p H₁ T₁ S₁ x₁ r₁ hp=>iter_hd (Gr:=PstX Θ A.frames h₀ L m R Q₀ E φ news s) id hp λhd=> ?_))
 refine wp_iter st hK.toC a.room.c S₁ r₁ (PstX.bind (PstX.ext (h':=h₁) (tk:=tk) (dr:=dr₁) hp T₁ x₁) λ {gn₂ dr₂} g₂ φ₂ news₂ h₂ tk₂ li it H₂ T₂ S₂ x₂ r₂ hp=>r₂.elim λI r₂=> ?_)
 rw [r₂.1]
 exact newList_K S₂.fr S₂.nw (λD h₃ F₃ N₃ lt=>S₂.allocList F₃ N₃ lt (vs:= []) .nil (Nat.zero_le _) λS₃ x₃ rD=>
  comp_run (s₁:=⟨h₁,gn₁,dr₁,tk,s.os⟩) (s₃:=⟨h₃,gn₂,dr₂,tk₂,s.os⟩) (acc:=H₂.length) st hK hx hfs ht hkind hnd hnc hcl hfree a.room a.eo a.lr (a.room.hand hd) rfl x₁ (x₂.trans x₃) T₂ S₃ (r₂.2.1.more (λq hq=> .tail _ hq) (ext_snoc φ₂ _)) r₂.2.2 (by rw [<- S₂.rep.len];exact nth_append_self φ₂ _) hp fin) (Nat.zero_le _)
theorem snd_comp {xe xi:X}{fs:List X}{tg:NT}{free:List (Nat × Nat)}{elt target iter:Expr}{ifs:List Expr}{scope:Scope}{pos:Pos}
 (st:Stat5 Θ) (hK:SndK Θ n) (hit:SndE Θ n env xi iter)
 (hx: ∀cl C,EnvOK (compEnvC scope cl C env) C->SndE Θ n (compEnvC scope cl C env) xe elt)
 (hfs: ∀cl C,EnvOK (compEnvC scope cl C env) C->SndTs Θ n (compEnvC scope cl C env) fs ifs)
 (ht: ∀cl C,EnvOK (compEnvC scope cl C env) C->SndN Θ (compEnvC scope cl C env) tg target)
 (hs: ∀x,foldedSetIterable iter env x=pure x) (hkind:scope.kind= .function) (hnd:(scope.names.map (·.1)).Nodup) (hnc: ∀x∈scope.names,x.2≠ .cell)
 (hfree:FreeOK env.scope.names scope.names free) (hall: ∀x∈scope.names,x.2= .free->∃k,(x.1,k)∈env.scope.names/\(k= .cell\/k= .free)) :
 SndE Θ n env (.comp scope.names.length free xe tg xi fs) (.ListComp elt [⟨target,iter,ifs,0⟩] scope pos):=λ {A h₀ L m φ H news s ρ Q E} a hp=>by
 have hp:Pst Θ A.frames h₀ L m (RV Θ) Q E φ news s (M.bind (compM (run n Θ.P) Θ.P (ev (run n Θ.P) Θ.P xi ρ) (ev (run n Θ.P) Θ.P xe) (evTests (run n Θ.P) Θ.P fs) scope.names.length free tg ρ) (λacc=>pure (.ref acc)) H):=hp
 rw [eval_ListComp]
 show wpAny Θ.M A (comprehension (.ListComp elt [⟨target,iter,ifs,0⟩] scope pos) scope env _ (newList []) false (eval iter env) none) Q E s
 exact comp_core (f:=λacc=>pure (.ref acc)) (R:=λm' φ' news' a b=>m'=m/\RV Θ φ' news' a b) (Q₀:=Q) (use:=none) st hK hit hx hfs ht hs hkind hnd hnc hfree hall a (Pst.toX hp) λ {g C D mC φ' news' H' acc s'} c hp=>
  ⟨mC,c.ns,λh'' hs=>hp g m φ' news' h'' s'.toks (.ref D) .rfl (c.st.letGo hs c.ne c.hn c.off) (.refl _ _) ⟨rfl, .ref c.res⟩⟩
end
noncomputable def FlRel (Θ:Cx) (φ:Phi) (news:Nws) (f:Fl) (fl:Flow):Prop:=match f with
 | .nx=>fl= .next
 | .rt v=>∃p,fl= .ret p/\RI Θ φ news v p
noncomputable abbrev RF (Θ:Cx) (env:Env):(Str->Option Value)->Phi->Nws->Fl × Lo->Flow->Prop:=λm φ news x fl=>FlRel Θ φ news x.1 fl/\LRel Θ env.scope.names env.cells m φ news x.2
noncomputable abbrev hP (P:Prog):Prog:={P with hd:=true}
noncomputable def SndS (Θ:Cx) (n:Nat) (env:Env) (x:S) (st:Stmt):Prop:=
 ∀ {A:Around}{h₀:Gd}{L:Addr}{m:Str->Option Value}{φ:Phi}{H:Hp}{news:Nws}{s:Shared}{ρ:Lo}{Q:Flow->Shared->Prop}{E:Value->Shared->Prop},
  At Θ A n env h₀ L m φ H news s ρ->PstM Θ A.frames h₀ L (RF Θ env) Q E φ news s (exe (run n Θ.P) (run n (hP Θ.P)) Θ.P x ρ H)->wpAny Θ.M A (exec st env) Q E s
noncomputable def SndSs (Θ:Cx) (n:Nat) (env:Env) (xs:List S) (sts:List Stmt):Prop:=
 ∀ {A:Around}{h₀:Gd}{L:Addr}{m:Str->Option Value}{φ:Phi}{H:Hp}{news:Nws}{s:Shared}{ρ:Lo}{Q:Flow->Shared->Prop}{E:Value->Shared->Prop},
  At Θ A n env h₀ L m φ H news s ρ->PstM Θ A.frames h₀ L (RF Θ env) Q E φ news s (exs (run n Θ.P) (run n (hP Θ.P)) Θ.P xs ρ H)->wpAny Θ.M A (execs sts env) Q E s
section
variable {Θ:Cx}{n:Nat}{env:Env}
theorem At.step' {A:Around}{h₀ g:Gd}{L:Addr}{m m':Str->Option Value}{φ:Phi}{H:Hp}{news:Nws}{s:Shared}{ρ ρ':Lo} (a:At Θ A n env h₀ L m φ H news s ρ) {φ':Phi}{H':Hp}{news':Nws}{s':Shared} (S:Stt Θ A.frames g L m' φ' H' news' s'.heap)
 (lr:LRel Θ env.scope.names env.cells m' φ' news' ρ'):At Θ A n env g L m' φ' H' news' s' ρ':=⟨a.room,a.eo,a.own,S,lr⟩
theorem sndss_nil:SndSs Θ n env [] []:=λ {A h₀ L m φ H news s ρ Q E} a hp=>wpAny_execs_nil (hp _ m _ _ _ s.toks .next .rfl a.st (.refl _ _) ⟨rfl,a.lr⟩)
theorem sndss_cons {x:S}{xs:List S}{st:Stmt}{sts:List Stmt} (hx:SndS Θ n env x st) (hxs:SndSs Θ n env xs sts):SndSs Θ n env (x :: xs) (st :: sts):=λ {A h₀ L m φ H news s ρ Q E} a hp=>
 wpAny_execs_cons (hx a (PstM.bind hp λg₁ m₁ φ₁ news₁ h₁ tk f fl H₁ T₁ S₁ x₁ r₁ hp=>by
  obtain⟨f,ρ'⟩:=f
  cases f with
  | nx=>rw [show fl= .next from r₁.1];exact hxs (a.step' S₁ r₁.2) hp
  | rt v=>exact(show∃p,fl= .ret p/\RI Θ φ₁ news₁ v p from r₁.1).elim λp h=>by rw [h.1];exact hp _ m₁ _ _ _ tk _ .rfl S₁ (.refl _ _) ⟨⟨p,rfl,h.2⟩,r₁.2⟩))
theorem snds_bad {st:Stmt}:SndS Θ n env .bad st:=λ {A h₀ L m φ H news s ρ Q E} a hp=>hp.elim
theorem snds_ret {x:X}{e:Expr}{pos:Pos} (hx:SndE Θ n env x e):SndS Θ n env (.ret x) (.Return (some e) pos):=λ {A h₀ L m φ H news s ρ Q E} a hp=>
 wpAny_Return_some (hx a (Pst.bindM hp λg₁ φ₁ news₁ h₁ tk v p H₁ T₁ S₁ x₁ r₁ hp=>hp _ m _ _ _ tk _ .rfl S₁ (.refl _ _) ⟨⟨p,rfl, .inl r₁⟩,a.lr.mono x₁⟩))
theorem snds_if {x:X}{e:Expr}{as bs:List S}{sa sb:List Stmt}{pos:Pos} (hx:SndT Θ n env x e) (ha:SndSs Θ n env as sa) (hb:SndSs Θ n env bs sb):SndS Θ n env (.ite x as bs) (.If e sa sb pos):=λ {A h₀ L m φ H news s ρ Q E} a hp=>
 wpAny_If (hx a (Pst.bindM (R:=RE) hp λg₁ φ₁ news₁ h₁ tk c p H₁ T₁ S₁ x₁ r₁ hp=>by
  obtain rfl:c=p:=r₁
  cases c with
  | true=>exact ha (a.step' S₁ (a.lr.mono x₁)) hp
  | false=>exact hb (a.step' S₁ (a.lr.mono x₁)) hp))
theorem snds_expr {x:X}{e:Expr}{pos:Pos} (hi:interactive env=false) (hs:swapsWith e none pos.line env=pure false) (hx:SndE Θ n env x e):SndS Θ n env (.expr x) (.Expr e pos):=λ {A h₀ L m φ H news s ρ Q E} a hp=>by
 rw [exec_Expr env e pos hi hs]
 exact wpAny_bind (wpAny_standAt (wpAny_bind (hx a (Pst.bindM hp λg₁ φ₁ news₁ h₁ tk v p H₁ T₁ S₁ x₁ r₁ hp=>wpAny_dropValue (hp _ m _ _ _ tk .next .rfl S₁ (.refl _ _) ⟨rfl,a.lr.mono x₁⟩)))))
theorem exec_Assign1 {t e:Expr}{pos:Pos} (hs:swapsWith e (some t) pos.line env=pure false) (hw:swappedStores [t] e env=pure none) (hst:isStar t=false):exec (.Assign [t] e pos) env=(do standAt pos;let v <- eval e env;assignAll v [assign t env];pure .next:Sem Flow):=by
 show (do
  standAt pos
  if <- swapsWith e (some t) pos.line env then do
   evalThenUse e env λv=>assignAll v ((assignEach [t] env).map (·.2))
   pure .next
  else do
   let v <- eval e env
   assignStores env v (<- swappedStores [t] e env) ((assignEach [t] env).map (·.2)):Sem Flow)=_
 rw [hs,hw]
 have:assignEach [t] env= [(false,assign t env)]:=by cases t <;> first | rfl | exact Bool.noConfusion hst
 rw [this]
 simp only [pure_bind,Bool.false_eq_true,if_false]
 rfl
theorem snds_assign {g:T}{x:X}{t e:Expr}{pos:Pos} (hs:swapsWith e (some t) pos.line env=pure false) (hw:swappedStores [t] e env=pure none) (hst:isStar t=false) (hx:SndE Θ n env x e) (hg:SndG Θ n env g t):SndS Θ n env (.assign g x) (.Assign [t] e pos):=λ {A h₀ L m φ H news s ρ Q E} a hp=>by
 rw [exec_Assign1 hs hw hst]
 refine wpAny_bind (wpAny_standAt (wpAny_bind (hx a (Pst.bindM hp λg₁ φ₁ news₁ h₁ tk v p H₁ T₁ S₁ x₁ r₁ hp=>wpAny_bind ?_))))
 show wpAny Θ.M A (assign t env p) _ E _
 exact hg (a.step' S₁ (a.lr.mono x₁)) r₁ (PstM.bind hp λg₂ m₂ φ₂ news₂ h₂ tk₂ ρ' _ H₂ T₂ S₂ x₂ lr₂ hp=>wpAny_pure (hp _ m₂ _ _ _ tk₂ .next .rfl S₂ (.refl _ _) ⟨rfl,lr₂⟩))
end
section
variable {Θ:Cx}{n:Nat}{env:Env}{A:Around}{h₀:Gd}{h h':Heap}{L:Addr}{m:Str->Option Value}{φ φ':Phi}{H:Hp}{news news':Nws}{s:Shared}{ρ:Lo}{E:Value->Shared->Prop}
theorem exec_Unpack {ts:List Expr}{k:Nat}{tp:Pos}{e:Expr}{pos:Pos}{sw:Option (List Str)} (hs:swapsWith e (some (.Tuple ts k tp)) pos.line env=pure false) (hw:swappedStores [.Tuple ts k tp] e env=pure sw) :
 exec (.Assign [.Tuple ts k tp] e pos) env=(do standAt pos;let v <- eval e env;assignStores env v sw [assign (.Tuple ts k tp) env]:Sem Flow):=by
 show (do
  standAt pos
  if <- swapsWith e (some (.Tuple ts k tp)) pos.line env then do
   evalThenUse e env λv=>assignAll v ((assignEach [.Tuple ts k tp] env).map (·.2))
   pure .next
  else do
   let v <- eval e env
   assignStores env v (<- swappedStores [.Tuple ts k tp] e env) ((assignEach [.Tuple ts k tp] env).map (·.2)):Sem Flow)=_
 rw [hs,hw]
 simp only [pure_bind,Bool.false_eq_true,if_false]
 rfl
theorem snds_swap {i j:Nat}{y z:Str}{x:X}{ts:List Expr}{k:Nat}{tp:Pos}{e:Expr}{pos:Pos} (hs:swapsWith e (some (.Tuple ts k tp)) pos.line env=pure false) (hw:swappedStores [.Tuple ts k tp] e env=pure (some [y,z])) (hx:SndE Θ n env x e)
 (hi:idxIn y env.scope.names=some i) (hy:env.scope.names.lookup y=some .local) (hj:idxIn z env.scope.names=some j) (hz:env.scope.names.lookup z=some .local) (hij:i≠j) :
 SndS Θ n env (.unpack [i,j] x) (.Assign [.Tuple ts k tp] e pos):=λ {A h₀ L m φ H news s ρ Q E} a hp=>PstM.ite' hp λhhd hp=>by
 have hh:A.handled=none:=a.room.hand (Bool.eq_false_iff.mpr hhd)
 rw [exec_Unpack hs hw]
 refine wpAny_bind (wpAny_standAt (wpAny_bind (hx a (Pst.bindM hp λ {gn₁ dr₁} g₁ φ₁ news₁ h₁ tk v p H₁ T₁ S₁ x₁ r₁ hp=>PstM.ofO hp λvs hv hp=>r₁.tupI (C:=λp=>wpAny Θ.M A (assignStores env p (some [y,z]) [assign (.Tuple ts k tp) env]) Q E ⟨h₁,gn₁,dr₁,tk,s.os⟩) hv λad its c hm hr=> ?_))))
 rcases vs with _ | ⟨v1,_ | ⟨v2,_ | ⟨_,_⟩⟩⟩
 ·exact hp.elim
 ·exact hp.elim
 ·have hp:PstM Θ A.frames g₁ L (RF Θ env) Q E φ₁ news₁ ⟨h₁,gn₁,dr₁,tk,s.os⟩ (.ok (.nx, {ρ with loc:=(ρ.loc.set i (some v1)).set j (some v2) }) H₁):=hp
  obtain⟨p1,_,e1,r1,hr⟩:=hr.cons_inv
  obtain⟨p2,_,rfl,r2,hr⟩:=hr.cons_inv
  obtain rfl:=hr.nil_inv
  have hsz:its.size=2:=congrArg List.length e1
  unfold assignStores
  dsimp only
  rw [show [y,z].length=its.size from hsz.symm]
  refine wpAny_bind (wpAny_rule (wpAny_bind (wpAny_unpackItems_tuple hh ⟨_,S₁.nw.get hm,rfl,_,rfl⟩ λh' hse=> ?_)))
  have S':=S₁.extBut hse
  rw [e1]
  show wpAny Θ.M A (do (do holding _ (bindName env z p2);(do holding _ (bindName env y p1);assignInOrder [] []));pure .next) Q E _
  refine wpAny_bind (wpAny_bind (wpAny_holding (wp_stLoc a.eo S' (a.lr.mono x₁) hj hz r2 λm₂ h₂ tk₂ S₂ lr₂=>wpAny_bind (wpAny_holding (wp_stLoc a.eo S₂ lr₂ hi hy r1 λm₃ h₃ tk₃ S₃ lr₃=>wpAny_pure (wpAny_pure ?_))))))
  have e:(ρ.loc.set j (some v2)).set i (some v1)=(ρ.loc.set i (some v1)).set j (some v2):=List.set_comm _ _ (Ne.symm hij)
  exact hp _ m₃ _ _ _ tk₃ .next .rfl S₃ (.refl _ _) ⟨rfl,(show LRel Θ env.scope.names env.cells m₃ φ₁ news₁ {ρ with loc:=(ρ.loc.set j (some v2)).set i (some v1) } from lr₃) |> λh=>by rw [e] at h;exact h⟩
 ·exact hp.elim
end
section
variable {Θ:Cx}{n:Nat}{env:Env}{A:Around}{h₀:Gd}{h h':Heap}{L:Addr}{m:Str->Option Value}{φ φ':Phi}{H:Hp}{news news':Nws}{s:Shared}{ρ:Lo}{E:Value->Shared->Prop}
theorem for_turns {target:Expr}{body:List Stmt}{ss:List S}{tg:NT}{Q:Flow->Shared->Prop}{Er:Value->Shared->Prop}{I:Addr}{l:Option Nat}{items:List V}{gb:Gd}{φb:Phi}{newsb:Nws}{sb:Shared}
 (hx:SndSs Θ n env ss body) (ht:SndN Θ env tg target) (room:Room A n Θ.P.hd) (eo:EnvOK env L) (own:env.frame=some L->∃outer,A.frames=some (env :: outer)) (hh:A.handled=none)
 (hI: ∀q∈newsb,kept q.2=true->q.1≠I) (k:Nat) (d:LD) (li:LI Θ A env L I l items gb φb newsb sb k d s)
 (hp:PstM Θ A.frames gb L (RF Θ env) Q (λ_ _=>False) φb newsb sb (noEx (forLoop (λ σ=>exs (run n Θ.P) (run n (hP Θ.P)) Θ.P ss σ) tg l items k d.i d.σ) d.H)) :
  codeAny Θ.M A (.forLoop target (.ref I) body [] env) (λr s'=>match r with | .ok f=>Q f s' | .error e=>Er e s') s:=by
 refine codeAny_forLoop_any (λk s'=>∃d,LI Θ A env L I l items gb φb newsb sb k d s'/\
  PstM Θ A.frames gb L (RF Θ env) Q (λ_ _=>False) φb newsb sb (noEx (forLoop (λ σ=>exs (run n Θ.P) (run n (hP Θ.P)) Θ.P ss σ) tg l items k d.i d.σ) d.H)) (λk s h=> ?_) k ⟨d,li,hp⟩
 clear hp li
 refine h.elim λd h=>h.elim λli hp=> ?_
 clear h
 cases k with
 | zero=>
  have hi:d.i=items.length:=(Nat.zero_add _).symm.trans li.ki
  have hp:PstM Θ A.frames gb L (RF Θ env) Q (λ_ _=>False) φb newsb sb (noEx (M.bind (still l items) λ_=>pure (.nx,d.σ)) d.H):=hp
  rcases still_or l items d.H with e | e
  ·refine wp_end hh li.st (hi▸li.ri) e λnews' h' S' X hy=>wpAny_execs_nil ?_
   unfold noEx M.bind at hp
   rw [e] at hp
   exact li.os▸hp d.g d.m d.φ news' h' s.toks .next li.tg S' (li.xb.next hI hy) ⟨rfl,li.lr.mono0 X⟩
  ·unfold noEx M.bind at hp;rw [e] at hp;exact hp.elim
 | succ k=>
  refine PstM.cur hp λv hv hp=>wp_next li.st li.ri hv λnews' h' tk' p S' X hy ri' rv=> ?_
  have xb':=li.xb.next hI hy
  refine ht hh eo S' (li.lr.mono0 X) rv ri' (PstM.bindB hp λg₁ m₁ φ₁ news₁ h₁ tk₁ σ₁ _ H₁ T₁ S₁ x₁ lr₁ hp=>hx ⟨room,eo,own,S₁,lr₁⟩ (PstM.bindB hp λg₂ m₂ φ₂ news₂ h₂ tk₂ fr fl H₂ T₂ S₂ x₂ r₂ hp=> ?_))
  obtain⟨f,σ₂⟩:=fr
  have xa:=x₁.trans x₂
  cases f with
  | nx=>
   rw [show fl= .next from r₂.1]
   exact⟨k,Nat.lt_succ_self _,⟨d.i + 1,g₂,m₂,φ₂,H₂,news₂,σ₂⟩,li.next xb' ri' rfl (T₁.trans T₂) S₂ r₂.2 xa,hp⟩
  | rt v=>
   refine(show∃p,fl= .ret p/\RI Θ φ₂ news₂ v p from r₂.1).elim λp e=> ?_
   rw [e.1]
   exact li.os▸hp g₂ m₂ φ₂ news₂ h₂ tk₂ _ (li.tg.trans (T₁.trans T₂)) S₂ (xb'.trans xa) ⟨⟨p,rfl,e.2⟩,r₂.2⟩
theorem PstX.noE {α β:Type}{R:(Str->Option Value)->Phi->Nws->α->β->Prop}{Q:β->Shared->Prop}{E':Value->Shared->Prop}{x:M α} (hp:PstX Θ A.frames h₀ L m R Q E φ news s (noEx x H)):PstM Θ A.frames h₀ L R Q E' φ news s (noEx x H):=by
 cases e:noEx x H with
 | ok a H'=>rw [e] at hp;exact hp
 | ex H'=>exact noEx_ex e
 | no=>rw [e] at hp;exact hp.elim
theorem Pst.weak {α β:Type}{R R':Phi->Nws->α->β->Prop}{Q:β->Shared->Prop}{r:Res α} (hp:Pst Θ A.frames h₀ L m R Q E φ news s r) (k: ∀ {φ' news' a b},R' φ' news' a b->R φ' news' a b):Pst Θ A.frames h₀ L m R' Q E φ news s r:=by
 cases r with
 | ok a H'=>exact λ_ _ g φ' news' h' tk b T S x r=>hp g φ' news' h' tk b T S x (k r)
 | ex H'=>exact hp
 | no=>exact hp
theorem snds_for {x:X}{ss:List S}{tg:NT}{target iter:Expr}{body:List Stmt}{pos:Pos} (st:Stat5 Θ) (hK:SndK Θ n) (hs: ∀x,foldedSetIterable iter env x=pure x)
 (hx:SndE Θ n env x iter) (ht:SndN Θ env tg target) (hss:SndSs Θ n env ss body):SndS Θ n env (.for_ tg x ss) (.For target iter body [] pos):=λ {A h₀ L m φ H news s ρ Q E} a hp=>by
 have hp:PstX Θ A.frames h₀ L m (RF Θ env) Q E φ news s (M.bind (ev (run n Θ.P) Θ.P x ρ) (λv=>M.bind (iterOf (run n Θ.P) Θ.P v) λli=>noEx (forLoop (λ σ=>exs (run n Θ.P) (run n (hP Θ.P)) Θ.P ss σ) tg li.1 li.2 li.2.length 0 ρ)) H):=PstM.toX hp
 refine wpAny_For (hx a (PstX.bind hp λ {gn₁ dr₁} g₁ φ₁ news₁ h₁ tk v p H₁ T₁ S₁ x₁ r₁ hp=>iter_hd (Gr:=PstX Θ A.frames h₀ L m (RF Θ env) Q E φ news s) id hp λhd=>
  wp_iter st hK.toC a.room.c S₁ r₁ (PstX.bind (PstX.ext (h':=h₁) (tk:=tk) (dr:=dr₁) hp T₁ x₁) λ {gn₂ dr₂} g₂ φ₂ news₂ h₂ tk₂ li it H₂ T₂ S₂ x₂ r₂ hp=>r₂.elim λI r₂=> ?_))) hs
 rw [r₂.1]
 exact for_turns (sb:=⟨h₁,gn₁,dr₁,tk,s.os⟩) (s:=⟨h₂,gn₂,dr₂,tk₂,s.os⟩) hss ht a.room a.eo a.own (a.room.hand hd) r₂.2.2 li.2.length ⟨0,g₂,m,φ₂,H₂,news₂,ρ⟩ ⟨rfl,rfl,T₂,S₂,a.lr.mono (x₁.trans x₂),r₂.2.1,x₂⟩ (PstX.noE hp)
noncomputable def gIt (C:CallT) (P:Prog) (vs:List V) (us:List (Str × V)):M Nat:=match us with
 | _ :: _=>stuck
 | [] =>match vs with
  | []=>stuck
  | v :: r=>match r with
   | []=>openIt C P v
   | _ :: _=>stuck
theorem gIt_rel {C:CallT}{P:Prog}{vs:List V}{us:List (Str × V)}{ps:List Value}{qs:List (Str × Value)}{R:Phi->Nws->Nat->Value->Prop}{Q:Value->Shared->Prop}{G:List Value->List (Str × Value)->Prop}
 (hp:Pst Θ A.frames h₀ L m R Q E φ news s (gIt C P vs us H)) (rv:VRels Θ.τ φ news vs ps) (rk:KRel Θ φ news us qs) (k: ∀v p,VRel Θ.τ φ news v p->Pst Θ A.frames h₀ L m R Q E φ news s (openIt C P v H)->G [p] []):G ps qs:=by
 cases us with
 | cons _ _=>exact hp.elim
 | nil=>
  obtain rfl:=krel_nil rk
  cases vs with
  | nil=>exact hp.elim
  | cons v r=>cases r with
   | cons _ _=>exact hp.elim
   | nil=>exact rv.cons_inv.elim λp h=>h.elim λr h=>h.1▸h.2.2.nil_inv▸k v p h.2.1 hp
theorem bind_evs1 {C:CallT}{P:Prog}{x:X}{γ:Type}{f:List V->M γ}:M.bind (evs C P [x] ρ) f H=M.bind (ev C P x ρ) (λv=>f [v]) H:=
 bind_assoc2 (ev C P x ρ) (λv=>M.bind (evs C P [] ρ) λvs=>pure (v :: vs)) f H
theorem call_iter {v:V}{p:Value}{Q:Value->Shared->Prop} (st:Stat5 Θ) (hC:SndC Θ n) (r:Room A n Θ.P.hd) (S:Stt Θ A.frames h₀ L m φ H news s.heap) (rv:VRel Θ.τ φ news v p)
 (hp:Pst Θ A.frames h₀ L m (RIt Θ []) Q E φ news s (openIt (run n Θ.P) Θ.P v H)):wpAny Θ.M A (call (.builtin "iter") [p]) Q E s:=by
 refine PySem.Calls.call_function_entry (by decide +kernel) (by decide +kernel) kdk_entry_iter (kdk_args_iter _) ?_
 unfold Builtin.«iter»
 refine wpAny_bind (m:=someArgs "iter" 1 2 _) (wpAny_of_eq (a:= [p]) (by first | rfl | kernel_rfl!) ?_)
 show wpAny _ _ (pyIter p >>= _) _ _ _
 have hp:Pst Θ A.frames h₀ L m (RIt Θ news) Q E φ news s (openIt (run n Θ.P) Θ.P v H):=Pst.weak hp λh=>h.elim λi h=>h.elim λpa h=>⟨i,pa,h.1,h.2.1,h.2.2.1,h.2.2.2.1,λ_ hq=>(List.not_mem_nil hq).elim⟩
 refine Pst.ofO hp λl hl _=> ?_
 obtain rfl:=vRef_eq hl
 refine wpAny_bind (wp_open (A:=A.in1) (h₀:=h₀) (L:=L) (m:=m) (φ:=φ) (H:=H) (news:=news) st hC r.in1 S rv ?_)
 exact Pst.mono hp λb s' q=>wpAny_pure ⟨_,rfl,q⟩
theorem snds_retIter {x:X}{e:Expr}{f:Str}{fp cp pos:Pos} (st:Stat5 Θ) (hK:SndK Θ n) (hf:SndE Θ n env (.glob (.bi .iter)) (.Name f fp)) (hst:isStar e=false) (hx:SndE Θ n env x e) :
 SndS Θ n env (.retIter x) (.Return (some (.Call (.Name f fp) [e] [] cp)) pos):=λ {A h₀ L m φ H news s ρ Q E} a hp=>by
 refine wpAny_Return_some ?_
 show wpAny Θ.M A (do callWith cp (<- eval (.Name f fp) env) [] (backTo cp (starEach [e] env)) (backToKw cp (keywordEach [] env))) _ E s
 refine wpAny_bind (hf a λgn' dr' g' φ' news' h' tk b T' S' x' r'=> ?_)
 have r':b= .builtin "iter" :=r'.inv
 rw [r']
 have hp:PstM Θ A.frames g' L (RF Θ env) Q E φ' news' ⟨h',gn',dr',tk,s.os⟩ (M.bind (ev (run n Θ.P) Θ.P x ρ) (λv=>M.bind (openIt (run n Θ.P) Θ.P v) λk=>pure (.rt (.it k),ρ)) H):=PstM.ext hp T' x'
 have hq:Pst Θ A.frames g' L m (RIt Θ []) (λv=>Q (.ret v)) E φ' news' ⟨h',gn',dr',tk,s.os⟩ (M.bind (ev (run n Θ.P) Θ.P x ρ) (openIt (run n Θ.P) Θ.P) H) :=
  Pst.bindM (R':=RF Θ env) (f:=λk=>(pure (.rt (.it k),ρ):M (Fl × Lo))) ((bind_assoc2 (ev (run n Θ.P) Θ.P x ρ) (openIt (run n Θ.P) Θ.P) _ H).symm▸hp) λg₁ φ₁ news₁ h₁ tk₁ k p H₁ T₁ S₁ x₁ r₁ hp=>r₁.elim λi h=>h.elim λpa h=>h.1▸hp _ m _ _ _ tk₁ _ .rfl S₁ (.refl _ _) ⟨⟨_,rfl, .inr ⟨k,i,pa,rfl,rfl,h.2.1,h.2.2.1,h.2.2.2.1⟩⟩,(a.lr.mono x').mono x₁⟩
 refine wp_args (R:=RIt Θ []) (kn:= []) (ks:= []) (xs:= [x]) (g:=gIt (run n Θ.P) Θ.P) (by rw [List.all_cons,hst];rfl) rfl (snds_cons hst hx snds_nil) sndk_nil (λS'' x''=>⟨.machine, .inr (.inl rfl),Looks.of_pure rfl⟩) (a.step S' x') (show Pst Θ A.frames g' L m (RIt Θ []) (λv=>Q (.ret v)) E φ' news' ⟨h',gn',dr',tk,s.os⟩ (M.bind (evs (run n Θ.P) Θ.P [x] ρ) (λvs=>M.bind (evs (run n Θ.P) Θ.P [] ρ) λus=>gIt (run n Θ.P) Θ.P vs (([]:List Str).zip us)) H) from bind_evs1▸hq) ?_
 intro g₂ φ₂ H₂ news₂ h₂ gn₂ dr₂ tk₂ vs us ps qs S₂ x₂ rv rk hp
 refine gIt_rel (G:=λps qs=>wpAny Θ.M A (call (.builtin "iter") ps qs) (λv=>Q (.ret v)) E _) hp rv rk λv p r hp=> ?_
 exact call_iter st hK.toC a.room S₂ r hp
theorem wp_augOp {op:Operator}{v w:V}{p q:Value}{Q:Value->Shared->Prop} (S:Stt Θ A.frames h₀ L m φ H news s.heap) (rv:VRel Θ.τ φ news v p) (rw_:VRel Θ.τ φ news w q)
 (hp:Pst Θ A.frames h₀ L m (RV Θ) Q E φ news s (augOp op v w H)):wpAny Θ.M A (inplaceOp op p q) Q E s:=
 Pst.ite hp λho hp=>ho▸Pst.int2 (C:=λp q=>wpAny Θ.M A (inplaceOp .Add p q) Q E s) rv rw_ hp λi j t u _ _ hp=>AutoIntOps.iadd_0 (hp _ _ _ _ _ _ .rfl S (.refl _ _) (.int _ _))
theorem snds_augSub {xo xi x:X}{op:Operator}{o i e:Expr}{ip pos:Pos} (st:Stat5 Θ) (hC:SndC Θ n) (ho:SndE Θ n env xo o) (hi:SndE Θ n env xi i) (hx:SndE Θ n env x e) (hs:isSlice i=false) :
 SndS Θ n env (.augSub xo xi op x) (.AugAssign (.Subscript o i ip) op e pos):=λ {A h₀ L m φ H news s ρ Q E} a hp=>by
 refine wpAny_AugAssign_Subscript_any (ho a (Pst.bindM hp λg₁ φ₁ news₁ h₁ tk₁ ov op' H₁ T₁ S₁ x₁ r₁ hp=> ?_)) (λov iv new=>by cases i <;> first | rfl | exact Bool.noConfusion hs)
 refine hi (a.step S₁ x₁) (Pst.bindM hp λg₂ φ₂ news₂ h₂ tk₂ iv ip' H₂ T₂ S₂ x₂ r₂ hp=> ?_)
 refine wp_getD S₂ (r₁.mono x₂) r₂ (Pst.bindM hp λg₃ φ₃ news₃ h₃ tk₃ av ap H₃ T₃ S₃ x₃ r₃ hp=> ?_)
 refine hx (((a.step S₁ x₁).step S₂ x₂).step S₃ x₃) (Pst.bindM hp λg₄ φ₄ news₄ h₄ tk₄ bv bp H₄ T₄ S₄ x₄ r₄ hp=> ?_)
 refine wp_augOp S₄ (r₃.mono x₄) r₄ (Pst.bindM hp λg₅ φ₅ news₅ h₅ tk₅ cv cp H₅ T₅ S₅ x₅ r₅ hp=> ?_)
 have xx:=(x₃.trans x₄).trans x₅
 exact wp_setItem st.toStat2 hC a.room S₅ ((r₁.mono x₂).mono xx) (r₂.mono xx) r₅ (Pst.bindM hp λg₆ φ₆ news₆ h₆ tk₆ _ _ H₆ T₆ S₆ x₆ _ hp=>
  hp _ m _ _ _ tk₆ .next .rfl S₆ (.refl _ _) ⟨rfl,a.lr.mono ((x₁.trans x₂).trans (xx.trans x₆))⟩)
end
section
variable {Θ:Cx}{n:Nat}{env:Env}{A:Around}{h₀:Gd}{h h':Heap}{L:Addr}{m:Str->Option Value}{φ φ':Phi}{H:Hp}{news news':Nws}{s:Shared}{ρ:Lo}{E:Value->Shared->Prop}
theorem snds_compAssign {iy:Nat}{y:Str}{py spos:Pos}{xe xi:X}{fs:List X}{tg:NT}{free:List (Nat × Nat)}{elt target iter:Expr}{ifs:List Expr}{scope:Scope}{pos:Pos}
 (st:Stat5 Θ) (hK:SndK Θ n) (hit:SndE Θ n env xi iter)
 (hx: ∀cl C,EnvOK (compEnvC scope cl C env) C->SndE Θ n (compEnvC scope cl C env) xe elt)
 (hfs: ∀cl C,EnvOK (compEnvC scope cl C env) C->SndTs Θ n (compEnvC scope cl C env) fs ifs)
 (ht: ∀cl C,EnvOK (compEnvC scope cl C env) C->SndN Θ (compEnvC scope cl C env) tg target)
 (hs: ∀x,foldedSetIterable iter env x=pure x) (hkind:scope.kind= .function) (hnd:(scope.names.map (·.1)).Nodup) (hnc: ∀x∈scope.names,x.2≠ .cell)
 (hfree:FreeOK env.scope.names scope.names free) (hall: ∀x∈scope.names,x.2= .free->∃k,(x.1,k)∈env.scope.names/\(k= .cell\/k= .free))
 (hsw:swapsWith (.ListComp elt [⟨target,iter,ifs,0⟩] scope pos) (some (.Name y py)) spos.line env=pure true) (hiy:idxIn y env.scope.names=some iy) (hky:env.scope.names.lookup y=some .local) :
 SndS Θ n env (.assign (.n iy) (.comp scope.names.length free xe tg xi fs)) (.Assign [.Name y py] (.ListComp elt [⟨target,iter,ifs,0⟩] scope pos) spos):=λ {A h₀ L m φ H news s ρ Q E} a hp=>by
 rw [exec_Assign_Name_used _ _ _ _ hsw]
 refine wpAny_bind (wpAny_standAt (wpAny_bind ?_))
 show wpAny Θ.M A (do let _ <- comprehension (.ListComp elt [⟨target,iter,ifs,0⟩] scope pos) scope env _ (newList []) false (eval iter env) (some (assign (.Name y py) env))) _ _ s
 have hp:PstM Θ A.frames h₀ L (RF Θ env) Q E φ news s (M.bind (M.bind (compM (run n Θ.P) Θ.P (ev (run n Θ.P) Θ.P xi ρ) (ev (run n Θ.P) Θ.P xe) (evTests (run n Θ.P) Θ.P fs) scope.names.length free tg ρ) λacc=>pure (V.ref acc)) (λv=>M.bind (asg (run n Θ.P) Θ.P (.n iy) v ρ) λ ρ=>pure (Fl.nx,ρ)) H):=hp
 rw [bind_assoc2] at hp
 refine wpAny_bind (wpAny_mono (comp_core (Q:=λ_ s'=>Q .next s') st hK hit hx hfs ht hs hkind hnd hnc hfree hall a (PstM.toX hp) λ {g C D mC φ' news' H' acc s'} c hp=> ?_) (λ_ s' hq=>wpAny_pure (wpAny_pure hq)) λ_ _ e=>e)
 show wpAny Θ.M A (assign (.Name y py) env (.ref D)) _ E _
 rw [PySem.assign_Name]
 refine wpAny_bind (wpAny_standAt (wpAny_bindName (wpAny_storeName_local hky (by rw [a.eo.loc];exact c.st.fr.ns) (λh₆ hn hs₆=> ?_) (plainFn a.eo))))
 rw [a.eo.loc] at hn hs₆
 exact⟨mC,c.ns.sameBut hs₆ c.ne,λh'' hs=>hp _ _ φ' news' h'' _ .next .rfl (Stt.letGo ⟨c.st.fr.set hn hs₆,c.st.nw.set hs₆,c.st.nd,c.st.rep,c.st.gb,c.st.df⟩ hs c.ne c.hn c.off) (.refl _ _) ⟨rfl,(a.lr.mono c.ext).setLoc a.eo.nd (idx_of_lookup hiy hky) (.ref c.res)⟩⟩
end
noncomputable abbrev Cx.hdl (Θ:Cx):Cx:={Θ with P:=hP Θ.P}
section
variable {Θ:Cx}{n:Nat}{env:Env}{A:Around}{h₀:Gd}{h h':Heap}{L:Addr}{m:Str->Option Value}{φ φ':Phi}{H:Hp}{news news':Nws}{s:Shared}{ρ:Lo}{E:Value->Shared->Prop}{l:Option (List Env)}
theorem TopIn.toH {h:Heap} (t:TopIn Θ h):TopIn Θ.hdl h:=⟨t.k,t.scr,t.top⟩
theorem TopIn.ofH {h:Heap} (t:TopIn Θ.hdl h):TopIn Θ h:=⟨t.k,t.scr,t.top⟩
theorem GB.toH (b:GB Θ l h₀ L):GB Θ.hdl l h₀ L:=by
 cases b with
 | own B h1 h2 h3 h4 t=>exact .own B h1 h2 h3 h4 t.toH
 | comp B h1 h4 t=>exact .comp B h1 h4 t.toH
theorem GB.ofH (b:GB Θ.hdl l h₀ L):GB Θ l h₀ L:=by
 cases b with
 | own B h1 h2 h3 h4 t=>exact .own B h1 h2 h3 h4 t.ofH
 | comp B h1 h4 t=>exact .comp B h1 h4 t.ofH
theorem Stt.toH (S:Stt Θ l h₀ L m φ H news h):Stt Θ.hdl l h₀ L m φ H news h:=⟨S.fr,S.nw,S.nd,S.rep,S.gb.toH,⟨S.df.d,S.df.p⟩⟩
theorem Stt.ofH (S:Stt Θ.hdl l h₀ L m φ H news h):Stt Θ l h₀ L m φ H news h:=⟨S.fr,S.nw,S.nd,S.rep,S.gb.ofH,⟨S.df.d,S.df.p⟩⟩
theorem LRel.toH {names:List (Str × NameKind)}{cells:List (Str × Addr)} (r:LRel Θ names cells m φ news ρ):LRel Θ.hdl names cells m φ news ρ:=⟨r.loc,r.cel⟩
theorem LRel.ofH {names:List (Str × NameKind)}{cells:List (Str × Addr)} (r:LRel Θ.hdl names cells m φ news ρ):LRel Θ names cells m φ news ρ:=⟨r.loc,r.cel⟩
theorem FlRel.ofH {f:Fl}{fl:Flow} (r:FlRel Θ.hdl φ news f fl):FlRel Θ φ news f fl:=by
 cases f with
 | nx=>exact r
 | rt h=>exact r
theorem wp_caught {e:Addr}{b₀:Stmt}{suite:List Stmt}{np pos:Pos}{Q:Flow->Shared->Prop} (S:Stt Θ A.frames h₀ L m φ H news h) (hx:Heap.NewExc h s.heap e "TypeError") (hf:env.frame=some L) (hown: ∃outer,A.frames=some (env :: outer)) (eo:EnvOK env L)
 (ht:nsIn Θ.K mainGlobals "TypeError" =some none) (hk:env.scope.names.lookup ("TypeError" :Str)=some .globalImplicit)
 (k: ∀g h',Turn h₀ g->Stt Θ A.frames g L m φ H news h'->wpAny Θ.M (A.mark (some (.ref e))) (execs (b₀ :: suite) env) Q (λ_ _=>False) {s with heap:=h'}) :
 wpAny Θ.M A (noteFrame (.ref e) env) (λ_ s₂=>wpAny Θ.M A (setFlight (.ref e) none) (λ_ s₃=>wpAny Θ.M A (handleBy (.ref e) env [.ExceptHandler (some (.Name "TypeError" np)) none (b₀ :: suite) pos]) Q E s₃) E s₂) E s:=by
 obtain⟨outer,hA⟩:=hown
 have F:=S.fr
 have N:=S.nw
 have gb:=S.gb
 cases gb with
 | @comp A₀ base outer' B h1 h4 t=>
  exfalso
  rw [hA] at h1;cases h1
  obtain⟨_,o,ho,_⟩:=B.frames.mem (List.mem_filterMap.mpr ⟨env, .head _,hf⟩)
  rw [kts_self F] at ho;cases ho
 | @own A₀ base outer' env' B h1 h2 h3 h4 t=>
  rw [hA] at h1;cases h1
  have K':=pushX B F hf eo.kind
  have hin: ∀env₁∈(env :: outer),∀b,env₁.frame=some b->b∈(env :: outer).filterMap (·.frame):=λenv₁ he b hb=>List.mem_filterMap.mpr ⟨env₁,he,hb⟩
  have hcons:(env :: outer).filterMap (·.frame)=L :: outer.filterMap (·.frame):=by rw [List.filterMap_cons,hf]
  have sg: ∀b o,h.get? b=some o->b∉(env :: outer).filterMap (·.frame)->(hideAll h ((env :: outer).filterMap (·.frame))).get? b=some o:=λb o q nm=>hideAll_get _ q nm
  have hl: ∀q∈news,(hideAll h ((env :: outer).filterMap (·.frame))).get? q.1=some q.2/\h₀.h.get? q.1=none:=λq hq=>by
   refine⟨hideAll_get _ (N q hq).1 λhm=> ?_,(N q hq).2.2⟩
   rw [hcons] at hm
   rcases List.mem_cons.mp hm with z | z
   ·exact(N q hq).2.1 z
   ·obtain⟨_,o,ho,_⟩:=B.frames.mem z
    rw [(N q hq).2.2] at ho;cases ho
  obtain⟨ob,tp,he,hcls,hd⟩:=hx.there
  have hen:(hideAll h ((env :: outer).filterMap (·.frame))).get? e=none:=by
   cases q:(hideAll h ((env :: outer).filterMap (·.frame))).get? e with
   | none=>rfl
   | some o=>have:=of_hideAll _ q;rw [hx.new] at this;cases this
  have hL:(hideAll h ((env :: outer).filterMap (·.frame))).get? L=none:=hideAll_none _ (by rw [hcons];exact .head _)
  unfold noteFrame
  simp only [hf]
  refine wpAny_bind (wpAny_field he hd (x:= .none) rfl ?_)
  rw [if_neg (by decide)]
  refine wpAny_entryW (base:=hideAll h ((env :: outer).filterMap (·.frame))) (a0:=tp) hA ((funFrames_hide K'.frames hin).of_keeps λb o hb _=>⟨o,hx.keeps b o hb,rfl⟩) hf he (λb o hb=>hx.keeps b o (of_hideAll _ hb)) hen hd (by show 1 < 6;decide) rfl λh₄ hN=> ?_
  obtain⟨k1,k2,k3,k4⟩:=hN
  have held:Heap.HeldW (hideAll h ((env :: outer).filterMap (·.frame))) (env :: outer) e ob.cls tp L h₄:=⟨k1,hen,k2,k3⟩
  have sm₄:h.UpToSlots h₄:=(Heap.UpToSlots.of_keeps hx.keeps).trans k4
  refine wpAny_landsW held λh₅ fl₅ sm₅'=> ?_
  have sm₅:=sm₄.trans sm₅'
  have grd: ∀h₅,Heap.FlyingW (hideAll h ((env :: outer).filterMap (·.frame))) (env :: outer) e ob.cls tp h₅->h.UpToSlots h₅->∃g,Turn h₀ g/\Stt Θ A.frames g L m φ H news h₅:=λh₅ fl₅ sm₅=>by
   obtain⟨g₅,T₅,F₅,K₅⟩:=kts_ground (name:=Str.empty) (scope:=env.scope) (a:=0) (cd:= .none) B F (B:=hideAll h ((env :: outer).filterMap (·.frame))) (λb o q nm=>sg b o q (by rw [hcons];exact nm)) fl₅.1 sm₅
   have Tn:Turn h₀ ⟨g₅,h₀.fs⟩:=⟨rfl,by rw [h4];exact T₅⟩
   exact⟨⟨g₅,h₀.fs⟩,Tn,F₅,λq hq=>⟨fl₅.1 _ _ (hl q hq).1,(λz=>by have:=(hl q hq).1;rw [z,hL] at this;cases this),T₅.none_ _ (hl q hq).2⟩,S.nd,S.rep,S.gb.turn Tn,S.df⟩
  obtain⟨g₅,T₅,S₅⟩:=grd h₅ fl₅ sm₅
  obtain⟨ob',hob,hobc⟩:=fl₅.there
  refine wpAny_handleBy_builtin (X:= "TypeError") (T:= "TypeError") (b:=true) PySem.F.isExc_TypeError PySem.F.notTuple_TypeError (by rw [isSubtype_type];kernel_rfl) ?_
  have X:=S₅.top.k
  have Tp:=S₅.top.top
  refine PySem.Calls.Name_function_global eo.kind hk ?_ (by decide)
  refine PySem.Calls.loadGlobal_builtin (by rw [eo.glob];exact Tp.g.keeps S₅.fr.keep) (mg_none_of X Tp.g ht) (by rw [eo.blt];exact Tp.b.keeps S₅.fr.keep) ((Tp.builtins "TypeError" (by decide)).trans PyProof.Rows.Boot.«TypeError») ?_
  refine⟨rfl,⟨ob',hob,by rw [hobc,hcls]⟩, ?_⟩
  simp only [if_true]
  refine lands_againW fl₅ λh₆ fl₆ sm₆=> ?_
  obtain⟨g₆,T₆,S₆⟩:=grd h₆ fl₆ (sm₅.trans sm₆)
  exact wpAny_noRaise (k g₆ h₆ T₆ S₆)
theorem snds_try {xa xb xc:X}{hs:List S}{a b d:Expr}{pb pi pd np hpos pos:Pos}{b₀:Stmt}{suite:List Stmt} (st:Stat5 Θ) (hC:SndC Θ n) (hfr:env.frame=some env.locals)
 (ht:nsIn Θ.K mainGlobals "TypeError" =some none) (hk:env.scope.names.lookup ("TypeError" :Str)=some .globalImplicit)
 (ha:SndT Θ n env xa a) (hb:SndE Θ n env xb b) (hd:SndE Θ n env xc d) (hh:SndSs Θ.hdl n env hs (b₀ :: suite)) :
 SndS Θ n env (.tryTE xa xb xc hs) (.Try [.If a [.Return (some b) pb] [] pi, .Return (some d) pd] [.ExceptHandler (some (.Name "TypeError" np)) none (b₀ :: suite) hpos] [] [] pos):=λ {A h₀ L m φ H news s ρ Q E} at_ hp=>by
 have hf:env.frame=some L:=by rw [hfr,at_.eo.loc]
 refine wpAny_Try_except ?_
 have hin:Pst Θ A.frames h₀ L m (RV Θ) (λv=>Q (.ret v)) (λe s₁=>wpAny Θ.M A (noteFrame e env) (λ_ s₂=>wpAny Θ.M A (setFlight e none) (λ_ s₃=>wpAny Θ.M A (handleBy e env [.ExceptHandler (some (.Name "TypeError" np)) none (b₀ :: suite) hpos]) Q E s₃) E s₂) E s₁) φ news s
  (M.bind (evT (run n Θ.P) Θ.P xa ρ) (λc=>if c=true then ev (run n Θ.P) Θ.P xb ρ else ev (run n Θ.P) Θ.P xc ρ) H):=by
  have hp:PstM Θ A.frames h₀ L (RF Θ env) Q E φ news s (match (M.bind (evT (run n Θ.P) Θ.P xa ρ) (λc=>if c=true then ev (run n Θ.P) Θ.P xb ρ else ev (run n Θ.P) Θ.P xc ρ) H) with
   | .ok v h'=> .ok (.rt v,ρ) h'
   | .ex h'=>noEx (exs (run n (hP Θ.P)) (run n (hP Θ.P)) (hP Θ.P) hs ρ) h'
   | .no=> .no):=hp
  cases hr:(M.bind (evT (run n Θ.P) Θ.P xa ρ) (λc=>if c=true then ev (run n Θ.P) Θ.P xb ρ else ev (run n Θ.P) Θ.P xc ρ) H) with
  | no=>rw [hr] at hp;exact hp
  | ok v H'=>
   rw [hr] at hp
   exact λ_ _ g φ' news' h' tk p T S x r=>hp g m φ' news' h' tk (.ret p) T S x ⟨⟨p,rfl, .inl r⟩,at_.lr.mono x⟩
  | ex H'=>
   rw [hr] at hp
   intro gn dr g φ' news' h₁ h' tk e T S x ne
   refine wp_caught S ne hf (at_.own hf) at_.eo ht hk λg₂ h₂ T₂ S₂=> ?_
   refine hh (A:=A.mark (some (.ref e))) (h₀:=g₂) (L:=L) (m:=m) (φ:=φ') (H:=H') (news:=news') (ρ:=ρ) ⟨⟨at_.room.depth,at_.room.units,λh=>Bool.noConfusion h⟩,at_.eo,at_.own,S₂.toH,(at_.lr.mono x).toH⟩ ?_
   have hp:PstM Θ A.frames h₀ L (RF Θ env) Q E φ news s (noEx (exs (run n (hP Θ.P)) (run n (hP Θ.P)) (hP Θ.P) hs ρ) H'):=hp
   unfold noEx at hp
   show PstM Θ.hdl _ g₂ L (RF Θ.hdl env) Q _ φ' news' _ (exs (run n (hP Θ.P)) (run n (hP Θ.P)) (hP Θ.P) hs ρ H')
   cases hq:exs (run n (hP Θ.P)) (run n (hP Θ.P)) (hP Θ.P) hs ρ H' with
   | no=>rw [hq] at hp;exact hp.elim
   | ex H''=>rw [hq] at hp;exact hp.elim
   | ok r H''=>
    rw [hq] at hp
    exact λ_ _ g₃ m' φ'' news'' h'' tk'' fl T₃ S₃ x₃ r₃=>hp g₃ m' φ'' news'' h'' tk'' fl ((T.trans ⟨T₂, .rfl,id⟩).trans T₃) S₃.ofH (x.trans x₃) ⟨r₃.1.ofH,r₃.2.ofH⟩
 refine wpAny_execs_cons (wpAny_If (ha at_ (Pst.bind (R:=RE) hin λg₁ φ₁ news₁ h₁ tk c p H₁ T₁ S₁ x₁ r₁ hp=> ?_)))
 obtain rfl:c=p:=r₁
 cases c with
 | true=>exact wpAny_execs_cons (wpAny_Return_some (hb (at_.step S₁ x₁) (Pst.mono hp λv s' hv=>hv)))
 | false=>exact wpAny_execs_nil (wpAny_execs_cons (wpAny_Return_some (hd (at_.step S₁ x₁) (Pst.mono hp λv s' hv=>hv))))
end
theorem lookup_append {α:Type} (x:Str) (l r:List (Str × α)):(l ++ r).lookup x=match l.lookup x with | some v=>some v | none=>r.lookup x:=by
 induction l with
 | nil=>rfl
 | cons p l ih=>
  rw [List.cons_append,List.lookup_cons,List.lookup_cons]
  cases h:x == p.1 with
  | true=>rfl
  | false=>exact ih
theorem lookup_none_of {α:Type}{x:Str}{l:List (Str × α)} (h:x∉l.map (·.1)):l.lookup x=none:=by
 induction l with
 | nil=>rfl
 | cons p l ih=>
  rw [List.lookup_cons,beq_false_of_ne (show x≠p.1 from λe=>h (e▸List.mem_cons_self))]
  exact ih λhm=>h (.tail _ hm)
theorem zip_lookup {α:Type}{ps:List Str}{x:Str}: ∀ {vs:List α}{j:Nat},ps.Nodup->ps[j]? =some x->(ps.zip vs).lookup x=vs[j]? :=by
 induction ps with
 | nil=>intro vs j _ h;exact nos h
 | cons p ps ih=>
  intro vs j nd h
  cases vs with
  | nil=>rfl
  | cons v vs=>
   rw [List.nodup_cons] at nd
   rw [List.zip_cons_cons,List.lookup_cons]
   cases j with
   | zero=>rw [show x=p from(Option.some.inj h).symm,beq_self_eq_true];rfl
   | succ j=>
    rw [beq_false_of_ne (show x≠p from λe=>nd.1 (e▸List.mem_of_getElem? h))]
    exact ih nd.2 h
theorem zip_lookup_none {α:Type}{ps:List Str}{vs:List α}{x:Str} (h:x∉ps.take vs.length):(ps.zip vs).lookup x=none:=
 lookup_none_of λhm=>(List.mem_map.mp hm).elim λq hq=>(List.mem_iff_getElem?.mp hq.1).elim λi hi=>
  have e:=List.getElem?_zip_eq_some.mp (show(ps.zip vs)[i]? =some (q.1,q.2) from hi)
  h (hq.2▸List.mem_of_getElem? (i:=i) (by rw [List.getElem?_take,if_pos (List.getElem?_eq_some_iff.mp e.2).1];exact e.1))
structure PlainDef (fd:FuncData) (ps:List Str):Prop where
 po:fd.params.posonlyargs= []
 ar:fd.params.args.map (·.arg)=ps
 va:fd.params.vararg=none
 ko:fd.params.kwonlyargs= []
 ka:fd.params.kwarg=none
 nd:ps.Nodup
noncomputable def argAt (ps:List Str) (ds pos:List Value) (kw:List (Str × Value)) (j:Nat) (x:Str):Option Value:=
 match pos[j]? with
 | some v=>some v
 | none=>match kw.lookup x with
  | some v=>some v
  | none=>if ps.length<=j + ds.length then ds[j + ds.length - ps.length]? else none
noncomputable def addD (slots:List (Str × Value)) (p:Str × Value):List (Str × Value):=if(slots.lookup p.1).isNone then slots ++ [p] else slots
theorem lookup_one {x y:Str}{v:Value}{r:List (Str × Value)}:List.lookup x ((y,v) :: r)=if x=y then some v else List.lookup x r:=by
 rw [List.lookup_cons]
 by_cases e:x=y
 ·rw [if_pos e,e,beq_self_eq_true]
 ·rw [if_neg e,beq_false_of_ne e]
theorem addD_lookup (x:Str) (l:List (Str × Value)): ∀ (slots:List (Str × Value)),(l.map (·.1)).Nodup->(l.foldl addD slots).lookup x=match slots.lookup x with | some v=>some v | none=>l.lookup x:=by
 induction l with
 | nil=>intro slots _;rw [List.foldl_nil];cases slots.lookup x <;> rfl
 | cons p r ih=>
  intro slots nd
  rw [List.map_cons,List.nodup_cons] at nd
  rw [List.foldl_cons,ih _ nd.2]
  unfold addD
  by_cases hs:(slots.lookup p.1).isNone=true
  ·rw [if_pos hs,lookup_append]
   cases slots.lookup x with
   | some w=>rfl
   | none=>
    dsimp only
    rw [show [p]= [(p.1,p.2)] from rfl,show p :: r=(p.1,p.2) :: r from rfl,lookup_one,lookup_one]
    by_cases e:x=p.1
    ·rw [if_pos e,if_pos e]
    ·rw [if_neg e,if_neg e];rfl
  ·rw [if_neg hs]
   cases h:slots.lookup x with
   | some w=>rfl
   | none=>
    dsimp only
    rw [show p :: r=(p.1,p.2) :: r from rfl,lookup_one,if_neg λe=>hs (by rw [<- e,h];rfl)]
theorem wp_if {M:Model}{A:Around}{α:Type}{Q:α->Shared->Prop}{E:Value->Shared->Prop}{s:Shared}{c:Prop} [Decidable c] {a b:Sem α} (h:c) (k:wpAny M A a Q E s):wpAny M A (if c then a else b) Q E s:=by rw [if_pos h];exact k
theorem wp_ifn {M:Model}{A:Around}{α:Type}{Q:α->Shared->Prop}{E:Value->Shared->Prop}{s:Shared}{c:Prop} [Decidable c] {a b:Sem α} (h: ¬c) (k:wpAny M A b Q E s):wpAny M A (if c then a else b) Q E s:=by rw [if_neg h];exact k
theorem slots_at {ps:List Str}{pos:List Value}{kw:List (Str × Value)} (nd:ps.Nodup) {j:Nat}{x:Str} (hx:ps[j]? =some x):(ps.zip pos ++ kw).lookup x=match pos[j]? with | some v=>some v | none=>kw.lookup x:=by
 rw [lookup_append,zip_lookup nd hx]
 cases pos[j]? <;> rfl
theorem slot_new {ps:List Str}{pos:List Value}{kw done rest:List (Str × Value)}{x:Str × Value} (nd:ps.Nodup) (hx:x.1∈ps.drop pos.length) (hkn:(kw.map (·.1)).Nodup) (e:kw=done ++ x :: rest):(ps.zip pos ++ done).lookup x.1=none:=by
 rw [lookup_append,zip_lookup_none (λhm=> ?_)]
 ·refine lookup_none_of λhm=> ?_
  rw [e,List.map_append,List.nodup_append] at hkn
  exact hkn.2.2 x.1 hm x.1 (.head _) rfl
 ·rw [<- List.take_append_drop pos.length ps,List.nodup_append] at nd
  exact nd.2.2 x.1 hm x.1 hx rfl
theorem none_missing {ps:List Str}{ds pos:List Value}{kw:List (Str × Value)} (nd:ps.Nodup) (hall: ∀j x,ps[j]? =some x->(argAt ps ds pos kw j x).isSome=true) {k:Nat} (hk:k + ds.length<=ps.length):((ps.take k).filter λn=>((ps.zip pos ++ kw).lookup n).isNone)= []:=by
 rw [List.filter_eq_nil_iff]
 intro x hx hn
 refine(List.mem_iff_getElem?.mp hx).elim λj hj=> ?_
 rw [List.getElem?_take] at hj
 by_cases hlt:j < k
 ·rw [if_pos hlt] at hj
  have h:=hall j x hj
  rw [slots_at nd hj] at hn
  unfold argAt at h
  cases h1:pos[j]? with
  | some v=>rw [h1] at hn;exact Bool.noConfusion hn
  | none=>
   rw [h1] at h hn
   dsimp only at h hn
   cases h2:kw.lookup x with
   | some v=>rw [h2] at hn;exact Bool.noConfusion hn
   | none=>
    rw [h2] at h
    dsimp only at h
    rw [if_neg (Nat.not_le.mpr (Nat.lt_of_lt_of_le (Nat.add_lt_add_right hlt _) hk))] at h
    exact Bool.noConfusion h
 ·rw [if_neg hlt] at hj;exact nos hj
theorem addD_turn {c:List (Str × Value)}{x:Str × Value}:(if(c.lookup x.1).isNone=true then pure (.yield (c ++ [(x.1,x.2)])) else pure (.yield c):Sem (ForInStep (List (Str × Value))))=pure (.yield (addD c x)):=by
 unfold addD
 by_cases h:(c.lookup x.1).isNone=true
 ·rw [if_pos h,if_pos h]
 ·rw [if_neg h,if_neg h]
theorem bindsTo {s:Shared}{fd:FuncData}{ps:List Str}{pos ds:List Value}{kw:List (Str × Value)}{items:Option (Array Value)} (P:PlainDef fd ps) (hpos:pos.length<=ps.length) (hkw: ∀p∈kw,p.1∈ps.drop pos.length) (hkn:(kw.map (·.1)).Nodup)
 (hdef: ∀ (M:Model) (A:Around) (E:Value->Shared->Prop) (Q:Option (Array Value)->Shared->Prop),Q items s->wpAny M A (seqItems? fd.defaults) Q E s) (hit:(items.getD #[]).toList=ds) (hds:ds.length<=ps.length)
 (hall: ∀j x,ps[j]? =some x->(argAt ps ds pos kw j x).isSome=true) :
 BindsTo s fd ⟨pos,kw⟩ (ps.filterMap λn=>((((ps.drop (ps.length - ds.length)).zip ds).foldl addD (ps.zip pos ++ kw)).lookup n).map (n, ·)):=λM A E Q hq=>by
 have hps:fd.params.posonlyargs.map (·.arg) ++ fd.params.args.map (·.arg)=ps:=by rw [P.po];exact P.ar
 have h0:ds.drop (ds.length - ps.length)=ds:=by rw [Nat.sub_eq_zero_of_le hds];rfl
 refine wpAny_bind (m:=forIn kw _ _) (wpAny_forIn_list _ (λrest b s'=>∃done,kw=done ++ rest/\b=(ps.zip pos ++ done,[])/\s'=s) _ (λx rest b s' hI=>hI.elim λdone h=> ?_) (λb s' hI=>hI.elim λdone h=> ?_) _ _ ⟨[],rfl,by rw [List.append_nil];exact congrArg (λl=>(l.zip pos,[])) hps,rfl⟩)
 ·have hx:=hkw x (h.1▸List.mem_append_right _ (.head _))
  refine wp_if ?_ (wp_ifn ?_ (wpAny_pure ⟨done ++ [x], ?_, ?_,h.2.2⟩))
  ·rw [P.ar,List.contains_iff_mem.mpr (List.mem_of_mem_drop hx)];rfl
  ·rw [h.2.1,slot_new P.nd hx hkn h.1];exact nofun
  ·rw [List.append_assoc];exact h.1
  ·rw [h.2.1, <- List.append_assoc]
 ·have hd:kw=done:=h.1.trans (List.append_nil _)
  have hb:b=(ps.zip pos ++ kw,[]):=hd▸h.2.1
  rw [h.2.2]
  refine wpAny_bind (hdef M A E _ (wp_ifn ?_ (wp_ifn ?_ ?_)))
  ·rw [hps,decide_eq_false (Nat.not_lt.mpr hpos)];exact nofun
  ·rw [hps,hit,h0,hb,none_missing P.nd hall (Nat.le_of_eq (Nat.sub_add_cancel hds))];exact nofun
  refine wpAny_bind (m:=forIn _ _ _) (wpAny_of_eq (forIn_pure (g:=addD) _ _ λx _ c=>addD_turn) ?_)
  refine wpAny_bind (m:=forIn _ _ _) (wpAny_of_eq (a:=(_,[])) (by rw [P.ko];rfl) (wp_ifn nofun ?_))
  rw [P.va,P.ka,P.ko,hps,hit,h0,hb]
  exact wpAny_pure ((List.append_nil ps).symm▸hq)
theorem binds_zip {ps:List Str}{ds pos vals:List Value}{kw:List (Str × Value)} (nd:ps.Nodup) (hds:ds.length<=ps.length) (hlen:vals.length=ps.length) (hv: ∀j x,ps[j]? =some x->argAt ps ds pos kw j x=vals[j]?) :
 (ps.filterMap λn=>((((ps.drop (ps.length - ds.length)).zip ds).foldl addD (ps.zip pos ++ kw)).lookup n).map (n, ·))=ps.zip vals:=by
 have ndD:(((ps.drop (ps.length - ds.length)).zip ds).map (·.1)).Nodup:=by
  have:((ps.drop (ps.length - ds.length)).zip ds).map (·.1)=ps.drop (ps.length - ds.length):=List.map_fst_zip (Nat.le_of_eq (by rw [List.length_drop,Nat.sub_sub_self hds]))
  rw [this]
  exact nd.sublist (List.drop_sublist _ _)
 have key : ∀j x,ps[j]? =some x->(((ps.drop (ps.length - ds.length)).zip ds).foldl addD (ps.zip pos ++ kw)).lookup x=vals[j]? :=λj x hx=>by
  rw [addD_lookup x _ _ ndD,lookup_append,zip_lookup nd hx, <- hv j x hx]
  unfold argAt
  cases pos[j]? with
  | some v=>rfl
  | none =>
   dsimp only
   cases kw.lookup x with
   | some v=>rfl
   | none =>
    dsimp only
    by_cases hj:ps.length<=j + ds.length
    ·rw [if_pos hj]
     have hx':(ps.drop (ps.length - ds.length))[j - (ps.length - ds.length)]? =some x:=by
      rw [List.getElem?_drop]
      rw [Nat.add_sub_cancel' (Nat.sub_le_of_le_add hj)]
      exact hx
     rw [zip_lookup (nd.sublist (List.drop_sublist _ _)) hx']
     rw [Nat.sub_sub_right _ hds]
    ·rw [if_neg hj]
     refine lookup_none_of λhm=> ?_
     obtain⟨q,hq,rfl⟩:=List.mem_map.mp hm
     obtain⟨i,hi⟩:=List.mem_iff_getElem?.mp hq
     have h1:=(List.getElem?_zip_eq_some.mp hi).1
     rw [List.getElem?_drop] at h1
     have e:=(List.getElem?_inj (List.getElem?_eq_some_iff.mp h1).1 nd).mp (h1.trans hx.symm)
     exact hj (e▸Nat.le_trans (Nat.le_of_eq (Nat.sub_add_cancel hds).symm) (Nat.add_le_add_right (Nat.le_add_right _ i) _))
 have gen: ∀ (qs:List Str) (ws:List Value),qs.length=ws.length->(∀ (j:Nat) (x:Str),qs[j]? =some x->(((ps.drop (ps.length - ds.length)).zip ds).foldl addD (ps.zip pos ++ kw)).lookup x=ws[j]?)->
  (qs.filterMap λn=>((((ps.drop (ps.length - ds.length)).zip ds).foldl addD (ps.zip pos ++ kw)).lookup n).map (n, ·))=qs.zip ws:=by
  intro qs
  induction qs with
  | nil=>intro ws _ _;rfl
  | cons q qs ih=>
   intro ws hl hw
   cases ws with
   | nil=>exact Nat.noConfusion hl
   | cons w ws=>
    rw [List.filterMap_cons,hw 0 q rfl,List.zip_cons_cons, <- ih ws (Nat.succ.inj hl) λj x hx=>hw (j + 1) x hx]
    rfl
 exact gen ps vals hlen.symm key
structure FnData where
 name:Str
 qual:Str
 params:Arguments
 body:List Stmt
 scope:Scope
 dV:Value
 kV:Value
 doc:Value
 pm:Value
 cdv:Value
 ct:Value
 an:Option Addr
noncomputable abbrev FnData.fd (d:FnData):FuncData:=fnX d.name d.qual d.params d.body d.scope [] d.dV d.kV d.doc d.pm d.an d.cdv d.ct
structure FnOK (Θ:Cx) (f:Fn) (a:Addr) (d:FnData):Prop where
 obj: ∃o,Θ.K.lookup a=some o/\o.data= .func d.fd
 code:codeIn Θ.K d.cdv d.qual=true
 plain:PlainDef d.fd f.params
 co:d.scope.isCoroutine=false
 gen:d.scope.isGenerator=false
 kind:d.scope.kind= .function
 nd:(d.scope.names.map (·.1)).Nodup
 nofree: ∀x∈d.scope.names,x.2≠ .free
 pix: ∀ (j:Nat) (x:Str),f.params[j]? =some x->∃ (i:Nat) (k:NameKind),f.pix[j]? =some i/\d.scope.names[i]? =some (x,k)/\(k= .local\/k= .cell)
 pixl:f.pix.length=f.params.length
 own:f.own=ownOf' 0 d.scope.names
 nsl:f.nsl=d.scope.names.length
 dfl:f.dflt.length<=f.params.length
 dflt:(d.dV= .none/\f.dflt= [])\/∃T o its n,d.dV= .ref T/\Θ.K.lookup T=some o/\o.data= .seq its n/\∀ (φ:Phi) (news:Nws),DF Θ φ news->VRels Θ.τ φ news f.dflt its.toList
theorem bindL_get {kindOf:Str->Option NameKind}{x:Str} (bs:List (Str × Value)): ∀ (m:Str->Option Value),(bs.map (·.1)).Nodup->kindOf x=some .local->bindL kindOf bs m x=match bs.lookup x with | some v=>some v | none=>m x:=by
 induction bs with
 | nil=>intro m _ _;rfl
 | cons p r ih=>
  intro m nd hk
  rw [List.map_cons,List.nodup_cons] at nd
  show bindL kindOf r (if kindOf p.1=some .local then λy=>if y=p.1 then some p.2 else m y else m) x=_
  rw [ih _ nd.2 hk,show p :: r=(p.1,p.2) :: r from rfl,lookup_one]
  by_cases e:x=p.1
  ·rw [if_pos e,e,lookup_none_of nd.1,if_pos (e▸hk)]
   exact if_pos rfl
  ·rw [if_neg e]
   cases r.lookup x with
   | some w=>rfl
   | none=>
    show(if kindOf p.1=some .local then λy=>if y=p.1 then some p.2 else m y else m) x=m x
    by_cases hy:kindOf p.1=some .local
    ·rw [if_pos hy];exact if_neg e
    ·rw [if_neg hy]
theorem bindC_get {kindOf:Str->Option NameKind}{x:Str} (bs:List (Str × Value)): ∀ (m:Str->Option Value),(bs.map (·.1)).Nodup->kindOf x≠some .local->bindC kindOf bs m x=match bs.lookup x with | some v=>some v | none=>m x:=by
 induction bs with
 | nil=>intro m _ _;rfl
 | cons p r ih=>
  intro m nd hk
  rw [List.map_cons,List.nodup_cons] at nd
  show bindC kindOf r (if kindOf p.1=some .local then m else λy=>if y=p.1 then some p.2 else m y) x=_
  rw [ih _ nd.2 hk,show p :: r=(p.1,p.2) :: r from rfl,lookup_one]
  by_cases e:x=p.1
  ·rw [if_pos e,e,lookup_none_of nd.1,if_neg (e▸hk)]
   exact if_pos rfl
  ·rw [if_neg e]
   cases r.lookup x with
   | some w=>rfl
   | none=>
    show(if kindOf p.1=some .local then m else λy=>if y=p.1 then some p.2 else m y) x=m x
    by_cases hy:kindOf p.1=some .local
    ·rw [if_pos hy]
    ·rw [if_neg hy];exact if_neg e
theorem cellsFrom_cons {n:Nat}{x:Str × NameKind}{r:List (Str × NameKind)}{acc:List (Str × Addr)}:cellsFrom n (x :: r) acc=if x.2= .cell then cellsFrom (n + 1) r ((x.1,n) :: acc) else cellsFrom n r acc:=by
 by_cases h:x.2= .cell
 ·rw [if_pos h];exact if_pos (beq_iff_eq.mpr h)
 ·rw [if_neg h];exact if_neg λe=>h (beq_iff_eq.mp e)
theorem cellsFrom_acc {p:Str × Addr} (names:List (Str × NameKind)): ∀ (n:Nat) (acc:List (Str × Addr)),p∈acc->p∈cellsFrom n names acc:=by
 induction names with
 | nil=>intro n acc h;exact h
 | cons x r ih=>
  intro n acc h
  rw [cellsFrom_cons]
  by_cases hk:x.2= .cell
  ·rw [if_pos hk];exact ih _ _ (.tail _ h)
  ·rw [if_neg hk];exact ih _ _ h
theorem cellsAre_mem {cm:Str->Option Value}{cs:List (Str × Addr)}{cells:List (Addr × Obj)} (h:CellsAre cm cs cells): ∀x c,(x,c)∈cs->∃o,(c,o)∈cells/\o.data= .cell (cm x):=by
 induction h with
 | nil=>intro x c h;exact nomatch h
 | cons hd r ih=>
  intro x c h
  rcases List.mem_cons.mp h with h | h
  ·injection h with h1 h2
   exact h1▸h2▸⟨_, .head _,hd⟩
  ·exact(ih x c h).imp λo e=>⟨.tail _ e.1,e.2⟩
theorem own_cells {Θ:Cx}{cm:Str->Option Value}{T:List (Str × Addr)}{cells all nk₀:Nws}{φ₀:Phi}{pv:List (Nat × V)}{full:List (Str × NameKind)}{G:Prop} (hT:CellsAre cm T cells) (hnd:(T.map (·.1)).Nodup) (hall: ∀q∈cells,q∈all)
 (hv: ∀ (i:Nat) (x:Str),full[i]? =some (x,NameKind.cell)->∀v,pv.lookup i=some v->∃y,cm x=some y/\∀ (φ':Phi) (news':Nws),Ext0 φ₀ nk₀ φ' news'->VRel Θ.τ φ' news' v y) (names:List (Str × NameKind)) :
 ∀ (i n:Nat) (acc:List (Str × Addr)) (φ:Phi) (H:Hp) (nk:Nws) (cel:List (Option Nat)),(∀j,names[j]? =full[i + j]?)->cellsFrom n names acc=T->Rep Θ.τ φ H nk->Ext0 φ₀ nk₀ φ nk->(∀q∈nk,q.1 < n)->(∀q∈nk,q∈all)->
  (∀ cel' H' φ',ownCells (ownOf' i names) pv cel H= .ok cel' H'->Rep Θ.τ φ' H' all->(∀ (l:Nat) (p:Addr × Addr),φ[l]? =some p->φ'[l]? =some p)->(∀a,a < n->offPhi φ a->offPhi φ' a)->
   (∀ (idx l:Nat),cel'[idx]? =some (some l)->cel[idx]? =some (some l)\/∃ (x:Str) (c:Addr),full[idx]? =some (x,NameKind.cell)/\φ'[l]? =some (c,c)/\T.lookup x=some c)->G)->G:=by
 induction names with
 | nil=>intro i n acc φ H nk cel hf hc R x0 hlt hsub k;exact k cel H φ rfl (R.more hsub) (λ_ _ e=>e) (λ_ _ h=>h) λ_ _ h=> .inl h
 | cons x r ih=>
  intro i n acc φ H nk cel hf hc R x0 hlt hsub k
  have hf': ∀j,r[j]? =full[i + 1 + j]? :=λj=>(hf (j + 1)).trans (congrArg (λk=>full[k]?) (Nat.add_right_comm i 1 j).symm)
  rw [cellsFrom_cons] at hc
  rw [show ownOf' i (x :: r)=if x.2= .cell then i :: ownOf' (i + 1) r else ownOf' (i + 1) r from rfl] at k
  by_cases hk:x.2= .cell
  ·rw [if_pos hk] at hc k
   have hx:full[i]? =some (x.1, .cell):=(hf 0).symm.trans (congrArg some (Prod.ext rfl hk))
   have hmem:(x.1,n)∈T:=hc▸cellsFrom_acc r (n + 1) ((x.1,n) :: acc) (.head _)
   refine(cellsAre_mem hT x.1 n hmem).elim λo ho=> ?_
   have ne: ∀q∈nk,q.1≠n:=λq hq=>Nat.ne_of_lt (hlt q hq)
   have x1:Ext0 φ₀ nk₀ (φ ++ [(n,n)]) ((n,o) :: nk):=⟨λl p e=>ext_snoc φ _ _ _ (x0.pre l p e),λq hq hz=> .tail _ (x0.frz q hq hz)⟩
   refine ih (i + 1) (n + 1) ((x.1,n) :: acc) (φ ++ [(n,n)]) (H ++ [.cell (pv.lookup i)]) ((n,o) :: nk) (cel.set i (some H.length)) hf' hc
    (R.alloc (o:= .cell (pv.lookup i)) (p:=(n,n)) (λq hq=> .tail _ hq) ne ne ⟨o,_,rfl, .head _,ho.2,λv ev=>(hv i x.1 hx v ev).imp λy hy=>⟨hy.1,hy.2 _ _ x1⟩,frz_cell ho.2⟩) x1
    (λq hq=>(List.mem_cons.mp hq).elim (λe=>e▸Nat.lt_succ_self _) λhq=>Nat.lt_succ_of_lt (hlt q hq))
    (λq hq=>(List.mem_cons.mp hq).elim (λe=>e▸hall _ ho.1) (hsub q)) λcel' H' φ' e1 e2 e3 e4 e5=> ?_
   refine k cel' H' φ' e1 e2 (λl p e=>e3 l p (ext_snoc φ _ _ _ e)) (λa ha hoff=>e4 a (Nat.lt_succ_of_lt ha) (offPhi_snoc hoff (Nat.ne_of_gt ha) (Nat.ne_of_gt ha))) λidx l hl=>(e5 idx l hl).elim (λh=> ?_) .inr
   by_cases e:i=idx
   ·subst e
    have hlt':i < cel.length:=List.length_set (as:=cel)▸(List.getElem?_eq_some_iff.mp h).1
    rw [List.getElem?_set_self hlt'] at h
    injection h with h
    injection h with h
    exact .inr ⟨x.1,n,hx,e3 _ _ (by rw [<- h, <- R.len];exact nth_append_self φ _),PyProof.Rows.lookup_of_mem_nodup hnd hmem⟩
   ·rw [List.getElem?_set_ne e] at h;exact .inl h
  ·rw [if_neg hk] at hc k
   exact ih (i + 1) n acc φ H nk cel hf' hc R x0 hlt hsub k
theorem cellsFrom_nd (names:List (Str × NameKind)): ∀ (n:Nat) (acc:List (Str × Addr)),(names.map (·.1)).Nodup->(acc.map (·.1)).Nodup->(∀x∈names.map (·.1),x∉acc.map (·.1))->((cellsFrom n names acc).map (·.1)).Nodup:=by
 induction names with
 | nil=>intro _ _ _ h _;exact h
 | cons x r ih=>
  intro n acc nd na hd
  rw [List.map_cons,List.nodup_cons] at nd
  rw [cellsFrom_cons]
  by_cases hk:x.2= .cell
  ·rw [if_pos hk]
   refine ih _ _ nd.2 ?_ λy hy hm=> ?_
   ·rw [List.map_cons,List.nodup_cons]
    exact⟨hd x.1 (.head _),na⟩
   ·rw [List.map_cons] at hm
    exact(List.mem_cons.mp hm).elim (λe=>nd.1 (e▸hy)) (hd y (.tail _ hy))
  ·rw [if_neg hk]
   exact ih _ _ nd.2 na λy hy=>hd y (.tail _ hy)
theorem cells_has {x:Str} (names:List (Str × NameKind)): ∀ (n:Nat) (acc:List (Str × Addr)),(x,NameKind.cell)∈names->∃c,(x,c)∈cellsFrom n names acc:=by
 induction names with
 | nil=>intro _ _ h;exact nomatch h
 | cons y r ih=>
  intro n acc h
  rw [cellsFrom_cons]
  rcases List.mem_cons.mp h with h | h
  ·rw [if_pos (h▸rfl)]
   exact⟨n,cellsFrom_acc r _ _ (h▸ .head _)⟩
  ·by_cases hk:y.2= .cell
   ·rw [if_pos hk];exact ih _ _ h
   ·rw [if_neg hk];exact ih _ _ h
theorem cellsAre_addr {cm:Str->Option Value}{cs:List (Str × Addr)}{cells:List (Addr × Obj)} (h:CellsAre cm cs cells):cells.map (·.1)=cs.map (·.2):=by
 induction h with
 | nil=>rfl
 | cons _ _ ih=>rw [List.map_cons,List.map_cons,ih]
theorem krel_lookup {Θ:Cx}{φ:Phi}{news:Nws}{x:Str}{kw:List (Str × V)}: ∀ {kvs:List (Str × Value)},KRel Θ φ news kw kvs->(∀v,kw.lookup x=some v->∃p,kvs.lookup x=some p/\VRel Θ.τ φ news v p)/\(kw.lookup x=none->kvs.lookup x=none):=by
 induction kw with
 | nil=>intro kvs h;rw [List.map_eq_nil_iff.mp h.1.symm];exact⟨λv h=>nos h,λ_=>rfl⟩
 | cons q kw ih=>
  intro kvs h
  cases kvs with
  | nil=>exact absurd h.1 nofun
  | cons p kvs=>
   have h1:=h.1
   rw [List.map_cons,List.map_cons] at h1
   injection h1 with h1 h3
   refine(All2.cons_inv h.2).elim λb e=>e.elim λbs e=> ?_
   have e1:=e.1
   rw [List.map_cons] at e1
   injection e1 with e1 e2
   have ih:=ih ⟨h3,e2▸e.2.2⟩
   rw [List.lookup_cons,List.lookup_cons, <- h1]
   cases x == q.1 with
   | true=>exact⟨λw hw=>⟨_,rfl,Option.some.inj hw▸e1▸e.2.1⟩,λh=>nos h.symm⟩
   | false=>exact ih
section
variable {Θ:Cx}{φ:Phi}{news:Nws}{f:Fn}{args:List V}{kw:List (Str × V)}{vals ds:List Value}{kvs:List (Str × Value)}
theorem arg_rel (ra:VRels Θ.τ φ news args vals) (rk:KRel Θ φ news kw kvs) (rd:VRels Θ.τ φ news f.dflt ds) {j:Nat}{y:Str}{v:V} (hv:bindAt f args kw j y=some v): ∃p,argAt f.params ds vals kvs j y=some p/\VRel Θ.τ φ news v p:=by
 unfold bindAt at hv
 unfold argAt
 cases ha:args[j]? with
 | some w=>
  rw [ha] at hv
  refine(ra.get ha).imp λp h=> ?_
  rw [h.1]
  exact⟨rfl,Option.some.inj hv▸h.2⟩
 | none =>
  rw [ha] at hv
  rw [List.getElem?_eq_none_iff.mpr (ra.length▸List.getElem?_eq_none_iff.mp ha)]
  dsimp only at hv ⊢
  have kl:=krel_lookup (x:=y) rk
  cases hk:kw.lookup y with
  | some w=>
   rw [hk] at hv
   refine(kl.1 _ hk).imp λp h=> ?_
   rw [h.1]
   exact⟨rfl,Option.some.inj hv▸h.2⟩
  | none=>
   rw [hk] at hv
   rw [kl.2 hk]
   dsimp only at hv ⊢
   rw [<- rd.length]
   by_cases hc:f.params.length<=j + f.dflt.length
   ·rw [if_pos hc] at hv ⊢
    exact rd.get hv
   ·rw [if_neg hc] at hv;exact nos hv
theorem bind_rel (ra:VRels Θ.τ φ news args vals) (rk:KRel Θ φ news kw kvs) (rd:VRels Θ.τ φ news f.dflt ds) (ps:List Str) :
 ∀ (j:Nat) (vs:List V),bindFrom f args kw j ps=some vs->∃pvals,VRels Θ.τ φ news vs pvals/\pvals.length=ps.length/\∀ (i:Nat) (x:Str),ps[i]? =some x->argAt f.params ds vals kvs (j + i) x=pvals[i]? :=by
 induction ps with
 | nil=>intro j vs h;exact Option.some.inj h▸⟨[], .nil,rfl,λi x hx=>nos hx⟩
 | cons y ps ih=>
  intro j vs h
  obtain⟨v,hv,h⟩:=Option.bind_eq_some_iff.mp (h:(bindAt f args kw j y).bind _=some vs)
  obtain⟨vs',hvs,h⟩:=Option.map_eq_some_iff.mp h
  refine(arg_rel ra rk rd hv).elim λp hp=>(ih (j + 1) vs' hvs).elim λpvals e=> ?_
  refine h▸⟨p :: pvals, .cons hp.2 e.1,congrArg Nat.succ e.2.1,λi x hx=> ?_⟩
  cases i with
  | zero=>rw [<- Option.some.inj hx];exact hp.1
  | succ i=>exact(congrArg (λk=>argAt f.params ds vals kvs k x) (Nat.add_right_comm j 1 i).symm).trans (e.2.2 i x hx)
end
theorem pv_lookup {i:Nat}{v:V}{l:List (Nat × V)} (h:l.lookup i=some v):(i,v)∈l:=by
 induction l with
 | nil=>exact nos h
 | cons p r ih=>
  rw [List.lookup_cons] at h
  cases hb:i == p.1 with
  | true=>rw [hb] at h;rw [eq_of_beq hb, <- Option.some.inj h];exact .head _
  | false=>rw [hb] at h;exact .tail _ (ih h)
theorem locs_of (own:List Nat) {i:Nat}{v:V} (pv:List (Nat × V)): ∀ (l:List (Option V)),(pv.foldl (λl p=>if own.contains p.1 then l else l.set p.1 (some p.2)) l)[i]? =some (some v)->l[i]? =some (some v)\/((i,v)∈pv/\own.contains i=false):=by
 induction pv with
 | nil=>intro l h;exact .inl h
 | cons p r ih=>
  intro l h
  refine(ih _ h).elim (λh1=> ?_) λh=> .inr ⟨.tail _ h.1,h.2⟩
  dsimp only at h1
  by_cases hn:own.contains p.1=true
  ·rw [if_pos hn] at h1;exact .inl h1
  ·rw [if_neg hn] at h1
   by_cases e:p.1=i
   ·subst e
    rw [List.getElem?_set_self (List.length_set (as:=l)▸(List.getElem?_eq_some_iff.mp h1).1)] at h1
    injection h1 with h1
    injection h1 with h1
    exact .inr ⟨h1▸ .head _,Bool.eq_false_iff.mpr hn⟩
   ·rw [List.getElem?_set_ne e] at h1;exact .inl h1
theorem ownOf_mem {x:Str} (names:List (Str × NameKind)): ∀ (i j:Nat),names[j]? =some (x, .cell)->(ownOf' i names).contains (i + j)=true:=by
 induction names with
 | nil=>intro _ _ h;exact nos h
 | cons y r ih=>
  intro i j h
  rw [show ownOf' i (y :: r)=if y.2= .cell then i :: ownOf' (i + 1) r else ownOf' (i + 1) r from rfl]
  cases j with
  | zero=>
   rw [if_pos (congrArg Prod.snd (Option.some.inj h))]
   exact List.contains_iff_mem.mpr (.head _)
  | succ j=>
   have ih:=List.contains_iff_mem.mp (ih (i + 1) j h)
   rw [Nat.add_right_comm] at ih
   by_cases hk:y.2= .cell
   ·rw [if_pos hk];exact List.contains_iff_mem.mpr (.tail _ ih)
   ·rw [if_neg hk];exact List.contains_iff_mem.mpr ih
section
variable {Θ:Cx}{n:Nat}{A:Around}{h₀:Gd}{h h':Heap}{L:Addr}{m:Str->Option Value}{φ φ':Phi}{H:Hp}{news news':Nws}{s:Shared}{ρ:Lo}{E:Value->Shared->Prop}{fn:Fn}{a:Addr}{d:FnData}{args vs:List V}{vals pvals:List Value}{kw:List (Str × V)}{kvs:List (Str × Value)}
noncomputable abbrev FnData.env (d:FnData) (L a:Addr):Env:=envOfC d.qual d.scope L a d.cdv
structure In0 (Θ:Cx) (φ:Phi) (H:Hp) (news:Nws) (h:Heap):Prop where
 k:Θ.K.In h
 nolim:h.NoLimit
 nw: ∀q∈news,h.get? q.1=some q.2
 nd:(news.map (·.1)).Nodup
 rep:Rep Θ.τ φ H news
 df:DF Θ φ news
theorem Stt.in0 (S:Stt Θ A.frames h₀ L m φ H news s.heap):In0 Θ φ H news s.heap:=⟨S.top.k.keeps S.fr.keep,S.top.top.nolimit.keeps S.fr.keep,λq hq=>(S.nw q hq).1,S.nd,S.rep,S.df⟩
theorem fn_dflt (ok:FnOK Θ fn a d) (S:In0 Θ φ H news s.heap) {G:Prop} (k: ∀ (ds:List Value) (items:Option (Array Value)),VRels Θ.τ φ news fn.dflt ds->(items.getD #[]).toList=ds->(∀ (M:Model) (A:Around) (E:Value->Shared->Prop) (Q:Option (Array Value)->Shared->Prop),Q items s->wpAny M A (seqItems? d.dV) Q E s)->G):G:=by
 refine ok.dflt.elim (λh=>k [] none (by rw [h.2];exact .nil) rfl λM A E Q hq=> ?_) λh=>h.elim λT h=>h.elim λo h=>h.elim λits h=>h.elim λj h=>k its.toList (some its) (h.2.2.2 φ news S.df) rfl λM A E Q hq=> ?_
 ·rw [h.1];exact wpAny_pure hq
 ·rw [h.1];exact wpAny_seqItems (S.k _ _ h.2.1) h.2.2.1 hq
theorem call_binds (ok:FnOK Θ fn a d) (S:In0 Θ φ H news s.heap) (ra:VRels Θ.τ φ news args vals) (rk:KRel Θ φ news kw kvs) (hba:Mini.bindArgs fn args kw=some vs) {G:Prop}
 (k: ∀pvals,VRels Θ.τ φ news vs pvals->pvals.length=fn.params.length->BindsTo s d.fd ⟨vals,kvs⟩ (fn.params.zip pvals)->G):G:=by
 refine fn_dflt ok S λds items rd hit hdef=> ?_
 unfold Mini.bindArgs at hba
 by_cases c:args.length<=fn.params.length/\kw.all (λp=>(fn.params.drop args.length).contains p.1)/\(kw.map (·.1)).Nodup
 ·rw [if_pos c] at hba
  refine(bind_rel ra rk rd fn.params 0 vs hba).elim λpvals e=> ?_
  have hg: ∀j x,fn.params[j]? =some x->argAt fn.params ds vals kvs j x=pvals[j]? :=λj x hx=>(congrArg (λi=>argAt fn.params ds vals kvs i x) (Nat.zero_add j).symm).trans (e.2.2 j x hx)
  have hds:ds.length<=fn.params.length:=rd.length▸ok.dfl
  have hkw: ∀p∈kvs,p.1∈fn.params.drop vals.length:=λp hp=>by
   refine(List.mem_map.mp (show p.1∈kw.map (·.1) from rk.1▸List.mem_map_of_mem hp)).elim λq hq=> ?_
   rw [<- hq.2, <- ra.length]
   exact List.contains_iff_mem.mp (List.all_eq_true.mp c.2.1 q hq.1)
  refine k pvals e.1 e.2.1 ?_
  rw [<- binds_zip (ds:=ds) (pos:=vals) (kw:=kvs) ok.plain.nd hds e.2.1 hg]
  refine bindsTo (items:=items) ok.plain (ra.length▸c.1) hkw (rk.1▸c.2.2) hdef hit hds λj x hx=> ?_
  rw [hg j x hx,List.getElem?_eq_getElem (e.2.1▸(List.getElem?_eq_some_iff.mp hx).1)]
  rfl
 ·rw [if_neg c] at hba;exact nos hba
theorem fn_place (ok:FnOK Θ fn a d) (rv:VRels Θ.τ φ news vs pvals) (hl:pvals.length=fn.params.length) {i:Nat}{v:V} (hm:(i,v)∈fn.pix.zip vs) {G:Prop}
 (k: ∀ (y:Str) (k:NameKind) (p:Value),d.scope.names[i]? =some (y,k)->(k= .local\/k= .cell)->(fn.params.zip pvals).lookup y=some p->VRel Θ.τ φ news v p->G):G:=
 (List.mem_iff_getElem?.mp hm).elim λj hj=>
  have hj:=List.getElem?_zip_eq_some.mp hj
  have hjl:j < fn.params.length:=hl▸rv.length▸(List.getElem?_eq_some_iff.mp hj.2).1
  have hy:=List.getElem?_eq_getElem hjl
  (ok.pix j _ hy).elim λi' h=>h.elim λkd h=>(rv.get hj.2).elim λp hp=>
   k _ kd p ((show i'=i from Option.some.inj (h.1.symm.trans hj.1))▸h.2.1) h.2.2 ((zip_lookup ok.plain.nd hy).trans hp.1) hp.2
theorem fn_keys (ok:FnOK Θ fn a d) (hl:pvals.length=fn.params.length):((fn.params.zip pvals).map (·.1)).Nodup:=by
 rw [List.map_fst_zip (Nat.le_of_eq hl.symm)];exact ok.plain.nd
theorem fn_cells (ok:FnOK Θ fn a d) (k:Nat):((cellsFrom k d.scope.names []).map (·.1)).Nodup:=cellsFrom_nd _ _ _ ok.nd List.nodup_nil λ_ _ h=>nomatch h
theorem fn_cell (ok:FnOK Θ fn a d) (k:Nat) {x:Str} (h:(x,NameKind.cell)∈d.scope.names):((cellsFrom k d.scope.names []).lookup x).isSome=true:=
 (cells_has _ k [] h).elim λc hc=>by rw [PyProof.Rows.lookup_of_mem_nodup (fn_cells ok k) hc];rfl
theorem fn_kinds (ok:FnOK Θ fn a d) (k:Nat) (q:Str × Value) (hq:q∈fn.params.zip pvals):d.scope.names.lookup q.1=some .local\/(d.scope.names.lookup q.1=some .cell/\((cellsFrom k d.scope.names []).lookup q.1).isSome=true) :=
 (List.mem_iff_getElem?.mp hq).elim λj hj=>(ok.pix j q.1 (List.getElem?_zip_eq_some.mp (show(fn.params.zip pvals)[j]? =some (q.1,q.2) from hj)).1).elim λi h=>h.elim λkd h=>
  have hm:=List.mem_of_getElem? h.2.1
  h.2.2.elim (λe=> .inl (lookup_nodup ok.nd (e▸hm))) λe=> .inr ⟨lookup_nodup ok.nd (e▸hm),fn_cell ok k (e▸hm)⟩
theorem RoomN.deep {hd:Bool}{env:Env} (r:RoomC A (n + 1) hd):Room (A.deeper env) n hd:=
 r.down (i:=1) (j:=3) rfl rfl (by rw [Nat.mul_add_one,Nat.add_assoc (6 * n)];exact rD (by decide)) (by rw [Nat.mul_add_one,Nat.add_assoc (40 * n)];exact rD (by decide)) rfl
theorem fn_start {g:Gd}{base:Heap}{outer:List Env}{h₁:Heap}{tk:Nat} (ok:FnOK Θ fn a d) (S:In0 Θ φ H news s.heap) (rv:VRels Θ.τ φ news vs pvals) (hl:pvals.length=fn.params.length) (room:RoomC A (n + 1) Θ.P.hd)
 (x:InCallC s s.heap.objs.size (bindL (d.env s.heap.objs.size a).kindOf (fn.params.zip pvals) λ_=>none) (cellsFrom (s.heap.objs.size + 1) d.scope.names []) (bindC (d.env s.heap.objs.size a).kindOf (fn.params.zip pvals) λ_=>none) ⟨h₁,s.gens,s.drawn,tk,s.os⟩)
 (gr:Grd0 Θ A news s.heap g base outer) {G:Prop}
 (k: ∀ρ H' φ' news',enter fn [] vs H= .ok ρ H'->(∀ (l:Nat) (p:Addr × Addr),φ[l]? =some p->φ'[l]? =some p)->(∀q∈news,q∈news')->At Θ (A.deeper (d.env s.heap.objs.size a)) n (d.env s.heap.objs.size a) g s.heap.objs.size (bindL (d.env s.heap.objs.size a).kindOf (fn.params.zip pvals) λ_=>none) φ' H' news' ⟨h₁,s.gens,s.drawn,tk,s.os⟩ ρ->G):G:=by
 refine(PyProof.Rows.Cl.news (h₀:=s.heap) (Nat.le_refl _) λnm c hm=>⟨x.cell nm c (PyProof.Rows.lookup_of_mem_nodup (fn_cells ok _) hm),x.above nm c hm⟩).elim λcells hc=> ?_
 have hlt: ∀q∈news,q.1 < s.heap.objs.size:=λq hq=>Heap.lt_size (S.nw q hq)
 have hk₁:=x.toInCall.keep
 have hbn:=fn_keys ok hl
 have kind: ∀ {i:Nat}{y:Str}{kd:NameKind},d.scope.names[i]? =some (y,kd)->d.scope.names.lookup y=some kd:=λh=>lookup_nodup ok.nd (List.mem_of_getElem? h)
 refine own_cells (Θ:=Θ) (all:=cells ++ news) (pv:=fn.pix.zip vs) (full:=d.scope.names) (φ₀:=φ) (nk₀:=news) hc.2 (fn_cells ok _) (λq hq=>List.mem_append_left _ hq) (λi y hy v ev=> ?_) d.scope.names 0 (s.heap.objs.size + 1) [] φ H news (List.replicate fn.nsl none) (λj=>by rw [Nat.zero_add]) rfl S.rep
  ⟨λ_ _ e=>e,λ_ h _=>h⟩ (λq hq=>Nat.lt_succ_of_lt (hlt q hq)) (λq hq=>List.mem_append_right _ hq) λcel' H' φ' e1 e2 e3 e4 e5=> ?_
 ·refine fn_place ok rv hl (pv_lookup ev) λy' kd p g1 g2 g3 g4=>⟨p, ?_,λ φ' news' x'=>g4.mono0 x'⟩
  obtain rfl:y'=y:=congrArg Prod.fst (Option.some.inj (g1.symm.trans hy))
  rw [bindC_get _ _ hbn (λe=>NameKind.noConfusion (Option.some.inj ((kind hy).symm.trans e))),g3]
 ·have x0:Ext0 φ news φ' (cells ++ news):=⟨e3,λq hq _=>List.mem_append_right _ hq⟩
  have N₁:News g.h s.heap.objs.size h₁ (cells ++ news):=λq hq=>(List.mem_append.mp hq).elim (λhq=>⟨(hc.1 q hq).1,(hc.1 q hq).2.1,by
   cases z:g.h.get? q.1 with
   | none=>rfl
   | some o=>exact nos ((hc.1 q hq).2.2.symm.trans (gr.sub _ _ z))⟩) λhq=>⟨hk₁ _ _ (S.nw q hq),Nat.ne_of_lt (hlt q hq),gr.hid q hq⟩
  have ndall:((cells ++ news).map (·.1)).Nodup:=by
   rw [List.map_append,List.nodup_append]
   refine⟨(cellsAre_addr hc.2).symm▸List.pairwise_map.mpr x.apart,S.nd,λc hc' b hb e=> ?_⟩
   refine(List.mem_map.mp hb).elim λq hq=>(List.mem_map.mp (cellsAre_addr hc.2▸hc')).elim λp hp=> ?_
   exact Nat.lt_irrefl _ (Nat.lt_trans (x.above p.1 p.2 hp.1) (hp.2▸e▸hq.2▸hlt q hq.1))
  have hframes:(A.deeper (d.env s.heap.objs.size a)).frames=some (d.env s.heap.objs.size a :: outer):=Around.frames_deeper gr.frames
  refine k ⟨(fn.pix.zip vs).foldl (λl p=>if fn.own.contains p.1 then l else l.set p.1 (some p.2)) (List.replicate fn.nsl none),cel'⟩ H' φ' (cells ++ news) ?_ e3 (λq hq=>List.mem_append_right _ hq) ⟨room.deep, ?_,λ_=>⟨outer,hframes⟩, ?_, ?_⟩
  ·show M.bind (ownCells fn.own (fn.pix.zip vs) (List.replicate fn.nsl none)) (λcel=>pure _) H=_
   unfold M.bind
   rw [ok.own,e1]
   rfl
  ·refine⟨rfl,rfl,rfl,ok.kind,ok.nd,λy hy hk=>hk.elim (λhk=>fn_cell ok _ (hk▸hy)) λhk=>absurd hk (ok.nofree y hy),λz hz=>Nat.le_of_eq (Option.some.inj hz).symm⟩
  ·exact⟨⟨x.toInCall.ns,λb o e=>hk₁ b o (gr.sub b o e),Nat.le_of_eq gr.size⟩,N₁,ndall,e2, .own gr.below hframes rfl ok.kind gr.fs gr.top,⟨λq hq=>⟨List.mem_append_right _ (S.df.d q hq).1,(S.df.d q hq).2⟩,λq hq=>⟨List.mem_append_right _ (S.df.p q hq).1,e4 q.1 (Nat.lt_succ_of_lt (hlt q (S.df.p q hq).1)) (S.df.p q hq).2⟩⟩⟩
  ·refine⟨λi v hv=>(locs_of _ _ _ hv).elim repl_no λh=> ?_,λi l hl=>(e5 i l hl).elim repl_no λh=>h.elim λy h=>h.elim λc h=>⟨y, .cell,(c,c),h.1, .inl rfl,h.2.1,h.2.2⟩⟩
   refine fn_place ok rv hl h.1 λy kd p g1 g2 g3 g4=>g2.elim (λe=> ?_) λe=>Bool.noConfusion ((ok.own▸h.2).symm.trans (Nat.zero_add i▸ownOf_mem d.scope.names 0 i (e▸g1)))
   have g1:=e▸g1
   exact⟨y,p,g1,by rw [bindL_get _ _ hbn (kind g1),g3],g4.mono0 x0⟩
theorem call_core {base:Heap}{outer:List Env}{g:Gd}{R:Result->Shared->Prop} (ok:FnOK Θ fn a d) (room:RoomC A (n + 1) Θ.P.hd) (S:In0 Θ φ H news s.heap) (gr:Grd0 Θ A news s.heap g base outer)
 (ra:VRels Θ.τ φ news args vals) (rk:KRel Θ φ news kw kvs) (hba:Mini.bindArgs fn args kw=some vs)
 (k : ∀ρ H' φ' news' m' s',enter fn [] vs H= .ok ρ H'->(∀ (l:Nat) (p:Addr × Addr),φ[l]? =some p->φ'[l]? =some p)->(∀q∈news,q∈news')->s'.gens=s.gens->s'.os=s.os->At Θ (A.deeper (d.env s.heap.objs.size a)) n (d.env s.heap.objs.size a) g s.heap.objs.size m' φ' H' news' s' ρ->
  wpAny Θ.M (A.deeper (d.env s.heap.objs.size a)) (execs d.body (d.env s.heap.objs.size a)) (λf s'=>R (.ok (.ret (match f with | .ret v=>v | _=> .none))) s') (λe s'=>wpAny Θ.M (A.deeper (d.env s.heap.objs.size a)) (leaving (d.env s.heap.objs.size a) e) (λ_ s''=>R (.error e) s'') (λe' s''=>R (.error e') s'') s') s') :
 codeAny Θ.M A (.call (.ref a) ⟨vals,kvs⟩) R s:=call_binds ok S ra rk hba λpvals rv hl hbind=>by
 refine ok.obj.elim λo ho=> ?_
 refine codeAny_call_function (Nat.lt_of_le_of_lt (Nat.le_add_right _ _) room.depth) (S.k _ _ ho.1) ho.2 ok.co ok.gen rfl (codeRec_of S.k ok.code) (hbind _ _ _ _ ?_)
 refine wpAny_newFunctionEnv_cells ok.kind (fn_kinds ok _) λenv' he s' x=> ?_
 rw [he] at x ⊢
 refine⟨S.nolim.keeps x.toInCall.keep,codeAny_func ?_⟩
 refine x.done.elim λh₁ e=>e.elim λtk e=> ?_
 rw [e.1] at x ⊢
 exact fn_start ok S rv hl room x gr λ ρ H' φ' news' hent pre sub at_=>k ρ H' φ' news' _ _ hent pre sub rfl rfl at_
theorem sndk_step (hbody: ∀ (f:Nat) (fn:Fn) (a:Addr),Θ.P.fns[f]? =some (some fn)->Θ.τ.fa f=some a->∃d:FnData,FnOK Θ fn a d/\∀L',SndSs Θ n (d.env L' a) fn.body d.body):SndK Θ (n + 1):=λ {A h₀ L m φ H news s f a args vals kw kvs R} room S hfa ra rk hp=>
 Pst.ofO hp λofn hf hp=>Pst.ofO (f:=λfn=>M.bind (ofO (Mini.bindArgs fn args kw)) λvs=>noEx (M.bind (enter fn [] vs) λ ρ=>M.bind (exs (run n Θ.P) (run n (hP Θ.P)) Θ.P fn.body ρ) λr=>pure (flV r.1))) hp λfn hfn hp=>Pst.ofO hp λvs hba hp=>(hbody f fn a (hf.trans (congrArg some hfn)) hfa).elim λd hd=>(ground S).elim λg e=>e.elim λbase e=>e.elim λouter gr=>
  call_core hd.1 room S.in0 gr.toGrd0 ra rk hba λ ρ H' φ' news' m' s' hent pre sub eg eo at_=>hd.2 s.heap.objs.size at_ (by
   unfold noEx M.bind at hp
   rw [hent] at hp
   dsimp only at hp
   cases hr:exs (run n Θ.P) (run n (hP Θ.P)) Θ.P fn.body ρ H' with
   | no=>rw [hr] at hp;exact hp.elim
   | ex H''=>rw [hr] at hp;exact hp.elim
   | ok r H''=>
    rw [hr] at hp
    intro gn' dr' g' m' φ'' news'' h'' tk'' flow T' S' x' r'
    rw [eg] at T'
    rw [eo]
    refine(gr.back T'.t S'.fr S'.nw).elim λg₀ B=> ?_
    have Sf:Stt Θ A.frames g₀ L m φ'' H'' news'' h'':=⟨B.2.1,B.2.2,S'.nd,S'.rep,S.gb.turn B.1,S'.df⟩
    have Xf:Ext φ news φ'' news'':=⟨λk q e=>x'.pre _ _ (pre _ _ e),λq hq hk=>x'.frz q (sub q hq) hk⟩
    obtain⟨fl,ρ'⟩:=r
    cases fl with
    | nx=>rw [show flow= .next from r'.1];exact hp g₀ φ'' news'' h'' tk'' .none ⟨B.1,T'.k,T'.b⟩ Sf Xf (.inl .none)
    | rt v=>exact(show∃p,flow= .ret p/\RI Θ φ'' news'' v p from r'.1).elim λp e=>by rw [e.1];exact hp g₀ φ'' news'' h'' tk'' p ⟨B.1,T'.k,T'.b⟩ Sf Xf e.2)
end
theorem ba {a b:Bool} (h:(a && b)=true):a=true/\b=true:=Bool.and_eq_true_iff.mp h
theorem dt {p:Prop} [Decidable p] (h:decide p=true):p:=of_decide_eq_true h
theorem bn {a:Bool} (h:(!a)=true):a=false:=Bool.not_eq_true' a▸h
theorem sh_is {e:Expr}{t:Tg} (h:(sh e).t=t):(sh e).is e t:=h▸sh_spec e
theorem anyS {α:Type}{o:Option α}{f:α->Bool} (h:o.any f=true): ∃a,o=some a/\f a=true:=by
 cases o with
 | none=>exact Bool.noConfusion h
 | some a=>exact⟨a,rfl,h⟩
theorem ckL_cons {α β:Type}{f:α->β->Bool}{x:α}{xs:List α}{es:List β}{G:List β->Prop} (h:ckL f (x :: xs) es=true) (k: ∀e r,f x e=true->ckL f xs r=true->G (e :: r)):G es:=by
 cases es with
 | nil=>exact Bool.noConfusion h
 | cons e r=>exact k e r (ba h).1 (ba h).2
theorem ckL_nil {α β:Type}{f:α->β->Bool}{es:List β}{G:List β->Prop} (h:ckL f [] es=true) (k:G []):G es:=by
 cases es with
 | nil=>exact k
 | cons e r=>exact Bool.noConfusion h
structure Stat6 (Θ:Cx):Prop extends Stat5 Θ where
 ap:Θ.τ.nm[nAppend]? =some "append"
noncomputable def relB (b:Str->Bool) (x:Str × NameKind):Str × NameKind:=if(x.2 == .free && b x.1)=true then(x.1, .cell) else x
structure CtxOK (Θ:Cx) (c:Ctx) (env:Env):Prop where
 gl:c.gl=Θ.gl
 at_:c.at_=Θ.τ.nm
 nm: ∃b:Str->Bool,env.scope.names=c.names.map (relB b)
theorem relB_eq (b:Str->Bool) (x:Str) (k:NameKind): ∃k',relB b (x,k)=(x,k')/\(k'=k\/(k= .free/\k'= .cell)):=by
 unfold relB
 by_cases h:(k == .free && b x)=true
 ·rw [if_pos h];exact⟨.cell,rfl, .inr ⟨eq_of_beq (ba h).1,rfl⟩⟩
 ·rw [if_neg h];exact⟨k,rfl, .inl rfl⟩
theorem relB_fst (b:Str->Bool) (x:Str × NameKind):(relB b x).1=x.1:=(relB_eq b x.1 x.2).elim λk h=>by rw [show relB b x=(x.1,k) from h.1]
theorem relB_idx (b:Str->Bool) (x:Str) (l:List (Str × NameKind)):idxIn x (l.map (relB b))=idxIn x l:=by
 induction l with
 | nil=>rfl
 | cons p r ih=>
  show(if(relB b p).1=x then some 0 else(idxIn x (r.map (relB b))).map (· + 1))=_
  rw [relB_fst,ih]
  rfl
theorem relB_look (b:Str->Bool) (x:Str) (l:List (Str × NameKind)):(l.map (relB b)).lookup x=(l.lookup x).map λk=>(relB b (x,k)).2:=by
 induction l with
 | nil=>rfl
 | cons p r ih=>
  rw [List.map_cons,show relB b p=((relB b p).1,(relB b p).2) from rfl,relB_fst,List.lookup_cons,List.lookup_cons]
  by_cases e:x=p.1
  ·rw [e,beq_self_eq_true];rfl
  ·rw [beq_false_of_ne e];exact ih
structure NameOK (env:Env) (x:Str) (i:Nat) (k:NameKind):Prop where
 idx:idxIn x env.scope.names=some i
 look:env.scope.names.lookup x=some k
 deb:(x == ("__debug__" :Str))=false
 cld:(x == ("__classdict__" :Str))=false
section
variable {Θ:Cx}{k:Nat}{env:Env}{c:Ctx}
theorem CtxOK.name {x:Str}{i:Nat}{kd:NameKind} (o:CtxOK Θ c env) (h:ckN c x i kd=true): ∃k',NameOK env x i k'/\(k'=kd\/(kd= .free/\k'= .cell)):=by
 have h1:=ba h
 have h2:=ba h1.1
 have h3:=ba h2.1
 refine o.nm.elim λb hb=>(relB_eq b x kd).imp λk' e=>⟨⟨?_, ?_,bn h2.2,bn h1.2⟩,e.2⟩
 ·rw [hb,relB_idx];exact dt h3.2
 ·rw [hb,relB_look,dt h3.1];exact congrArg some (congrArg Prod.snd e.1)
theorem CtxOK.nm1 {x:Str}{i:Nat}{kd:NameKind} (o:CtxOK Θ c env) (h:ckN c x i kd=true) (hk:kd≠ .free):NameOK env x i kd:=
 (o.name h).elim λk' e=>e.2.elim (λq=>q▸e.1) λq=>absurd q.1 hk
theorem CtxOK.glob {x:Str} (o:CtxOK Θ c env) (hk:c.names.lookup x=some .globalImplicit):env.scope.names.lookup x=some .globalImplicit:=
 o.nm.elim λb hb=>by rw [hb,relB_look,hk];rfl
theorem CtxOK.comp (o:CtxOK Θ c env) (sc:Scope) (cl:List (Str × Addr)) (C:Addr):CtxOK Θ {c with names:=sc.names} (compEnvC sc cl C env):=by
 refine⟨o.gl,o.at_,λx=>env.scope.kind == .function && env.kindOf x == some .cell,List.map_congr_left λp _=> ?_⟩
 unfold relB
 rw [<- Bool.and_assoc]
theorem SndE.cast {x:X}{e e':Expr} (es:e=e') (h:SndE Θ k env x e'):SndE Θ k env x e:=es▸h
theorem SndN.cast {x:NT}{e e':Expr} (es:e=e') (h:SndN Θ env x e'):SndN Θ env x e:=es▸h
theorem SndT.cast {x:X}{e e':Expr} (es:e=e') (h:SndT Θ k env x e'):SndT Θ k env x e:=es▸h
structure CkOK (Θ:Cx) (k:Nat) (rec:Ctx->X->Expr->Bool):Prop where
 no: ∀ {c x e},rec c x e=true->(sh e).t≠ .oth
 ex: ∀ {env c x e},CtxOK Θ c env->rec c x e=true->SndE Θ k env x e
 cm: ∀ {env c op a b e},CtxOK Θ c env->rec c (.cmp op a b) e=true->SndT Θ k env (.cmp op a b) e
variable {rec:Ctx->X->Expr->Bool}
theorem ckEs (r:CkOK Θ k rec) (o:CtxOK Θ c env) (xs:List X): ∀ {es:List Expr},ckL (rec c) xs es=true->SndEs Θ k env xs es/\es.all (λe=> !isStar e)=true:=by
 induction xs with
 | nil=>intro es h;exact ckL_nil (G:=λes=>SndEs Θ k env [] es/\es.all (λe=> !isStar e)=true) h ⟨snds_nil,rfl⟩
 | cons x xs ih=>
  intro es h
  refine ckL_cons (G:=λes=>SndEs Θ k env (x :: xs) es/\es.all (λe=> !isStar e)=true) h λe es h1 h2=> ?_
  have hs:=(sh_plain (r.no h1)).1
  exact⟨snds_cons hs (r.ex o h1) (ih h2).1,by rw [List.all_cons,hs,(ih h2).2];rfl⟩
theorem ckKs (r:CkOK Θ k rec) (o:CtxOK Θ c env) (xs:List X): ∀ {ks:List Keyword},ckL (rec c) xs (ks.map (·.value))=true->SndKs Θ k env xs ks:=by
 induction xs with
 | nil=>
  intro ks h
  cases ks with
  | nil=>exact sndk_nil
  | cons _ _=>exact Bool.noConfusion h
 | cons x xs ih=>
  intro ks h
  cases ks with
  | nil=>exact Bool.noConfusion h
  | cons q ks=>
   obtain⟨nm,e,kp⟩:=q
   exact(sndk_cons (r.ex o (ba h).1) (ih (ba h).2):SndKs Θ k env (x :: xs) (⟨nm,e,kp⟩ :: ks))
theorem sh_truth {e:Expr} (h:(decide ((sh e).t= .name) || decide ((sh e).t= .attr) || decide ((sh e).t= .call) || decide ((sh e).t= .sub))=true) (env:Env):isTrue e env (eval e env)=(do let v <- eval e env;standAt e.pos;holding [v] (PySem.truthy v)):=by
 cases e <;> first | rfl | exact Bool.noConfusion h
theorem ckT_ok (st:Stat6 Θ) (hK:SndK Θ k) (r:CkOK Θ k rec) (o:CtxOK Θ c env) (m:Nat): ∀ {x:X}{e:Expr},ckT (rec c) m x e=true->SndT Θ k env x e:=by
 induction m with
 | zero=>intro x e h;exact Bool.noConfusion h
 | succ m ih=>
  intro x e h
  cases x with
  | not y=>exact(SndT.cast ((sh_is (dt (ba (ba h).1).1):e=_).trans (congrArg (λu=>Expr.UnaryOp u _ _) (dt (ba (ba h).1).2))) (sndt_not (ih (ba h).2)):SndT Θ k env (.not y) e)
  | truth y=>exact sndt_truth st.toStat3 hK.toC (r.ex o (ba h).2) (sh_truth (ba h).1 env)
  | cmp op a b=>exact r.cm o (ba h).2
  | and y z=>exact(SndT.cast ((sh_is (dt (ba (ba h).1).1):e=_).trans (congrArg (λu=>Expr.BoolOp u _ _) (dt (ba (ba h).1).2)))
   (ckL_cons (G:=λes=>SndT Θ k env (.and y z) (.BoolOp .And es (sh e).p)) (ba h).2 λa _ ha h=>ckL_cons (G:=λes=>SndT Θ k env (.and y z) (.BoolOp .And (a :: es) (sh e).p)) h λb _ hb h=>ckL_nil (G:=λes=>SndT Θ k env (.and y z) (.BoolOp .And (a :: b :: es) (sh e).p)) h (sndt_and (ih ha) (ih hb))):SndT Θ k env (.and y z) e)
  | or y z=>exact(SndT.cast ((sh_is (dt (ba (ba h).1).1):e=_).trans (congrArg (λu=>Expr.BoolOp u _ _) (dt (ba (ba h).1).2)))
   (ckL_cons (G:=λes=>SndT Θ k env (.or y z) (.BoolOp .Or es (sh e).p)) (ba h).2 λa _ ha h=>ckL_cons (G:=λes=>SndT Θ k env (.or y z) (.BoolOp .Or (a :: es) (sh e).p)) h λb _ hb h=>ckL_nil (G:=λes=>SndT Θ k env (.or y z) (.BoolOp .Or (a :: b :: es) (sh e).p)) h (sndt_or (ih ha) (ih hb))):SndT Θ k env (.or y z) e)
  | _=>exact Bool.noConfusion h
theorem ckTs_ok (st:Stat6 Θ) (hK:SndK Θ k) (r:CkOK Θ k rec) (o:CtxOK Θ c env) (xs:List X): ∀ {es:List Expr},ckL (ckT (rec c) 9) xs es=true->SndTs Θ k env xs es:=by
 induction xs with
 | nil=>intro es h;exact(ckL_nil (G:=λes=>SndTs Θ k env [] es) h sndts_nil:SndTs Θ k env [] es)
 | cons x xs ih=>intro es h;exact(ckL_cons (G:=λes=>SndTs Θ k env (x :: xs) es) h λe es h1 h2=>sndts_cons (ckT_ok st hK r o 9 h1) (ih h2):SndTs Θ k env (x :: xs) es)
theorem ckLoc_ok (o:CtxOK Θ c env) {i:Nat}{e:Expr} (h:ckLoc c i e=true):e= .Name (sh e).s (sh e).p/\NameOK env (sh e).s i .local:=⟨sh_is (dt (ba h).1),o.nm1 (ba h).2 nofun⟩
theorem ckLocs_ok (o:CtxOK Θ c env) (is:List Nat): ∀ {es:List Expr},ckL (ckLoc c) is es=true->LocNames env is es:=by
 induction is with
 | nil=>intro es h;exact ckL_nil h .nil
 | cons i is ih=>
  intro es h
  refine ckL_cons h λe es h1 h2=> ?_
  have q:=ckLoc_ok o h1
  rw [q.1]
  exact .cons q.2.idx q.2.look (ih h2)
theorem ckNT_ok (o:CtxOK Θ c env) {e:Expr}{t:NT} (h:ckNT c e t=true):SndN Θ env t e:=by
 cases t with
 | n i=>exact SndN.cast (ckLoc_ok o h).1 (sndn_n (ckLoc_ok o h).2.idx (ckLoc_ok o h).2.look:SndN Θ env (.n i) (.Name (sh e).s (sh e).p))
 | t is=>exact SndN.cast (sh_is (dt (ba (ba h).1).1)) (sndn_t (ckLocs_ok o is (ba h).2):SndN Θ env (.t is) (.Tuple (sh e).es (sh e).k (sh e).p))
theorem cellish_ok {kd k':NameKind} (h:cellish kd=true) (e:k'=kd\/(kd= .free/\k'= .cell)):k'= .cell\/k'= .free:=
 e.elim (λe=>e▸(Bool.or_eq_true_iff.mp h).imp dt dt) λe=> .inl e.2
theorem ckFree_ok (o:CtxOK Θ c env) {inner:List (Str × NameKind)}{free:List (Nat × Nat)} (h:ckFree c.names inner free=true):FreeOK env.scope.names inner free/\(∀x∈inner,x.2≠ .cell)/\∀x∈inner,x.2= .free->∃k,(x.1,k)∈env.scope.names/\(k= .cell\/k= .free):=by
 have h1:=ba h
 refine o.nm.elim λb hb=>⟨λp hp=> ?_,λx hx=>dt (ba (List.all_eq_true.mp h1.2 x hx)).1,λx hx hf=> ?_⟩
 ·refine(anyS (List.all_eq_true.mp h1.1 p hp)).elim λq1 e1=>(anyS e1.2).elim λq2 e2=> ?_
  have h3:=ba e2.2
  have h4:=ba h3.1
  refine(relB_eq b q2.1 q2.2).elim λk' e=>⟨q1.1,k', ?_, ?_,cellish_ok h3.2 e.2⟩
  ·rw [e1.1, <- dt h4.2]
  ·rw [hb,List.getElem?_map,e2.1,dt h4.1]
   exact congrArg some e.1
 ·refine(Bool.or_eq_true_iff.mp (ba (List.all_eq_true.mp h1.2 x hx)).2).elim (λe=>absurd hf (dt e)) λe=> ?_
  refine(List.any_eq_true.mp e).elim λy hy=>(relB_eq b y.1 y.2).elim λk' e=>⟨k', ?_,cellish_ok (ba hy.2).2 e.2⟩
  rw [hb, <- dt (ba hy.2).1, <- e.1]
  exact List.mem_map_of_mem hy.1
end
section
variable {Θ:Cx}{k:Nat}{env:Env}{c:Ctx}{rec:Ctx->X->Expr->Bool}
theorem isGlob_ok {y:X} (h:isGlob y=true): ∃g,y= .glob g:=by
 cases y <;> first | exact⟨_,rfl⟩ | exact Bool.noConfusion h
theorem ck_call (st:Stat6 Θ) (hK:SndK Θ k) (hB:SndB Θ k) (r:CkOK Θ k rec) (o:CtxOK Θ c env) {y:X}{xs ks:List X}{kn:List Str}{e:Expr} (h:ck1 rec c e (.call y xs kn ks)=true):SndE Θ k env (.call y xs kn ks) e:=
 have h1:=ba h
 have h2:=ba h1.1
 have h3:=ba h2.1
 have h4:=ba h3.1
 have a1:=ba h1.2
 have a2:=ba a1.1
 have en:(sh e).e1=_:=sh_is (dt h3.2)
 (isGlob_ok h4.2).elim λg hg=>SndE.cast ((sh_is (dt h4.1):e=_).trans (congrArg (λf=>Expr.Call f _ _ _) en))
  (hg▸snd_call st.toStat5 hK hB (ckEs r o xs a2.1).2 (dt a2.2) (SndE.cast en.symm (hg▸r.ex o h2.2)) (ckEs r o xs a2.1).1 (ckKs r o ks a1.2))
theorem ck_meth (st:Stat6 Θ) (hK:SndK Θ k) (r:CkOK Θ k rec) (o:CtxOK Θ c env) {y:X}{m:Nat}{xs ks:List X}{kn:List Str}{e:Expr} (h:ck1 rec c e (.meth y m xs kn ks)=true):SndE Θ k env (.meth y m xs kn ks) e:=
 have h1:=ba h
 have h2:=ba h1.1
 have h3:=ba h2.1
 have h4:=ba h3.1
 have h5:=ba h4.1
 have h6:=ba h5.1
 have h7:=ba h6.1
 have a1:=ba h1.2
 have a2:=ba a1.1
 have ea:(sh e).e1=_:=sh_is (dt h7.2)
 have hn:Θ.τ.nm[m]? =some (sh (sh e).e1).s:=o.at_▸(dt h2.2:c.at_[m]? =some (sh (sh e).e1).s)
 have es:=ckEs r o xs a2.1
 SndE.cast ((sh_is (dt h7.1):e=_).trans (congrArg (λf=>Expr.Call f _ _ _) ea))
  (snd_meth st.toStat5 hK hn (λq=>Option.some.inj (hn.symm.trans (q▸st.ap))) es.2 (dt a2.2) (r.ex o h3.2) es.1 (ckKs r o ks a1.2) (eval_methCall es.2 (dt a2.2) (dt h5.2) (dt h6.2) (sh_sup _ _ _ (dt h4.2))))
theorem eval_attr {e:Expr}{name:Str}{pos:Pos} (hc:(sh e).t≠ .call):eval (.Attribute e name pos) env=(do
 let o <- eval e env
 standAt pos.atName
 let r <- holding [o] (getAttr o name true)
 letTemporaryGo e o r
 pure r):=by
 refine Eq.trans (b:=(do
  let o <- attributeBase e name env (eval e env)
  standAt pos.atName
  let r <- holding [o] (getAttr o name true)
  letTemporaryGo e o r
  pure r:Sem Value)) rfl ?_
 rw [sh_sup name env (eval e env) hc]
theorem ck_attr (st:Stat6 Θ) (r:CkOK Θ k rec) (o:CtxOK Θ c env) {y:X}{a:Nat}{e:Expr} (h:ck1 rec c e (.attr y a)=true):SndE Θ k env (.attr y a) e:=
 have h1:=ba h
 have h2:=ba h1.1
 have h3:=ba h2.1
 have hn:Θ.τ.nm[a]? =some (sh e).s:=o.at_▸(dt h2.2:c.at_[a]? =some (sh e).s)
 SndE.cast (sh_is (dt h3.1)) (snd_attr st.toStat3 hn (r.ex o h3.2) (eval_attr (dt h1.2)))
theorem ck_and (st:Stat6 Θ) (hK:SndK Θ k) (r:CkOK Θ k rec) (o:CtxOK Θ c env) {y z:X}{es:List Expr}{p:Pos} (h:(match es with
 | []=>false
 | a :: r=>rec c y a && (match r with
  | []=>false
  | b :: r'=>(if r'.isEmpty then rec c z b else rec c z (.BoolOp .And (b :: r') p))))=true):SndE Θ k env (.and y z) (.BoolOp .And es p):=by
 cases es with
 | nil=>exact Bool.noConfusion h
 | cons a r1=>cases r1 with
  | nil=>exact Bool.noConfusion (ba h).2
  | cons b r2=>
   refine(snd_and st.toStat3 hK.toC (r.ex o (ba h).1) ?_:SndE Θ k env (.and y z) (.BoolOp .And (a :: b :: r2) p))
   cases r2 with
   | nil=>exact snd_one (r.ex o (ba h).2)
   | cons d r3=>exact r.ex o (ba h).2
theorem ck_comp (st:Stat6 Θ) (hK:SndK Θ k) (r:CkOK Θ k rec) (o:CtxOK Θ c env) {nn:Nat}{free:List (Nat × Nat)}{y xi:X}{u:NT}{fs:List X}{q:Sh}{g:Comprehension} (h:ckComp rec c nn free y u xi fs q g=true) {G:Prop}
 (f :g=⟨g.target,g.iter,g.ifs,0⟩->nn=q.sc.names.length->SndE Θ k env xi g.iter->(∀cl C,EnvOK (compEnvC q.sc cl C env) C->SndE Θ k (compEnvC q.sc cl C env) y q.e1)->(∀cl C,EnvOK (compEnvC q.sc cl C env) C->SndTs Θ k (compEnvC q.sc cl C env) fs g.ifs)->
  (∀cl C,EnvOK (compEnvC q.sc cl C env) C->SndN Θ (compEnvC q.sc cl C env) u g.target)->(∀x,foldedSetIterable g.iter env x=pure x)->q.sc.kind= .function->(q.sc.names.map (·.1)).Nodup->(∀x∈q.sc.names,x.2≠ .cell)->FreeOK env.scope.names q.sc.names free->
  (∀x∈q.sc.names,x.2= .free->∃k,(x.1,k)∈env.scope.names/\(k= .cell\/k= .free))->G):G:=
 have h1:=ba h
 have h2:=ba h1.1
 have h3:=ba h2.1
 have h4:=ba h3.1
 have h5:=ba h4.1
 have r1:=ba h1.2
 have r2:=ba r1.1
 have r3:=ba r2.1
 have fr:=ckFree_ok o h2.2
 f (by
  have e:=dt h5.1
  cases g
  exact congrArg _ e) (dt h4.2) (r.ex o r3.1) (λcl C _=>r.ex (o.comp q.sc cl C) r2.2) (λcl C _=>ckTs_ok st hK r (o.comp q.sc cl C) fs r1.2) (λcl C _=>ckNT_ok (o.comp q.sc cl C) r3.2) (sh_set (r.no r3.1) env) (eq_of_beq (ba (ba h5.2).1).1) (dt h3.2) fr.2.1 fr.1 fr.2.2
theorem ckC_ok {co:Const}{kk:Nat}{p:Pos}{x:X} (h:ckC co x=true):SndE Θ k env x (.Constant co kk p):=by
 cases x with
 | none=>exact SndE.cast (congrArg (λc=>Expr.Constant c _ _) (dt h)) snd_none
 | bool b=>exact SndE.cast (congrArg (λc=>Expr.Constant c _ _) (dt h)) snd_bool
 | int i=>exact SndE.cast (congrArg (λc=>Expr.Constant c _ _) (dt h)) snd_int
 | str s=>exact SndE.cast (congrArg (λc=>Expr.Constant c _ _) (dt h)) snd_str
 | _=>exact Bool.noConfusion h
theorem ck_cmp1 (st:Stat6 Θ) (hK:SndK Θ k) (r:CkOK Θ k rec) (o:CtxOK Θ c env) {op:CmpOp}{a b:X}{e:Expr} (h:ck1 rec c e (.cmp op a b)=true) {G:Expr->Prop} (f: ∀x y p,SndE Θ k env a x->SndE Θ k env b y->behindInMarks op y=false->G (.Compare x [op] [y] p)):G e:=
 have h1:=ba h
 have h2:=ba h1.1
 have h3:=ba h2.1
 (((sh_is (dt h3.1):e=_).trans (congrArg (λu=>Expr.Compare _ u _ _) (dt h3.2))).symm▸
  ckL_cons (G:=λes=>G (.Compare (sh e).e1 [op] es (sh e).p)) h1.2 λy _ hy h=>ckL_nil (G:=λes=>G (.Compare (sh e).e1 [op] (y :: es) (sh e).p)) h (f _ _ _ (r.ex o h2.2) (r.ex o (ba hy).2) (bn (ba hy).1)))
theorem ck1_ok (st:Stat6 Θ) (hK:SndK Θ k) (hB:SndB Θ k) (r:CkOK Θ k rec) (o:CtxOK Θ c env) {x:X}{e:Expr} (h:ck1 rec c e x=true):SndE Θ k env x e:=by
 cases x with
 | loc i=>exact(SndE.cast (sh_is (dt (ba h).1)) (snd_loc (o.nm1 (ba h).2 nofun).idx (o.nm1 (ba h).2 nofun).look (o.nm1 (ba h).2 nofun).deb):SndE Θ k env (.loc i) e)
 | cel i=>
  refine(SndE.cast (sh_is (dt (ba h).1)) ((Bool.or_eq_true_iff.mp (ba h).2).elim (λh=> ?_) λh=>(o.name h).elim λk' q=>snd_cel q.1.idx (q.2.elim (λe=> .inr (e▸q.1.look)) λe=> .inl (e.2▸q.1.look)) q.1.deb q.1.cld):SndE Θ k env (.cel i) e)
  exact snd_cel (o.nm1 h nofun).idx (.inl (o.nm1 h nofun).look) (o.nm1 h nofun).deb (o.nm1 h nofun).cld
 | glob g=>exact(SndE.cast (sh_is (dt (ba (ba (ba h).1).1).1)) (snd_glob st.toStat4 (o.gl▸dt (ba (ba h).1).2) (o.glob (dt (ba (ba (ba h).1).1).2)) (bn (ba h).2)):SndE Θ k env (.glob g) e)
 | attr y a=>exact ck_attr st r o h
 | call y xs kn ks=>exact ck_call st hK hB r o h
 | meth y m xs kn ks=>exact ck_meth st hK r o h
 | sub y i=>exact(SndE.cast (sh_is (dt (ba (ba h).1).1)) (snd_sub st.toStat3 hK.toC (sh_plain (r.no (ba h).2)).2 (r.ex o (ba (ba h).1).2) (r.ex o (ba h).2)):SndE Θ k env (.sub y i) e)
 | bin op a b=>exact(SndE.cast ((sh_is (dt (ba (ba (ba h).1).1).1):e=_).trans (congrArg (λu=>Expr.BinOp _ u _ _) (dt (ba (ba (ba h).1).1).2))) (snd_bin (r.ex o (ba (ba h).1).2) (r.ex o (ba h).2) λ_ S r1 r2 hp=>wp_binOp S r1 r2 hp):SndE Θ k env (.bin op a b) e)
 | neg a=>exact(SndE.cast ((sh_is (dt (ba (ba h).1).1):e=_).trans (congrArg (λu=>Expr.UnaryOp u _ _) (dt (ba (ba h).1).2))) (snd_neg (r.ex o (ba h).2)):SndE Θ k env (.neg a) e)
 | not a=>exact(SndE.cast ((sh_is (dt (ba (ba h).1).1):e=_).trans (congrArg (λu=>Expr.UnaryOp u _ _) (dt (ba (ba h).1).2))) (snd_not st.toStat3 hK.toC (r.ex o (ba h).2)):SndE Θ k env (.not a) e)
 | cmp op a b=>exact ck_cmp1 (G:=λe=>SndE Θ k env (.cmp op a b) e) st hK r o h λx y p h1 h2 h3=>snd_cmp st.toStat3 hK.toC h3 h1 h2
 | cmp2 a o1 b o2 d=>
  refine(SndE.cast ((sh_is (dt (ba (ba (ba (ba h).1).1).1).1):e=_).trans (congrArg (λu=>Expr.Compare _ u _ _) (dt (ba (ba (ba (ba h).1).1).1).2))) ?_:SndE Θ k env (.cmp2 a o1 b o2 d) e)
  refine ckL_cons (G:=λes=>lastMarks [o1,o2] es=false->SndE Θ k env (.cmp2 a o1 b o2 d) (.Compare (sh e).e1 [o1,o2] es (sh e).p)) (ba (ba h).1).2 (λy _ hy h'=>ckL_cons (G:=λes=>lastMarks [o1,o2] (y :: es)=false->SndE Θ k env (.cmp2 a o1 b o2 d) (.Compare (sh e).e1 [o1,o2] (y :: es) (sh e).p)) h' λz _ hz h'=>
   ckL_nil (G:=λes=>lastMarks [o1,o2] (y :: z :: es)=false->SndE Θ k env (.cmp2 a o1 b o2 d) (.Compare (sh e).e1 [o1,o2] (y :: z :: es) (sh e).p)) h' λhm=>snd_cmp2 st.toStat3 hK.toC hm (r.ex o (ba (ba (ba h).1).1).2) (r.ex o hy) (r.ex o hz)) (bn (ba h).2)
 | and y z=>exact(SndE.cast ((sh_is (dt (ba (ba h).1).1):e=_).trans (congrArg (λu=>Expr.BoolOp u _ _) (dt (ba (ba h).1).2))) (ck_and st hK r o (ba h).2):SndE Θ k env (.and y z) e)
 | ite t a b=>exact(SndE.cast (sh_is (dt (ba (ba (ba h).1).1).1)) (snd_ite (ckT_ok st hK r o 9 (ba (ba (ba h).1).1).2) (r.ex o (ba (ba h).1).2) (r.ex o (ba h).2)):SndE Θ k env (.ite t a b) e)
 | tup es=>exact(SndE.cast (sh_is (dt (ba (ba h).1).1)) (snd_tup (ckEs r o es (ba h).2).1 (dt (ba (ba h).1).2)):SndE Θ k env (.tup es) e)
 | lst es=>exact(SndE.cast (sh_is (dt (ba (ba h).1).1)) (snd_lst (ckEs r o es (ba h).2).1 (dt (ba (ba h).1).2)):SndE Θ k env (.lst es) e)
 | dict0=>exact(SndE.cast (sh_is (dt h)) snd_dict0:SndE Θ k env .dict0 e)
 | comp nn free y u xi fs=>
  refine(SndE.cast (sh_is (dt (ba h).1)) ?_:SndE Θ k env (.comp nn free y u xi fs) e)
  exact ckL_cons (G:=λgs=>SndE Θ k env (.comp nn free y u xi fs) (.ListComp (sh e).e1 gs (sh e).sc (sh e).p)) (ba h).2 λg _ hg h=>ckL_nil (G:=λgs=>SndE Θ k env (.comp nn free y u xi fs) (.ListComp (sh e).e1 (g :: gs) (sh e).sc (sh e).p)) h
   (ck_comp st hK r o hg λe1 e2 h1 h2 h3 h4 h5 h6 h7 h8 h9 h10=>by
    rw [e1,e2]
    exact snd_comp st.toStat5 hK h1 h2 h3 h4 h5 h6 h7 h8 h9 h10)
 | none=>exact(SndE.cast (sh_is (dt (ba h).1)) (ckC_ok (ba h).2):SndE Θ k env .none e)
 | bool b=>exact(SndE.cast (sh_is (dt (ba h).1)) (ckC_ok (ba h).2):SndE Θ k env (.bool b) e)
 | int i=>exact(SndE.cast (sh_is (dt (ba h).1)) (ckC_ok (ba h).2):SndE Θ k env (.int i) e)
 | str s=>exact(SndE.cast (sh_is (dt (ba h).1)) (ckC_ok (ba h).2):SndE Θ k env (.str s) e)
 | _=>exact Bool.noConfusion (ba h).2
theorem ck_ok (st:Stat6 Θ) (hK:SndK Θ k) (hB:SndB Θ k) (n:Nat):CkOK Θ k (ck n):=by
 induction n with
 | zero=>exact⟨λh=>Bool.noConfusion h,λ_ h=>Bool.noConfusion h,λ_ h=>Bool.noConfusion h⟩
 | succ n ih=>exact⟨λh=>dt (ba h).1,λo h=>ck1_ok st hK hB ih o (ba h).2,λ {env c op a b e} o h=>ck_cmp1 (G:=λe=>SndT Θ k env (.cmp op a b) e) st hK ih o (ba h).2 λx y p h1 h2 h3=>sndt_cmp st.toStat3 hK.toC h3 h1 h2⟩
end
structure Hyp (Θ:Cx) (k:Nat):Prop where
 st:Stat6 Θ
 hK:SndK Θ k
 hB:SndB Θ k
 te:nsIn Θ.K mainGlobals "TypeError" =some none
structure EnvS (Θ:Cx) (c:Ctx) (env:Env):Prop extends CtxOK Θ c env where
 kind:env.scope.kind= .function
 fr:env.frame=some env.locals
theorem shS_is {s:Stmt}{t:TgS} (h:(shS s).t=t):(shS s).is s t:=h▸shS_spec s
theorem isComp_ok {x:X} (h:isComp x=true): ∃n f y u i fs,x= .comp n f y u i fs:=by
 cases x <;> first | exact⟨_,_,_,_,_,_,rfl⟩ | exact Bool.noConfusion h
theorem swapsWith_other {e t:Expr}{line:Nat}{env:Env} (ht:(sh t).t≠ .name):swapsWith e (some t) line env=pure false:=by
 cases e <;> first | rfl | (cases t <;> first | rfl | exact absurd rfl ht)
theorem swapped_one {t e:Expr}{env:Env} (h1:(sh t).t≠ .tup) (h2:(sh t).t≠ .lst):swappedStores [t] e env=pure none:=by
 cases t <;> first | rfl | exact absurd rfl h1 | exact absurd rfl h2
theorem sw_two {y z:Str}{p1 p2 tp q:Pos}{kk k2:Nat}{vs:List Expr}{env:Env} (hk:env.scope.kind= .function) (hc:vs.all (constantsAlone 8)=false) (hl:vs.length=2) (hs:vs.any isStar=false) (hf:vs.all (foldedForSure 8)=false)
 (h1:env.scope.names.lookup y=some .local) (h2:env.scope.names.lookup z=some .local) (hp:p2.line=p1.line) (ne:y≠z):swappedStores [.Tuple [.Name y p1, .Name z p2] kk tp] (.Tuple vs k2 q) env=pure (some [y,z]):=by
 have e1:(env.kindOf y == some .local && p1.line == p1.line)=true:=Bool.and_eq_true_iff.mpr ⟨beq_iff_eq.mpr h1,beq_self_eq_true _⟩
 have e2:(env.kindOf z == some .local && p2.line == p1.line)=true:=Bool.and_eq_true_iff.mpr ⟨beq_iff_eq.mpr h2,beq_iff_eq.mpr hp⟩
 have e3:(!([Expr.Name y p1, .Name z p2].length == 2 || [Expr.Name y p1, .Name z p2].length == 3) || vs.length != [Expr.Name y p1, .Name z p2].length || env.blockKind != .function)=false:=by
  rw [hl];unfold Env.blockKind;rw [hk];rfl
 have e4:(([Expr.Name y p1, .Name z p2].filterMap λ | .Name id pos=>if(env.kindOf id == some .local && pos.line == p1.line)=true then some id else none | _=>none):List Str)= [y,z]:=by
  refine Eq.trans (List.filterMap_cons_some (b:=y) (if_pos e1)) (congrArg (λl=>y :: l) ?_)
  exact List.filterMap_cons_some (b:=z) (if_pos e2)
 have e5: [y,z].eraseDups= [y,z]:=by
  rw [List.eraseDups_cons,List.filter_cons,if_pos (by rw [Bool.not_eq_true',beq_false_of_ne (Ne.symm ne)]),List.filter_nil];rfl
 refine Eq.trans (b:=(if(!([Expr.Name y p1, .Name z p2].length == 2 || [Expr.Name y p1, .Name z p2].length == 3) || vs.length != [Expr.Name y p1, .Name z p2].length || env.blockKind != .function)=true then pure none else
  if vs.any isStar=true then pure none else
  if (([Expr.Name y p1, .Name z p2].filterMap λ | .Name id pos=>if(env.kindOf id == some .local && pos.line == p1.line)=true then some id else none | _=>none).length != 2 ||
   ([Expr.Name y p1, .Name z p2].filterMap λ | .Name id pos=>if(env.kindOf id == some .local && pos.line == p1.line)=true then some id else none | _=>none).eraseDups.length != ([Expr.Name y p1, .Name z p2].filterMap λ | .Name id pos=>if(env.kindOf id == some .local && pos.line == p1.line)=true then some id else none | _=>none).length)=true then pure none else
  if vs.all (foldedForSure 8)=true then pure none else
  if vs.all (constantsAlone 8)=true then(do unsupported "assign.tuple-of-constant-expressions:order-of-the-stores";pure (some ([Expr.Name y p1, .Name z p2].filterMap λ | .Name id pos=>if(env.kindOf id == some .local && pos.line == p1.line)=true then some id else none | _=>none))) else
  pure (some ([Expr.Name y p1, .Name z p2].filterMap λ | .Name id pos=>if(env.kindOf id == some .local && pos.line == p1.line)=true then some id else none | _=>none)):Sem (Option (List Str)))) rfl ?_
 rw [e3,hs,hf,hc,e4,e5]
 rfl
section
variable {Θ:Cx}{k:Nat}{env:Env}{c:Ctx}{rec:S->Stmt->Bool}
theorem SndS.cast {x:S}{s s':Stmt} (es:s=s') (h:SndS Θ k env x s'):SndS Θ k env x s:=es▸h
theorem SndG.cast {x:T}{e e':Expr} (es:e=e') (h:SndG Θ k env x e'):SndG Θ k env x e:=es▸h
theorem Hyp.ck (Y:Hyp Θ k) (n:Nat):CkOK Θ k (ck n):=ck_ok Y.st Y.hK Y.hB n
theorem Hyp.e (Y:Hyp Θ k) (o:CtxOK Θ c env) {x:X}{e:Expr} (h:Mini.ck 30 c x e=true):SndE Θ k env x e:=(Y.ck 30).ex o h
theorem Hyp.t (Y:Hyp Θ k) (o:CtxOK Θ c env) {x:X}{e:Expr} (h:ckT (Mini.ck 30 c) 9 x e=true):SndT Θ k env x e:=ckT_ok Y.st Y.hK (Y.ck 30) o 9 h
theorem ckG_ok (Y:Hyp Θ k) (o:CtxOK Θ c env) {g:T}{e:Expr} (h:ckG c e g=true):SndG Θ k env g e:=by
 cases g with
 | n i=>exact SndG.cast (sh_is (dt (ba h).1)) (sndg_n (o.nm1 (ba h).2 nofun).idx (o.nm1 (ba h).2 nofun).look)
 | c i=>exact SndG.cast (sh_is (dt (ba h).1)) (sndg_c (o.nm1 (ba h).2 nofun).idx (o.nm1 (ba h).2 nofun).look)
 | attr x a=>exact SndG.cast (sh_is (dt (ba (ba h).1).1)) (sndg_attr Y.st.toStat5 (o.at_▸(dt (ba h).2:c.at_[a]? =some (sh e).s)) (Y.e o (ba (ba h).1).2))
 | sub x i=>exact SndG.cast (sh_is (dt (ba (ba h).1).1)) (sndg_sub Y.st.toStat5 (SndK.toC Y.hK) (Y.e o (ba (ba h).1).2) (Y.e o (ba h).2))
theorem ckG_tag {g:T}{e:Expr} (h:ckG c e g=true):(sh e).t≠ .tup/\(sh e).t≠ .lst/\isStar e=false/\((sh e).t= .name->∃i,g= .n i\/g= .c i):=by
 have of: ∀ {t:Tg},(sh e).t=t->t≠ .tup->t≠ .lst->t≠ .oth->(t= .name->∃i,g= .n i\/g= .c i)->(sh e).t≠ .tup/\(sh e).t≠ .lst/\isStar e=false/\((sh e).t= .name->∃i,g= .n i\/g= .c i):=λq h1 h2 h3 h4=>⟨q▸h1,q▸h2,(sh_plain (q▸h3)).1,λz=>h4 (q▸z)⟩
 cases g with
 | n i=>exact of (dt (ba h).1) nofun nofun nofun λ_=>⟨i, .inl rfl⟩
 | c i=>exact of (dt (ba h).1) nofun nofun nofun λ_=>⟨i, .inr rfl⟩
 | attr x a=>exact of (dt (ba (ba h).1).1) nofun nofun nofun nofun
 | sub x a=>exact of (dt (ba (ba h).1).1) nofun nofun nofun nofun
theorem swaps_comp {elt:Expr}{gens:List Comprehension}{sc:Scope}{pos:Pos}{y:Str}{py:Pos}{line:Nat}: ∃b:Bool,swapsWith (.ListComp elt gens sc pos) (some (.Name y py)) line env=pure b/\(b=true->env.scope.names.lookup y=some .local) :=
 ⟨_,rfl,λh=>eq_of_beq (ba (ba (ba h).1).1).2⟩
theorem ck_asgC (Y:Hyp Θ k) (o:CtxOK Θ c env) {n j:Nat}{f:List (Nat × Nat)}{y i:X}{u:NT}{fs:List X}{q:Sh}{s:Str}{tp p:Pos}{gs:List Comprehension} (h:ckL (λ (_:Unit) g=>ckComp (ck 29) c n f y u i fs q g) [()] gs=true) (qn:NameOK env s j .local) :
 swapsWith (.ListComp q.e1 gs q.sc q.p) (some (.Name s tp)) p.line env=pure true->SndS Θ k env (.assign (.n j) (.comp n f y u i fs)) (.Assign [.Name s tp] (.ListComp q.e1 gs q.sc q.p) p) :=
 ckL_cons (G:=λgs=>swapsWith (.ListComp q.e1 gs q.sc q.p) (some (.Name s tp)) p.line env=pure true->SndS Θ k env (.assign (.n j) (.comp n f y u i fs)) (.Assign [.Name s tp] (.ListComp q.e1 gs q.sc q.p) p)) h λg' _ hg1 h'=>
  ckL_nil (G:=λgs=>swapsWith (.ListComp q.e1 (g' :: gs) q.sc q.p) (some (.Name s tp)) p.line env=pure true->SndS Θ k env (.assign (.n j) (.comp n f y u i fs)) (.Assign [.Name s tp] (.ListComp q.e1 (g' :: gs) q.sc q.p) p)) h'
   (ck_comp Y.st Y.hK (Y.ck 29) o hg1 λe1 e2 h1 h2 h3 h4 h5 h6 h7 h8 h9 h10=>by
    rw [e1,e2]
    exact λhsw=>snds_compAssign Y.st.toStat5 Y.hK h1 h2 h3 h4 h5 h6 h7 h8 h9 h10 hsw qn.idx qn.look)
theorem ck_asg (Y:Hyp Θ k) (o:CtxOK Θ c env) {g:T}{x:X}{t e:Expr}{p:Pos} (hg:ckG c t g=true) (he:ck 30 c x e=true) (hc:(decide ((sh e).t≠ .comp) || isComp x)=true):SndS Θ k env (.assign g x) (.Assign [t] e p) :=
 have tg:=ckG_tag hg
 have plain:swapsWith e (some t) p.line env=pure false->SndS Θ k env (.assign g x) (.Assign [t] e p):=λhs=>snds_assign hs (swapped_one tg.1 tg.2.1) tg.2.2.1 (Y.e o he) (ckG_ok Y o hg)
 Classical.byCases (λhn:(sh t).t= .name=>(Bool.or_eq_true_iff.mp hc).elim (λh=>plain (sh_swaps ((Y.ck 30).no he) (dt h))) λh=>(isComp_ok h).elim λn h=>h.elim λf h=>h.elim λy h=>h.elim λu h=>h.elim λi h=>h.elim λfs h=>by
  have he':(decide ((sh e).t≠ .oth) && ck1 (ck 29) c e x)=true:=he
  rw [h] at he'
  have h1:(decide ((sh e).t= .comp) && ckL (λ (_:Unit) g=>ckComp (ck 29) c n f y u i fs (sh e) g) [()] (sh e).gens)=true:=(ba he').2
  have ee:e= .ListComp (sh e).e1 (sh e).gens (sh e).sc (sh e).p:=sh_is (dt (ba h1).1)
  have et:t= .Name (sh t).s (sh t).p:=sh_is hn
  refine(swaps_comp (env:=env) (elt:=(sh e).e1) (gens:=(sh e).gens) (sc:=(sh e).sc) (pos:=(sh e).p) (y:=(sh t).s) (py:=(sh t).p) (line:=p.line)).elim λb hb=> ?_
  rw [<- ee, <- et] at hb
  cases b with
  | false=>exact plain hb.1
  | true=>
   refine(tg.2.2.2 hn).elim λj hj=>hj.elim (λhj=> ?_) λhj=> ?_
   ·have hg':(decide ((sh t).t= .name) && ckN c (sh t).s j .local)=true:=(hj▸hg:ckG c t (.n j)=true)
    have q:=o.nm1 (ba hg').2 nofun
    rw [hj,h]
    exact SndS.cast (by rw [<- et, <- ee]) (ck_asgC Y o (ba h1).2 q (ee▸et▸hb.1))
   ·have hg':(decide ((sh t).t= .name) && ckN c (sh t).s j .cell)=true:=(hj▸hg:ckG c t (.c j)=true)
    exact NameKind.noConfusion (Option.some.inj ((o.nm1 (ba hg').2 nofun).look.symm.trans (hb.2 rfl)))) λhn=>plain (swapsWith_other hn)
end
section
variable {Θ:Cx}{k:Nat}{env:Env}{c:Ctx}{rec:S->Stmt->Bool}
theorem nil_of {α:Type}{l:List α} (h:l.isEmpty=true):l= []:=List.isEmpty_iff.mp h
theorem ckSs (r: ∀ {x s},rec x s=true->SndS Θ k env x s) (xs:List S): ∀ {b:List Stmt},ckL rec xs b=true->SndSs Θ k env xs b:=by
 induction xs with
 | nil=>intro b h;exact(ckL_nil (G:=λb=>SndSs Θ k env [] b) h sndss_nil:SndSs Θ k env [] b)
 | cons x xs ih=>intro b h;exact(ckL_cons (G:=λb=>SndSs Θ k env (x :: xs) b) h λs b h1 h2=>sndss_cons (r h1) (ih h2):SndSs Θ k env (x :: xs) b)
theorem sw_names {is:List Nat}{ts:List Expr} (o:CtxOK Θ c env) (h:ckL (ckLoc c) is ts=true) (hl:(ts.map λd=>(sh d).p.line)=List.replicate 2 (sh ts.head!).p.line) (hn:(ts.map λd=>(sh d).s).Nodup) {G:List Nat->List Expr->Prop}
 (f: ∀i j y z p1 p2,NameOK env y i .local->NameOK env z j .local->p2.line=p1.line->y≠z->G [i,j] [.Name y p1, .Name z p2]):G is ts:=by
 rcases ts with _ | ⟨a,_ | ⟨b,_ | ⟨_,_⟩⟩⟩
 ·exact nomatch hl
 ·injection hl with _ hl;exact nomatch hl
 ·rcases is with _ | ⟨i,_ | ⟨j,_ | ⟨_,_⟩⟩⟩
  ·exact Bool.noConfusion h
  ·exact Bool.noConfusion (ba h).2
  ·have q1:=ckLoc_ok o (ba h).1
   have q2:=ckLoc_ok o (ba (ba h).2).1
   have e: [a,b]= [.Name (sh a).s (sh a).p, .Name (sh b).s (sh b).p]:=by rw [<- q1.1, <- q2.1]
   injection hl with _ hl
   injection hl with hl _
   rw [e]
   exact f i j _ _ _ _ q1.2 q2.2 hl λe=>(List.nodup_cons.mp hn).1 (show(sh a).s∈ [(sh b).s] from e▸List.Mem.head _)
  ·exact Bool.noConfusion (ba (ba h).2).2
 ·injection hl with _ hl;injection hl with _ hl;exact nomatch hl
theorem ck_swap (Y:Hyp Θ k) (o:EnvS Θ c env) {is:List Nat}{x:X}{t e:Expr}{p:Pos} (h:ckSw c x is t e=true):SndS Θ k env (.unpack is x) (.Assign [t] e p):=by
 have h1:=ba h
 have h2:=ba h1.1
 have h3:=ba h2.1
 have h4:=ba h3.1
 have h5:=ba h4.1
 have h6:=ba h5.1
 have h7:=ba h6.1
 have h8:=ba h7.1
 have h9:=ba h8.1
 have et:t= .Tuple (sh t).es (sh t).k (sh t).p:=sh_is (dt h9.1)
 have ee:e= .Tuple (sh e).es (sh e).k (sh e).p:=sh_is (dt h9.2)
 refine(SndS.cast (congrArg (λt=>Stmt.Assign [t] e p) et) (sw_names (G:=λis ts=>SndS Θ k env (.unpack is x) (.Assign [.Tuple ts (sh t).k (sh t).p] e p)) o.toCtxOK h3.2 (dt h2.2) (dt h1.2) λi j y z p1 p2 q1 q2 hl ne=> ?_):SndS Θ k env (.unpack is x) (.Assign [t] e p))
 have hw:swappedStores [.Tuple [.Name y p1, .Name z p2] (sh t).k (sh t).p] e env=pure (some [y,z]):=by
  rw [ee]
  exact sw_two o.kind (bn h7.2) (dt h6.2) (bn h5.2) (bn h4.2) q1.look q2.look hl ne
 have hij:i≠j:=λe=>ne (congrArg Prod.fst (Option.some.inj ((idx_of_lookup q1.idx q1.look).symm.trans (e▸idx_of_lookup q2.idx q2.look))))
 exact(snds_swap (swapsWith_other nofun) hw (Y.e o.toCtxOK h8.2) q1.idx q1.look q2.idx q2.look hij:SndS Θ k env (.unpack [i,j] x) (.Assign [.Tuple [.Name y p1, .Name z p2] (sh t).k (sh t).p] e p))
theorem ck_try (Y:Hyp Θ k) (o:EnvS Θ c env) (r: ∀ {x s},rec x s=true->SndS Θ.hdl k env x s) {x y z:X}{hs:List S}{q:ShS}{p:Pos} (h:ckTry rec c x y z hs q=true):SndS Θ k env (.tryTE x y z hs) (.Try q.s1 q.hd q.s2 q.s3 p):=by
 unfold ckTry at h
 rcases hq:q.s1 with _ | ⟨s1,_ | ⟨s2,_ | ⟨_,_⟩⟩⟩
 ·rw [hq] at h;exact Bool.noConfusion h
 ·rw [hq] at h;exact Bool.noConfusion h
 ·rcases hd :q.hd with _ | ⟨⟨te,nm,b,hp⟩,_ | ⟨_,_⟩⟩
  ·rw [hq,hd] at h;exact Bool.noConfusion h
  ·rw [hq, hd] at h
   cases te with
   | none=>exact Bool.noConfusion h
   | some te=>cases nm with
    | some _=>exact Bool.noConfusion h
    | none =>cases b with
     | nil=>exact Bool.noConfusion (ba (ba h).1).2
     | cons b0 suite=>
      have h1:=ba h
      have h2:=ba (ba h1.1).1
      have h3:=ba h2.1
      have h4:=ba h3.1
      have h5:=ba h4.1
      have h6:=ba h5.1
      have h7:=ba h6.1
      have h8:=ba h7.1
      have h9:=ba h8.1
      have h10:=ba h9.1
      have h11:=ba h10.1
      have et:te= .Name "TypeError" (sh te).p:=(sh_is (dt h4.2):te=_).trans (congrArg (λs=>Expr.Name s _) (dt h3.2))
      have e1:s1= .If (shS s1).e1 (shS s1).s1 (shS s1).s2 (shS s1).p:=shS_is (dt h10.2)
      have e2:s2= .Return (some (shS s2).e1) (shS s2).p:=shS_is (dt h6.2)
      rw [nil_of h11.1,nil_of h11.2,et,e1,e2,nil_of h7.2]
      exact(ckL_cons (G:=λl=>SndS Θ k env (.tryTE x y z hs) (.Try [.If (shS s1).e1 l [] (shS s1).p, .Return (some (shS s2).e1) (shS s2).p] [⟨some (.Name "TypeError" (sh te).p),none,b0 :: suite,hp⟩] [] [] p)) h8.2 λr1 l ha h'=>ckL_nil (G:=λl=>SndS Θ k env (.tryTE x y z hs) (.Try [.If (shS s1).e1 (r1 :: l) [] (shS s1).p, .Return (some (shS s2).e1) (shS s2).p] [⟨some (.Name "TypeError" (sh te).p),none,b0 :: suite,hp⟩] [] [] p)) h' (by
       rw [(shS_is (dt (ba ha).1):r1=_)]
       exact snds_try Y.st.toStat5 (SndK.toC Y.hK) o.fr Y.te (o.glob (dt h2.2)) (Y.t o.toCtxOK h9.2) (Y.e o.toCtxOK (ba ha).2) (Y.e o.toCtxOK h5.2) (ckSs r hs h1.2)):SndS Θ k env (.tryTE x y z hs) (.Try [.If (shS s1).e1 (shS s1).s1 [] (shS s1).p, .Return (some (shS s2).e1) (shS s2).p] [⟨some (.Name "TypeError" (sh te).p),none,b0 :: suite,hp⟩] [] [] p))
  ·rw [hq,hd] at h;cases te <;> cases nm <;> exact Bool.noConfusion h
 ·rw [hq] at h;exact Bool.noConfusion h
theorem ckS1_ok (Y:Hyp Θ k) (o:EnvS Θ c env) (r1: ∀ {x s},rec x s=true->SndS Θ k env x s) (r2: ∀ {x s},rec x s=true->SndS Θ.hdl k env x s) {x:S}{s:Stmt} (h:ckS1 rec c s x=true):SndS Θ k env x s:=by
 cases x with
 | expr x=>exact SndS.cast (shS_is (dt (ba (ba h).1).1)) (snds_expr (by unfold interactive;rw [o.kind];rfl) (sh_swaps ((Y.ck 30).no (ba h).2) (dt (ba (ba h).1).2)) (Y.e o.toCtxOK (ba h).2))
 | ret x=>exact SndS.cast (shS_is (dt (ba h).1)) (snds_ret (Y.e o.toCtxOK (ba h).2))
 | retIter x=>
  refine SndS.cast ((shS_is (dt (ba (ba (ba (ba (ba h).1).1).1).1).1):s=_).trans (congrArg (λe=>Stmt.Return (some e) _) ((sh_is (dt (ba (ba (ba (ba (ba h).1).1).1).1).2):(shS s).e1=_).trans (by rw [nil_of (ba (ba h).1).2,(sh_is (dt (ba (ba (ba (ba h).1).1).1).2):(sh (shS s).e1).e1=_)])))) ?_
  refine ckL_cons (G:=λes=>SndS Θ k env (.retIter x) (.Return (some (.Call (.Name (sh (sh (shS s).e1).e1).s (sh (sh (shS s).e1).e1).p) es [] (sh (shS s).e1).p)) (shS s).p)) (ba h).2 λa l ha h'=>ckL_nil (G:=λl=>SndS Θ k env (.retIter x) (.Return (some (.Call (.Name (sh (sh (shS s).e1).e1).s (sh (sh (shS s).e1).e1).p) (a :: l) [] (sh (shS s).e1).p)) (shS s).p)) h' ?_
  exact snds_retIter Y.st.toStat5 Y.hK (SndE.cast (sh_is (dt (ba (ba (ba (ba h).1).1).1).2)).symm (Y.e o.toCtxOK (ba (ba (ba h).1).1).2)) (sh_plain ((Y.ck 30).no ha)).1 (Y.e o.toCtxOK ha)
 | assign g x=>exact SndS.cast (shS_is (dt (ba (ba (ba h).1).1).1)) (ck_asg Y o.toCtxOK (ba (ba (ba h).1).1).2 (ba (ba h).1).2 (ba h).2)
 | unpack is x=>exact SndS.cast (shS_is (dt (ba h).1)) (ck_swap Y o (ba h).2)
 | augSub a i op x=>
  refine SndS.cast ((shS_is (dt (ba (ba (ba (ba (ba h).1).1).1).1).1):s=_).trans (by rw [dt (ba (ba (ba (ba (ba h).1).1).1).1).2,(sh_is (dt (ba (ba (ba (ba h).1).1).1).2):(shS s).e1=_)])) ?_
  exact snds_augSub Y.st.toStat5 (SndK.toC Y.hK) (Y.e o.toCtxOK (ba (ba (ba h).1).1).2) (Y.e o.toCtxOK (ba (ba h).1).2) (Y.e o.toCtxOK (ba h).2) (sh_plain ((Y.ck 30).no (ba (ba h).1).2)).2
 | ite t a b=>exact SndS.cast (shS_is (dt (ba (ba (ba h).1).1).1)) (snds_if (Y.t o.toCtxOK (ba (ba (ba h).1).1).2) (ckSs r1 a (ba (ba h).1).2) (ckSs r1 b (ba h).2))
 | for_ u x b=>exact SndS.cast ((shS_is (dt (ba (ba (ba (ba h).1).1).1).1):s=_).trans (by rw [nil_of (ba h).2])) (snds_for Y.st.toStat5 Y.hK (sh_set ((Y.ck 30).no (ba (ba (ba h).1).1).2) env) (Y.e o.toCtxOK (ba (ba (ba h).1).1).2) (ckNT_ok o.toCtxOK (ba (ba (ba (ba h).1).1).1).2) (ckSs r1 b (ba (ba h).1).2))
 | tryTE x y z hs=>exact SndS.cast (shS_is (dt (ba h).1)) (ck_try Y o r2 (ba h).2)
 | bad=>exact snds_bad
theorem ckS_ok (Y:Hyp Θ k) (YH:Hyp Θ.hdl k) (o:EnvS Θ c env) (n:Nat):(∀ {x s},ckS n c x s=true->SndS Θ k env x s)/\∀ {x s},ckS n c x s=true->SndS Θ.hdl k env x s:=by
 have oh:EnvS Θ.hdl c env:=⟨⟨o.gl,o.at_,o.nm⟩,o.kind,o.fr⟩
 induction n with
 | zero=>exact⟨λh=>Bool.noConfusion h,λh=>Bool.noConfusion h⟩
 | succ n ih=>exact⟨λh=>ckS1_ok Y o ih.1 ih.2 h,λh=>ckS1_ok (Θ:=Θ.hdl) YH oh ih.2 ih.2 h⟩
theorem ckB_ok (Y:Hyp Θ k) (YH:Hyp Θ.hdl k) (o:EnvS Θ c env) {xs:List S}{b:List Stmt} (h:ckB c xs b=true):SndSs Θ k env xs b/\SndSs Θ.hdl k env xs b:=
 ⟨ckSs (ckS_ok Y YH o 20).1 xs h,ckSs (ckS_ok Y YH o 20).2 xs h⟩
end
noncomputable def FnTr (Θ:Cx):Prop:=∀ (f:Nat) (fn:Fn) (a:Addr),Θ.P.fns[f]? =some (some fn)->Θ.τ.fa f=some a->
 ∃d:FnData,FnOK Θ fn a d/\ckB ⟨d.scope.names,Θ.gl,Θ.τ.nm⟩ fn.body d.body=true
theorem env_of {Θ:Cx}{fn:Fn}{a:Addr}{d:FnData} (ok:FnOK Θ fn a d) (L:Addr):EnvS Θ ⟨d.scope.names,Θ.gl,Θ.τ.nm⟩ (d.env L a) :=
 ⟨⟨rfl,rfl,λ_=>false,((List.map_congr_left λx _=>by unfold relB;rw [Bool.and_false];rfl).trans (List.map_id _)).symm⟩,ok.kind,rfl⟩
theorem FnOK.hdl {Θ:Cx}{fn:Fn}{a:Addr}{d:FnData} (o:FnOK Θ fn a d):FnOK Θ.hdl fn a d:=
 ⟨o.obj,o.code,o.plain,o.co,o.gen,o.kind,o.nd,o.nofree,o.pix,o.pixl,o.own,o.nsl,o.dfl,
  o.dflt.imp id λh=>h.imp λT h=>h.imp λob h=>h.imp λits h=>h.imp λn h=>⟨h.1,h.2.1,h.2.2.1,λ φ news d=>h.2.2.2 φ news ⟨d.d,d.p⟩⟩⟩
theorem sndk_zero {Θ:Cx}:SndK Θ 0:=λroom S hfa ra rk hp=>hp.elim
theorem sndb_hdl {Θ:Cx}{n:Nat}:SndB Θ.hdl n where
 sorted:=λr S rv hp=>False.elim hp
 set:=λr S rv hp=>False.elim hp
noncomputable abbrev Cx.pinned (Θ:Cx) (p:List (Addr × Obj)):Cx:={Θ with pin:=p}
theorem FnOK.pinned {Θ:Cx}{fn:Fn}{a:Addr}{d:FnData} (o:FnOK (Θ.pinned []) fn a d) (p:List (Addr × Obj)):FnOK (Θ.pinned p) fn a d:=
 ⟨o.obj,o.code,o.plain,o.co,o.gen,o.kind,o.nd,o.nofree,o.pix,o.pixl,o.own,o.nsl,o.dfl,
  o.dflt.imp id λh=>h.imp λT h=>h.imp λob h=>h.imp λits h=>h.imp λn h=>⟨h.1,h.2.1,h.2.2.1,λ φ news d=>h.2.2.2 φ news ⟨d.d,λq hq=>nomatch hq⟩⟩⟩
theorem Stat6.pinned {Θ:Cx} (st:Stat6 Θ) (p:List (Addr × Obj)):Stat6 (Θ.pinned p) :=
 {nmnd:=st.nmnd,sp:=st.sp,meth:=st.meth,spm:=st.spm,noB:=st.noB,noL:=st.noL,cls:=st.cls,clsD:=st.clsD,clsO:=st.clsO,clsS:=st.clsS,clsM:=st.clsM,attr:=st.attr,attrT:=st.attrT,err:=sndErr _,intF:=st.intF,seq:=st.seq,isi1:=st.isi1,isi2:=st.isi2,isi3:=st.isi3,own:=st.own,own2:=st.own2,gl:=st.gl,keepC:=st.keepC,keepF:=st.keepF,cm:=st.cm,plain:=st.plain,ap:=st.ap}
theorem Stat6.hdl {Θ:Cx} (st:Stat6 Θ):Stat6 Θ.hdl:=
 {nmnd:=st.nmnd,sp:=st.sp,meth:=st.meth,spm:=st.spm,noB:=st.noB,noL:=st.noL,cls:=st.cls,clsD:=st.clsD,clsO:=st.clsO,clsS:=st.clsS,clsM:=st.clsM,attr:=st.attr,attrT:=st.attrT,err:=sndErr _,intF:=st.intF,seq:=st.seq,isi1:=st.isi1,isi2:=st.isi2,isi3:=st.isi3,own:=st.own,own2:=st.own2,gl:=st.gl,keepC:=st.keepC,keepF:=st.keepF,cm:=st.cm,plain:=st.plain,ap:=st.ap}
theorem snd_all_pins {Θ:Cx} (st:Stat6 Θ) (te:nsIn Θ.K mainGlobals "TypeError" =some none) (hf:FnTr (Θ.pinned [])) (hB: ∀n,(∀p,SndK (Θ.pinned p) n)->∀p,SndB (Θ.pinned p) n) (n:Nat): ∀p,Hyp (Θ.pinned p) n/\Hyp (Θ.pinned p).hdl n:=by
 have mk: ∀n,(∀p,SndK (Θ.pinned p) n)->(∀p,SndK (Θ.pinned p).hdl n)->∀p,Hyp (Θ.pinned p) n/\Hyp (Θ.pinned p).hdl n:=λn a b p=>⟨⟨st.pinned p,a p,hB n a p,te⟩,⟨(st.pinned p).hdl,b p,sndb_hdl,te⟩⟩
 induction n with
 | zero=>exact mk 0 (λp=>sndk_zero) λp=>sndk_zero
 | succ n ih=>
  refine mk (n + 1) (λp=>sndk_step (Θ:=Θ.pinned p) λf fn a h1 h2=>(hf f fn a h1 h2).imp λd h=>⟨h.1.pinned p,λL'=>(ckB_ok (Θ:=Θ.pinned p) (ih p).1 (ih p).2 (env_of (h.1.pinned p) L') h.2).1⟩) λp=> ?_
  exact sndk_step (Θ:=(Θ.pinned p).hdl) λf fn a h1 h2=>(hf f fn a h1 h2).imp λd h=>⟨(h.1.pinned p).hdl,λL'=>(ckB_ok (Θ:=Θ.pinned p) (ih p).1 (ih p).2 (env_of (h.1.pinned p) L') h.2).2⟩
section
variable {Θ:Cx}{A:Around}{lf:Option (List Env)}{h₀:Gd}{h:Heap}{L:Addr}{m:Str->Option Value}{φ:Phi}{H:Hp}{news:Nws}
noncomputable def frObjs (g:Heap) (fs:List Addr):Nws:=fs.filterMap λb=>(g.get? b).map λo=>(b,o)
theorem frObjs_mem {g:Heap}{fs:List Addr}{q:Addr × Obj} (h:q∈frObjs g fs):q.1∈fs/\g.get? q.1=some q.2:=
 (List.mem_filterMap.mp h).elim λb hb=>(Option.map_eq_some_iff.mp hb.2).elim λo ho=>ho.2▸⟨hb.1,ho.1⟩
theorem mem_frObjs {g:Heap}{fs:List Addr}{b:Addr}{o:Obj} (hb:b∈fs) (ho:g.get? b=some o):(b,o)∈frObjs g fs:=
 List.mem_filterMap.mpr ⟨b,hb,congrArg (Option.map λo=>(b,o)) ho⟩
noncomputable abbrev stillG (h₀:Gd):Heap:=hideAll h₀.h h₀.fs
theorem stillG_in {g:Gd}{h':Heap}{news':Nws} (T:Turn h₀ g) (F:Fr g.h L h' m) (N:News g.h L h' news') :
 Fr (stillG h₀) L h' m/\News (stillG h₀) L h' (frObjs g.h h₀.fs ++ news'):=by
 have T2:=T.2
 refine⟨⟨F.ns,λb o e=> ?_, ?_⟩,λq hq=>(List.mem_append.mp hq).elim (λhq=> ?_) λhq=> ?_⟩
 ·exact F.keep b o (T2.other b o (of_hideAll h₀.fs e) λhb=>nos ((hideAll_none h₀.fs hb).symm.trans e))
 ·show(hideAll h₀.h h₀.fs).objs.size<=L
  rw [hideAll_size, <- T2.size];exact F.above
 ·have z:=frObjs_mem hq
  exact⟨F.keep _ _ z.2,λe=>nos ((kts_self F).symm.trans (e▸z.2)),hideAll_none _ z.1⟩
 ·have z:=N q hq
  refine⟨z.1,z.2.1, ?_⟩
  cases e:(stillG h₀).get? q.1 with
  | none=>rfl
  | some o=>exact(T2.up (of_hideAll h₀.fs e)).elim λsl hs=>nos (z.2.2.symm.trans hs)
theorem stillG_out {g:Gd}{h':Heap}{news':Nws} (T:Turn h₀ g) (hg: ∀q∈news',g.h.get? q.1=none) (F:Fr (stillG h₀) L h' m) (N:News (stillG h₀) L h' (frObjs g.h h₀.fs ++ news')) :
 Fr g.h L h' m/\News g.h L h' news':=by
 have T2:=T.2
 refine⟨⟨F.ns,λb o e=> ?_, ?_⟩,λq hq=> ?_⟩
 ·by_cases hb:b∈h₀.fs
  ·exact(N (b,o) (List.mem_append_left _ (mem_frObjs hb e))).1
  ·cases e0:h₀.h.get? b with
   | none=>exact nos ((T2.none_ b e0).symm.trans e)
   | some o0=>exact F.keep b o (hideAll_get h₀.fs (Option.some.inj ((T2.other b o0 e0 hb).symm.trans e)▸e0) hb)
 ·have h:=F.above
  rw [hideAll_size, <- T2.size] at h
  exact h
 ·have z:=N q (List.mem_append_right _ hq)
  exact⟨z.1,z.2.1,hg q hq⟩
end
section
variable {Θ:Cx}{n:Nat}{A:Around}{h₀:Gd}{h:Heap}{L:Addr}{m:Str->Option Value}{φ:Phi}{H:Hp}{news:Nws}{s:Shared}{E:Value->Shared->Prop}
theorem ask_inst {l:Nat}{w:V}{p q:Value}{Q:Bool->Shared->Prop} (st:Stat2 Θ) (hC:SndC Θ n) (r:RoomC A n Θ.P.hd) (S:Stt Θ A.frames h₀ L m φ H news s.heap)
 (rv:VRel Θ.τ φ news (.ref l) p) (rw_:VRel Θ.τ φ news w q)
 (hp:Pst Θ A.frames h₀ L m RE Q E φ news s (ltv false (run n Θ.P) Θ.P (.ref l) w H)):wpAny Θ.M A (keyLt' oneType' p q) Q E s:=by
 refine Pst.om (Pst.cls S rw_ (Pst.cls S rv hp)) (λ_ hp=>Pst.ite hp λ_ hp=>hp.elim) λc hc hp=>Pst.ofO hp λf hf hp=>Pst.ite hp λhw hp=> ?_
 refine cls_at S rv hc λl at_ pa C es kk e1 e2 hl ho d=>(st.meth c nLt f C "__lt__" hf (st.spm c nLt f hf (by decide)) d.ca (st.sp (nLt, "__lt__") (by decide))).elim λa e=> ?_
 subst e2
 exact kas_lt_inst (Nat.lt_of_le_of_lt (Nat.le_add_right _ _) r.units) S.fr S.top.k (d.at S) e.2.1 e.2.2.1 (wp_boolBack hC r S e.1 (.cons rv (.cons rw_ .nil)) hp)
theorem isTupI_inv {v:V} (h:isTupI v=true): ∃i r,v= .tup (.int i :: r):=by
 unfold isTupI at h
 cases v with
 | tup vs=>
  cases vs with
  | nil=>exact Bool.noConfusion h
  | cons x r=>
   cases x with
   | int i=>exact⟨i,r,rfl⟩
   | _=>exact Bool.noConfusion h
 | _=>exact Bool.noConfusion h
theorem katLex {c fin:Bool}{Q:Bool->Shared->Prop} (N:News h₀.h L s.heap news) (hu:A.units + 64 < cLine) (hq:Q c s) (as:List V): ∀ {bs:List V}{xs ys:List Value} (i:Nat),
 VRels Θ.τ φ news as xs->VRels Θ.τ φ news bs ys->pords false as bs=some c->fin=decide (as.length < bs.length)->(i=0->isTupI (.tup as)=true/\isTupI (.tup bs)=true)->KatLex Θ.τ.prog Θ.τ.w A true fin Q (xs.zip ys) i s:=by
 induction as with
 | nil=>
  intro bs xs ys i rx ry hc hf _
  rw [rx.nil_inv]
  refine kat_nil ?_
  have e:fin=c:=by
   cases bs with
   | nil=>exact hf.trans (Option.some.inj hc)
   | cons b r=>exact(hf.trans (decide_eq_true (Nat.succ_pos _))).trans (Option.some.inj hc)
  exact e▸hq
 | cons v as ih=>
  intro bs xs ys i rx ry hc hf hi
  cases bs with
  | nil=>
   rw [ry.nil_inv,List.zip_nil_right]
   exact kat_nil (((hf.trans (decide_eq_false (Nat.not_lt_zero _))).trans (Option.some.inj hc):fin=c)▸hq)
  | cons w bs=>
   refine rx.cons_inv.elim λp h=>h.elim λxs h=>ry.cons_inv.elim λq g=>g.elim λys g=> ?_
   rw [h.1,g.1,List.zip_cons_cons]
   have hc:(peq v w).bind (λe=>if e then pords false as bs else(pord0 false v w).val?)=some c:=hc
   refine(Option.bind_eq_some_iff.mp hc).elim λr1 hr=>kat_cons (wp_eqBool N hu h.2.1 g.2.1 hr.1 ?_)
   cases r1 with
   | true=>exact kat_yes (ih (i + 1) h.2.2 g.2.2 hr.2 (hf.trans (decide_eq_decide.mpr Nat.succ_lt_succ_iff)) λe=>Nat.noConfusion e)
   | false=>
    refine kat_no ?_
    have hpo:(pord0 false v w).val? =some c:=hr.2
    have hv:pord0 false v w= .val c:=by
     cases e:pord0 false v w with
     | val b=>rw [e] at hpo;exact congrArg LtR.val (Option.some.inj hpo)
     | err=>rw [e] at hpo;exact nos hpo
     | no=>rw [e] at hpo;exact nos hpo
    by_cases h0:i=0
    ·refine(isTupI_inv (hi h0).1).elim λa e=>e.elim λ_ e=>(isTupI_inv (hi h0).2).elim λb e'=>e'.elim λ_ e'=> ?_
     injection e with e;injection e with e _
     injection e' with e';injection e' with e' _
     rw [h0]
     refine h.2.1.intI (C:=λp=>wpAny (model Θ.τ.prog Θ.τ.w) A (oneLt' (true && 0 == 0) p q) Q _ s) (i:=a) (e▸rfl) λt=>g.2.1.intI (C:=λq=>wpAny (model Θ.τ.prog Θ.τ.w) A (oneLt' (true && 0 == 0) (.int a t) q) Q _ s) (i:=b) (e'▸rfl) λu=>oneLt_int ?_
     rw [e,e'] at hv
     injection hv with hv
     exact(show decide (a < b)=c from hv)▸hq
    ·rw [show(true && i == 0)=false from beq_false_of_ne h0]
     exact kat_one _ _ (wp_pord0 (g:=false) h.2.1 g.2.1 hv hq)
theorem ask_no {v w:V}{p q:Value}{Q:Bool->Shared->Prop}{G:Prop} (S:Stt Θ A.frames h₀ L m φ H news s.heap) (rv:VRel Θ.τ φ news v p) (rw_:VRel Θ.τ φ news w q) (hv:vRef v=none) (e:pord false v w= .no)
 (hp:Pst Θ A.frames h₀ L m RE Q E φ news s (ltv false (run n Θ.P) Θ.P v w H)):G:=by
 refine Pst.om (Pst.cls S rw_ (Pst.cls S rv hp)) (λ_ hp=>Pst.ite hp λ_ hp=> ?_) λc hc _=> ?_
 ·rw [e] at hp;exact hp.elim
 ·unfold clsIn at hc
  rw [hv] at hc
  exact nos hc
theorem pord_none {w:V} (hw:kd w=0\/w= .none):pord false .none w= .no:=by
 show pord0 false .none w= .no
 unfold pord0
 rcases hw with hw | hw
 ·rw [hw];rfl
 ·rw [hw];rfl
theorem ask_tup {v w:V}{p q:Value}{Q:Bool->Shared->Prop} (hu:A.units + 64 < cLine) (S:Stt Θ A.frames h₀ L m φ H news s.heap)
 (rv:VRel Θ.τ φ news v p) (rw_:VRel Θ.τ φ news w q) (h1:isTupI v=true) (h2:isTupI w=true)
 (hp:Pst Θ A.frames h₀ L m RE Q E φ news s (ltv false (run n Θ.P) Θ.P v w H)):wpAny Θ.M A (keyLt' (tuples' true) p q) Q E s:=by
 refine(isTupI_inv h1).elim λi e=>e.elim λas e=>(isTupI_inv h2).elim λj e'=>e'.elim λbs e'=> ?_
 rw [e] at h1 rv hp
 rw [e'] at h2 rw_ hp
 have hp:Pst Θ A.frames h₀ L m RE Q E φ news s (ofLtR Θ.P (pord false (.tup (.int i :: as)) (.tup (.int j :: bs))) H):=hp
 refine rv.tupI (C:=λp=>wpAny Θ.M A (keyLt' (tuples' true) p q) Q E s) rfl λa xs k ha ra=>rw_.tupI (C:=λq=>wpAny Θ.M A (keyLt' (tuples' true) (.ref a) q) Q E s) rfl λb ys l hb rb=>kat_lt (S.nw.get ha) rfl (S.nw.get hb) rfl ?_
 rcases pord_cases false (.tup (.int i :: as)) (.tup (.int j :: bs)) with⟨e,_⟩ | ⟨x,y,c,hx,hy,hz,e⟩ | e
 ·exact nos e.symm
 ·rw [e] at hp
  rw [<- Option.some.inj hx, <- Option.some.inj hy] at hz
  exact katLex (φ:=φ) (c:=c) S.nw hu (hp _ _ _ _ _ _ .rfl S (.refl _ _) rfl) _ 0 ra rb hz (by rw [ra.length,rb.length];rfl) λ_=>⟨h1,h2⟩
 ·rw [e] at hp;exact hp.elim
end
section
variable {Θ:Cx}{n:Nat}{A:Around}{lf:Option (List Env)}{h₀:Gd}{h:Heap}{L:Addr}{m:Str->Option Value}{φ:Phi}{H:Hp}{news:Nws}{s:Shared}{E:Value->Shared->Prop}
theorem GB.unpin {p:List (Addr × Obj)} (b:GB (Θ.pinned p) lf h₀ L):GB Θ lf h₀ L:=by
 cases b with
 | own B h1 h2 h3 h4 t=>exact .own B h1 h2 h3 h4 ⟨t.k,t.scr,t.top⟩
 | comp B h1 h4 t=>exact .comp B h1 h4 ⟨t.k,t.scr,t.top⟩
theorem GB.pin {p:List (Addr × Obj)} (b:GB Θ lf h₀ L):GB (Θ.pinned p) lf h₀ L:=by
 cases b with
 | own B h1 h2 h3 h4 t=>exact .own B h1 h2 h3 h4 ⟨t.k,t.scr,t.top⟩
 | comp B h1 h4 t=>exact .comp B h1 h4 ⟨t.k,t.scr,t.top⟩
theorem Stt.unpin {p:List (Addr × Obj)} (S:Stt (Θ.pinned p) lf h₀ L m φ H news h) (hs: ∀q∈Θ.pin,q∈p):Stt Θ lf h₀ L m φ H news h:=
 ⟨S.fr,S.nw,S.nd,S.rep,S.gb.unpin,⟨S.df.d,λq hq=>S.df.p q (hs q hq)⟩⟩
theorem Stt.pin1 {a:Addr}{o:Obj} (S:Stt Θ lf h₀ L m φ H news h) (hm:(a,o)∈news) (hf:offPhi φ a):Stt (Θ.pinned ((a,o) :: Θ.pin)) lf h₀ L m φ H news h:=
 ⟨S.fr,S.nw,S.nd,S.rep,S.gb.pin,⟨S.df.d,λq hq=>(List.mem_cons.mp hq).elim (λe=>e▸⟨hm,hf⟩) (S.df.p q)⟩⟩
theorem Stt.relist (S:Stt Θ lf h₀ L m φ H news h) {D:Addr}{o o':Obj}{h':Heap} (hm:(D,o)∈news) (hz:frz o=false) (hf:offPhi φ D) (hp: ∀q∈Θ.pin,q.1≠D) (F:Fr h₀.h L h' m) (N:News h₀.h L h' (rpl news D o')) :
 Stt Θ lf h₀ L m φ H (rpl news D o') h'/\Ext φ news φ (rpl news D o'):=by
 have X:Ext φ news φ (rpl news D o'):=ext_rpl S hm hz
 refine⟨⟨F,N,by rw [rpl_keys];exact S.nd,⟨S.rep.len,λk ob p h1 h2=>(S.rep.at_ k ob p h1 h2).mono X λq hq hk=>rpl_other hq λe1=> ?_,S.rep.sep⟩,S.gb,⟨λq hq=>⟨X.to0.frz q (S.df.d q hq).1 (S.df.d q hq).2,(S.df.d q hq).2⟩,λq hq=>⟨rpl_other (S.df.p q hq).1 (hp q hq),(S.df.p q hq).2⟩⟩⟩,X⟩
 exact hk.elim (λhk=>(hf k p h2).1 (hk.symm.trans e1)) λhk=>(hf k p h2).2 (hk.symm.trans e1)
theorem rpl_cons {D:Addr}{q:Addr × Obj}{o':Obj}{r:Nws}:rpl (q :: r) D o'=(if q.1=D then(D,o') else q) :: rpl r D o':=rfl
theorem rpl_head {D:Addr}{o o':Obj}{r:Nws} (h: ∀q∈r,q.1≠D):rpl ((D,o) :: r) D o'=(D,o') :: r:=by
 rw [rpl_cons,if_pos rfl,rpl_none h]
theorem updF_rpl {D:Addr}{o:Obj} (l:Nws):(D,o)∈l->(l.map (·.1)).Nodup->UpdF D o l (rpl l D):=by
 induction l with
 | nil=>intro hm _;exact nomatch hm
 | cons q r ih=>
  intro hm nd
  rw [List.map_cons,List.nodup_cons] at nd
  by_cases e:q.1=D
  ·have hr: ∀q∈r,q.1≠D:=λx hx e2=>nd.1 (List.mem_map.mpr ⟨x,hx,e2.trans e.symm⟩)
   have hq:q=(D,o):=(List.mem_cons.mp hm).elim Eq.symm λh1=>absurd rfl (hr _ h1)
   rw [hq,show rpl ((D,o) :: r) D=λo'=>(D,o') :: r from funext λo'=>rpl_head hr]
   exact .head hr
  ·have hm':(D,o)∈r:=(List.mem_cons.mp hm).elim (λh1=>absurd (congrArg Prod.fst h1).symm e) id
   rw [show rpl (q :: r) D=λo'=>q :: rpl r D o' from funext λo'=>by rw [rpl_cons,if_neg e]]
   exact .tail e (ih hm' nd.2)
theorem wp_tree {κ:SortKind}{vs:List V}{ps:List Value}{C:CallT}{P:Prog}{α:Type}
 (hask: ∀ {g:Gd}{φ₁:Phi}{H₁:Hp}{news₁:Nws}{s₁:Shared}{i j:Nat}{Q:Bool->Shared->Prop},Stt Θ A.frames g L m φ₁ H₁ news₁ s₁.heap->VRels Θ.τ φ₁ news₁ vs ps->
  Pst Θ A.frames g L m RE Q (λ_ _=>False) φ₁ news₁ s₁ (ltv false C P (vs.getD i .none) (vs.getD j .none) H₁)->wpAny Θ.M A (keyLt' κ (ps.getD i .none) (ps.getD j .none)) Q (λ_ _=>False) s₁) (t:KasT α) :
 ∀ {g:Gd}{φ₁:Phi}{H₁:Hp}{news₁:Nws}{s₁:Shared}{Qf:α->Shared->Prop},Stt Θ A.frames g L m φ₁ H₁ news₁ s₁.heap->VRels Θ.τ φ₁ news₁ vs ps->
  Pst Θ A.frames g L m RE Qf (λ_ _=>False) φ₁ news₁ s₁ (noEx (runKas (λi j=>ltv false C P (vs.getD i .none) (vs.getD j .none)) t) H₁)->t.kasWp (kas_ask Θ.τ.prog Θ.τ.w A κ ps) Qf s₁:=by
 induction t with
 | ret a=>intro g φ₁ H₁ news₁ s₁ Qf S r hp;exact hp _ _ _ _ _ _ .rfl S (.refl _ _) rfl
 | ask i j k ih=>
  intro g φ₁ H₁ news₁ s₁ Qf S r hp
  have hp:Pst Θ A.frames g L m RE Qf (λ_ _=>False) φ₁ news₁ s₁ (noEx (M.bind (ltv false C P (vs.getD i .none) (vs.getD j .none)) λb=>runKas (λi j=>ltv false C P (vs.getD i .none) (vs.getD j .none)) (k b)) H₁):=hp
  unfold noEx M.bind at hp
  refine hask S r ?_
  cases hr:ltv false C P (vs.getD i .none) (vs.getD j .none) H₁ with
  | no=>rw [hr] at hp;exact hp.elim
  | ex H₂=>rw [hr] at hp;exact hp.elim
  | ok b H₂=>
   rw [hr] at hp
   intro gn dr g₂ φ₂ news₂ h₂ tk b' T S₂ x₂ e
   exact(show b=b' from e)▸ih b S₂ (r.mono x₂) (Pst.ext hp T x₂)
theorem getD_rel {τ:Tabs}{vs:List V}{ps:List Value} (r:VRels τ φ news vs ps) (i:Nat):VRel τ φ news (vs.getD i .none) (ps.getD i .none):=by
 rw [List.getD_eq_getElem?_getD,List.getD_eq_getElem?_getD]
 cases h:vs[i]? with
 | some v=>exact(r.get h).elim λw hw=>by rw [hw.1];exact hw.2
 | none=>rw [List.getElem?_eq_none_iff.mpr (r.length▸List.getElem?_eq_none_iff.mp h)];exact .none
theorem perm_rel {τ:Tabs}{vs:List V}{ps:List Value} (r:VRels τ φ news vs ps) (l:List Nat):VRels τ φ news (l.map λi=>vs.getD i .none) (l.map λi=>ps.getD i .none):=by
 induction l with
 | nil=>exact .nil
 | cons i l ih=>exact .cons (getD_rel r i) ih
inductive KindIs (H:Hp) (vs:List V):Prop
 | kTup:(∀v∈vs,isTupI v=true)->KindIs H vs
 | kInst (c:Nat):(∀v∈vs,clsIn H v=some c)->KindIs H vs
theorem allCls_eq (S:Stt Θ A.frames h₀ L m φ H news h) {c:Nat}{vs:List V}{ps:List Value} (rv:VRels Θ.τ φ news vs ps): ∃b,allCls c vs H= .ok b H/\(b=true->∀v∈vs,clsIn H v=some c):=by
 induction rv with
 | nil=>exact⟨true,rfl,λ_ v hv=>nomatch hv⟩
 | @cons v vs p ps r rs ih=>
  have e:allCls c (v :: vs) H=(if clsIn H v=some c then allCls c vs else pure false) H:=by
   show M.bind (clsOf v) (λd=>if d=some c then allCls c vs else pure false) H=_
   unfold M.bind
   rw [clsOf_eq S r]
  rw [e]
  by_cases hc:clsIn H v=some c
  ·rw [if_pos hc]
   exact ih.imp λb h=>⟨h.1,λq w hw=>(List.mem_cons.mp hw).elim (λe=>e▸hc) (h.2 q w)⟩
  ·rw [if_neg hc];exact⟨false,rfl,nofun⟩
theorem kindOK_eq (S:Stt Θ A.frames h₀ L m φ H news h) {vs:List V}{ps:List Value} (rv:VRels Θ.τ φ news vs ps): ∃b,kindOK vs H= .ok b H/\(b=true->KindIs H vs):=by
 unfold kindOK
 by_cases hk:vs.all isTupI=true
 ·rw [if_pos hk];exact⟨true,rfl,λ_=> .kTup (List.all_eq_true.mp hk)⟩
 ·rw [if_neg hk]
  cases vs with
  | nil=>exact absurd rfl hk
  | cons v vs=>
   refine rv.cons_inv.elim λp hr=>hr.elim λps hr=> ?_
   have e:M.bind (clsOf v) (λc=>om c (pure false) λc=>allCls c (v :: vs)) H=om (clsIn H v) (pure false) (λc=>allCls c (v :: vs)) H:=by
    unfold M.bind
    rw [clsOf_eq S hr.2.1]
   show∃b,M.bind (clsOf v) (λc=>om c (pure false) λc=>allCls c (v :: vs)) H= .ok b H/\_
   rw [e]
   cases clsIn H v with
   | none=>exact⟨false,rfl,nofun⟩
   | some c=>exact(allCls_eq S rv).imp λb h=>⟨h.1,λq=> .kInst c (h.2 q)⟩
end
section
variable {Θ:Cx}{n:Nat}{A:Around}{lf:Option (List Env)}{h₀:Gd}{h:Heap}{L:Addr}{m:Str->Option Value}{φ:Phi}{H:Hp}{news:Nws}{s:Shared}{E:Value->Shared->Prop}
theorem all_rel {τ:Tabs}{P:V->Prop}{R:Value->Prop} (k: ∀v p,P v->VRel τ φ news v p->R p) {vs:List V}{ps:List Value} (r:VRels τ φ news vs ps):(∀v∈vs,P v)->∀p∈ps,R p:=by
 induction r with
 | nil=>exact λ_ p hp=>nomatch hp
 | @cons v vs p ps r rs ih=>exact λhv q hq=>(List.mem_cons.mp hq).elim (λe=>e▸k _ _ (hv _ (.head _)) r) (ih (λv hv'=>hv v (.tail _ hv')) q)
theorem tups_of (N:News h₀.h L h news) {vs:List V}{ps:List Value} (r:VRels Θ.τ φ news vs ps):(∀v∈vs,isTupI v=true)->∃fs,KatTups h ps fs/\fs.length=vs.length/\∀f∈fs,∃i t,f= .int i t:=by
 induction r with
 | nil=>exact λ_=>⟨[],KatTups.nil,rfl,λf hf=>nomatch hf⟩
 | @cons v vs p ps r rs ih=>
  intro hv
  refine(ih λw hw=>hv w (.tail _ hw)).elim λfs e=>(isTupI_inv (hv v (.head _))).elim λi e'=>e'.elim λas e'=> ?_
  rw [e'] at r
  refine r.tupI (C:=λp=>∃fs,KatTups h (p :: ps) fs/\fs.length=vs.length + 1/\∀f∈fs,∃i t,f= .int i t) rfl λa its k hm hr=>hr.cons_inv.elim λq g=>g.elim λqs g=> ?_
  refine g.2.1.intI (C:=λq=>its.toList=q :: qs->∃fs,KatTups h (.ref a :: ps) fs/\fs.length=vs.length + 1/\∀f∈fs,∃i t,f= .int i t) rfl (λt e'=> ?_) g.1
  exact⟨.int i t :: fs,KatTups.cons (N.get hm) rfl rfl (xs:=its) (n:=k) (by rw [<- Array.getElem?_toList,e'];rfl) e.1,congrArg Nat.succ e.2.1,λf hf=>(List.mem_cons.mp hf).elim (λz=>⟨i,t,z⟩) (e.2.2 f)⟩
theorem getD_in {P:V->Prop}{vs:List V} (hv: ∀v∈vs,P v) (i:Nat):P (vs.getD i .none)\/vs.getD i .none= .none:=by
 rw [List.getD_eq_getElem?_getD]
 cases h:vs[i]? with
 | none=>exact .inr rfl
 | some v=>exact .inl (hv v (List.mem_of_getElem? h))
theorem clsIn_ref {v:V}{c:Nat} (h:clsIn H v=some c): ∃l,v= .ref l:=(Option.bind_eq_some_iff.mp h).imp λl e=>vRef_eq e.1
theorem kd_tup {v:V} (h:isTupI v=true):kd v=0:=(isTupI_inv h).elim λa e=>e.elim λas e=>e▸rfl
theorem kd_ref {v:V} (h: ∃l,v= .ref l):kd v=0:=h.elim λl e=>e▸rfl
theorem wp_kinds {vs:List V}{ps:List Value}{Qf:Array Nat->Shared->Prop} (st:Stat2 Θ) (hC:SndC Θ n) (r:RoomC A n Θ.P.hd) (S:Stt Θ A.frames h₀ L m φ H news s.heap) (rv:VRels Θ.τ φ news vs ps)
 (h2:2<=vs.length) (hk:KindIs H vs)
 (hp:Pst Θ A.frames h₀ L m RE Qf (λ_ _=>False) φ news s (noEx (runKas (λi j=>ltv false (run n Θ.P) Θ.P (vs.getD i .none) (vs.getD j .none)) (kas_sort vs.length)) H)) :
 wpAny Θ.M A (keyKind' ps.toArray) (λ κ s'=>(kas_sort ps.length).kasWp (kas_ask Θ.τ.prog Θ.τ.w A κ ps) Qf s') (λ_ _=>False) s:=by
 rw [<- rv.length]
 have h0:0 < vs.length:=Nat.lt_of_lt_of_le (by decide) h2
 cases hk with
 | kTup hi=>
  refine(tups_of S.nw rv hi).elim λfs a=>kat_kind (T:= .type "int") a.1 (a.2.1.symm▸h0) (λf hf=>(a.2.2 f hf).elim λi e=>e.elim λt e=>e▸Looks.of_pure rfl) rfl ?_
  refine wp_tree (κ:=tuples' true) (λ {g φ₁ H₁ news₁ s₁ i j Q} S₁ r₁ hp=> ?_) _ S rv hp
  have ri:=getD_rel r₁ i
  have rj:=getD_rel r₁ j
  have hu:A.units + 64 < cLine:=Nat.lt_of_le_of_lt (Nat.add_le_add_left (Nat.le_trans (by decide) (Nat.le_add_left 275 (40 * n))) _) r.units
  rcases getD_in hi i with e1 | e1
  ·rcases getD_in hi j with e2 | e2
   ·exact ask_tup hu S₁ ri rj e1 e2 hp
   ·exact(isTupI_inv e1).elim λa e=>e.elim λas e=>ask_no S₁ ri rj (e▸rfl) (by rw [e,e2];rfl) hp
  ·exact ask_no S₁ ri rj (by rw [e1];rfl) (by rw [e1];exact pord_none ((getD_in hi j).imp kd_tup id)) hp
 | kInst c hi=>
  refine cls_at S (rv.get (List.getElem?_eq_getElem h0)).choose_spec.2 (hi _ (List.getElem_mem h0)) λ_ _ _ C _ _ _ _ _ _ d0=> ?_
  refine kas_kind (T:= .ref C) (rv.length▸h2) (all_rel (P:=λv=>clsIn H v=some c) (R:=λp=>Looks Θ.M s.heap (typeOf p) (.ref C)) (λv p hv hr=>cls_at S hr hv λ_ _ pa C' _ _ _ e2 _ _ d=> ?_) rv hi) rfl (beq_self_eq_true _) ?_
  ·subst e2
   exact Option.some.inj (d.ca.symm.trans d0.ca)▸(d.at S).type
  ·refine wp_tree (λ {g φ₁ H₁ news₁ s₁ i j Q} S₁ r₁ hp=> ?_) _ S rv hp
   have ri:=getD_rel r₁ i
   have rj:=getD_rel r₁ j
   have hr: ∀v∈vs,∃l,v= .ref l:=λv hv=>clsIn_ref (hi v hv)
   rcases getD_in hr i with e1 | e1
   ·exact e1.elim λl e=>by
     rw [e] at ri hp
     exact ask_inst st hC r S₁ ri rj hp
   ·exact ask_no S₁ ri rj (by rw [e1];rfl) (by rw [e1];exact pord_none ((getD_in hr j).imp kd_ref id)) hp
end
section
variable {Θ:Cx}{n:Nat}{A:Around}{lf:Option (List Env)}{h₀:Gd}{h:Heap}{L:Addr}{m:Str->Option Value}{φ:Phi}{H:Hp}{news:Nws}{s:Shared}{E:Value->Shared->Prop}
theorem list_sort_small {prog:Program}{w:World}{h₀:Heap}{vs:List Value}{a:Addr}{k:Nat}{P:PySem.Fin->Shared->Prop} (F:Fr h₀ L s.heap m) (N:News h₀ L s.heap ((a,W.listOf vs.toArray k) :: news)) (hna: ∀q∈news,q.1≠a)
 (h2:vs.length < 2) (hq: ∀h' c,Fr h₀ L h' m->News h₀ L h' ((a,W.listOf vs.toArray c) :: news)->P (.done (.ret .none)) {s with heap:=h'}) :
 wpAny (model prog w) A (Builtin.«list.sort» ⟨[.ref a],[]⟩) P E s:=by
 obtain⟨ho,haL,ha0⟩:=N _ (.head _)
 dsimp only at ho haL ha0
 have ha:a < s.heap.objs.size:=Heap.lt_size ho
 have s1:=Heap.SameBut.update s.heap a (Obj.mapSeq λ_=>(#[]:Array Value))
 obtain⟨e1,ho1⟩: ∃e1,(s.heap.update a (Obj.mapSeq λ_=>(#[]:Array Value))).get? a=some (seqObj "list" #[] e1):=⟨_,get?_update_seq ho λ_=> #[]⟩
 have N0:News h₀ L s.heap news:=λp hp=>N p (.tail _ hp)
 have F3:Fr h₀ L (((s.heap.update a (Obj.mapSeq λ_=>(#[]:Array Value))).push (seqObj "tuple" vs.toArray 0)).push (seqObj "list" #[] 0)) m:=((kas_fr F s1 haL ha0).push _).push _
 have N2:News h₀ L (((s.heap.update a (Obj.mapSeq λ_=>(#[]:Array Value))).push (seqObj "tuple" vs.toArray 0)).push (seqObj "list" #[] 0)) news:=
  (kas_news N0 s1 hna).grown λb x e=>Heap.get?_push_of_some _ (Heap.get?_push_of_some _ e)
 have na:(((s.heap.update a (Obj.mapSeq λ_=>(#[]:Array Value))).push (seqObj "tuple" vs.toArray 0)).push (seqObj "list" #[] 0)).get? a=some (seqObj "list" #[] e1):=Heap.get?_push_of_some _ (Heap.get?_push_of_some _ ho1)
 rw [list_sort_plain]
 refine wpAny_bind (listItems_at ho rfl ?_)
 refine wpAny_bind (listUpdate_at ho rfl ?_ (by rw [List.size_toArray,sizeLine_eq];lia) (Nat.zero_le _))
 refine wpAny_bind (seqEpoch_at ho1 rfl ?_)
 refine wpAny_bind (wpAny_newTuple ?_ (by show vs.length<=_;rw [sizeLine_eq];lia))
 refine wpAny_bind (wpAny_newList ?_ (Nat.zero_le _))
 refine wpAny_holding ?_
 show wpAny (model prog w) A _ P E {s with heap:=((s.heap.update a (Obj.mapSeq λ_=>(#[]:Array Value))).push (seqObj "tuple" vs.toArray 0)).push (seqObj "list" #[] 0) }
 dsimp only
 have hn2:vs.toArray.size < 2:=by rw [List.size_toArray];exact h2
 rw [if_pos hn2,if_pos hn2]
 refine wpAny_bind (wpAny_pure ?_)
 rw [StateT.run_pure]
 refine wpAny_bind (wpAny_pure ?_)
 dsimp only
 have hout:(arrOf (SortSt.mk' general' (vs.toArray.zip vs.toArray) #[] 7 none)).map (·.2)=vs.toArray:=by
  show(vs.toArray.zip vs.toArray).map (·.2)=_
  apply Array.toList_inj.mp
  simp only [Array.toList_map,Array.toList_zip]
  rw [<- List.unzip_snd,List.unzip_zip rfl]
 rw [hout]
 have s2:=Heap.SameBut.update (((s.heap.update a (Obj.mapSeq λ_=>(#[]:Array Value))).push (seqObj "tuple" vs.toArray 0)).push (seqObj "list" #[] 0)) a (Obj.mapSeq λ_=>vs.toArray)
 obtain⟨c2,hc2⟩: ∃c2,((((s.heap.update a (Obj.mapSeq λ_=>(#[]:Array Value))).push (seqObj "tuple" vs.toArray 0)).push (seqObj "list" #[] 0)).update a (Obj.mapSeq λ_=>vs.toArray)).get? a=some (seqObj "list" vs.toArray c2):=⟨_,get?_update_seq na λ_=>vs.toArray⟩
 refine wpAny_bind (seqEpoch_at na rfl ?_)
 refine wpAny_bind (listUpdate_at na rfl ?_ (Nat.zero_le _) (by rw [List.size_toArray,sizeLine_eq];lia))
 simp only [bne_self_eq_false,Bool.false_eq_true,if_false]
 refine wpAny_pure (hq _ c2 (kas_fr F3 s2 haL ha0) λp hp=> ?_)
 rcases List.mem_cons.mp hp with rfl | hp
 ·exact⟨hc2,haL,ha0⟩
 ·exact kas_news N2 s2 hna p hp
noncomputable abbrev askM (Θ:Cx) (n:Nat) (vs:List V):M (Array Nat):=noEx (runKas (λi j=>ltv false (run n Θ.P) Θ.P (vs.getD i .none) (vs.getD j .none)) (kas_sort vs.length))
theorem sortV_cases (S:Stt Θ A.frames h₀ L m φ H news h) {vs:List V}{ps:List Value} (rv:VRels Θ.τ φ news vs ps):(vs.length < 2/\sortV (run n Θ.P) Θ.P vs H= .ok vs H)\/sortV (run n Θ.P) Θ.P vs H= .no\/
 (2<=vs.length/\vs.length < 64/\KindIs H vs/\sortV (run n Θ.P) Θ.P vs H=M.bind (askM Θ n vs) (λp=>pure (p.toList.map λi=>vs.getD i .none)) H):=by
 unfold sortV
 by_cases h2:vs.length < 2
 ·rw [if_pos h2];exact .inl ⟨h2,rfl⟩
 ·rw [if_neg h2]
  by_cases h64:vs.length ≥ 64
  ·rw [if_pos h64];exact .inr (.inl rfl)
  ·rw [if_neg h64]
   refine(kindOK_eq S rv).elim λb hb=> ?_
   have e:M.bind (kindOK vs) (λb=>if b=true then M.bind (askM Θ n vs) (λp=>pure (p.toList.map λi=>vs.getD i .none)) else stuck) H=(if b=true then M.bind (askM Θ n vs) (λp=>pure (p.toList.map λi=>vs.getD i .none)) else stuck) H:=by
    unfold M.bind
    rw [hb.1]
   cases b with
   | false=>exact .inr (.inl e)
   | true=>exact .inr (.inr ⟨Nat.le_of_not_lt h2,Nat.lt_of_not_le h64,hb.2 rfl,e⟩)
theorem updF_app {D:Addr}{o:Obj}{f:Obj->Nws}{r:Nws} (u:UpdF D o r f) (l:Nws):(∀q∈l,q.1≠D)->UpdF D o (l ++ r) (λo=>l ++ f o):=by
 induction l with
 | nil=>exact λ_=>u
 | cons q l ih=>exact λhl=> .tail (hl q (.head _)) (ih λx hx=>hl x (.tail _ hx))
theorem wp_lsort {vs:List V}{ps:List Value}{D:Addr}{k:Nat}{P:PySem.Fin->Shared->Prop} (st:Stat6 Θ) (hK: ∀p,SndK (Θ.pinned p) n) (r:RoomC A n Θ.P.hd)
 (S:Stt Θ A.frames h₀ L m φ H ((D,W.listOf ps.toArray k) :: news) s.heap) (hD:offPhi φ D) (hpin: ∀q∈Θ.pin,q.1≠D) (rv:VRels Θ.τ φ news vs ps)
 (hne: ∀ (h:sortV (run n Θ.P) Θ.P vs H= .no),False)
 (hk: ∀gn dr g φ₂ H₂ news₂ h'' tk ws out c,sortV (run n Θ.P) Θ.P vs H= .ok ws H₂->TurnG s.gens gn h₀ g->Stt Θ A.frames g L m φ₂ H₂ news₂ h''->(D,W.listOf out c)∈news₂->offPhi φ₂ D->Ext φ news φ₂ news₂->VRels Θ.τ φ₂ news₂ ws out.toList->P (.done (.ret .none)) ⟨h'',gn,dr,tk,s.os⟩) :
 wpAny Θ.M A (Builtin.«list.sort» ⟨[.ref D],[]⟩) P E s:=by
 have nd:=S.nd
 rw [List.map_cons,List.nodup_cons] at nd
 have hnD: ∀q∈news,q.1≠D:=λq hq e=>nd.1 (List.mem_map.mpr ⟨q,hq,e⟩)
 have X0:Ext φ news φ ((D,W.listOf ps.toArray k) :: news):=Ext.cons φ news _
 rcases sortV_cases (n:=n) S (VRels.mono X0 rv) with⟨h2,e⟩ | e | ⟨h2,h64,hkind,e⟩
 ·refine list_sort_small S.fr S.nw hnD (rv.length▸h2) λh' c F' N'=> ?_
  have N2:News h₀.h L h' (rpl ((D,W.listOf ps.toArray k) :: news) D (W.listOf ps.toArray c)):=by rw [rpl_head hnD];exact N'
  have S2:=S.relist (.head _) rfl hD hpin F' N2
  have X3:=X0.trans S2.2
  exact hk _ _ _ _ _ _ _ s.toks _ _ c e .rfl S2.1 (rpl_self (.head _)) hD X3 (VRels.mono X3 rv)
 ·exact(hne e).elim
 ·rw [e] at hne
  have NS:=stillG_in (h₀:=h₀) (g:=h₀) Turn.rfl S.fr S.nw
  have z:=S.nw _ (.head _)
  have hDS:(stillG h₀).get? D=none:=(NS.2 (D,W.listOf ps.toArray k) (List.mem_append_right _ (.head _))).2.2
  have NS0:News (stillG h₀) L s.heap (frObjs h₀.h h₀.fs ++ news):=λq hq=>NS.2 q ((List.mem_append.mp hq).elim (List.mem_append_left _) λh=>List.mem_append_right _ (.tail _ h))
  refine kat_list_sort NS.1 NS0 z.1 z.2.1 hDS (λq hq=>(List.mem_append.mp hq).elim (λhq e=>nos (z.2.2.symm.trans (e▸(frObjs_mem hq).2))) (hnD q)) (rv.length▸h2) (rv.length▸h64) λe1 h' F' N'=> ?_
  have N'':News (stillG h₀) L h' (frObjs h₀.h h₀.fs ++ ((D,seqObj "list" #[] e1) :: news)):=λq hq=>N' q ((List.mem_append.mp hq).elim (λh=> .tail _ (List.mem_append_left _ h)) λh=>(List.mem_cons.mp h).elim (λh=>h▸ .head _) λh=> .tail _ (List.mem_append_right _ h))
  have F₁:=stillG_out (h₀:=h₀) (g:=h₀) (news':=(D,seqObj "list" #[] e1) :: news) Turn.rfl (λq hq=>(List.mem_cons.mp hq).elim (λh=>h▸z.2.2) λhq=>(S.nw q (.tail _ hq)).2.2) F' N''
  have N₁':News h₀.h L h' (rpl ((D,W.listOf ps.toArray k) :: news) D (seqObj "list" #[] e1)):=by rw [rpl_head hnD];exact F₁.2
  have S₁:=(S.relist (.head _) rfl hD hpin F₁.1 N₁').1
  rw [rpl_head hnD] at S₁
  have S₂:=S₁.pin1 (.head _) hD
  have X₂:Ext φ news φ ((D,seqObj "list" #[] e1) :: news):=Ext.cons φ news _
  refine wp_kinds (Θ:=Θ.pinned ((D,seqObj "list" #[] e1) :: Θ.pin)) (s:=⟨h',s.gens,s.drawn,s.toks,s.os⟩) (st.pinned _).toStat2 (SndK.toC (hK _)) r S₂ (VRels.mono X₂ rv) h2 hkind ?_
  show Pst (Θ.pinned ((D,seqObj "list" #[] e1) :: Θ.pin)) A.frames h₀ L m RE _ (λ_ _=>False) φ _ _ (askM Θ n vs H)
  cases hrun:askM Θ n vs H with
  | no=>exact(hne (by unfold M.bind;rw [hrun])).elim
  | ex H₂=>exact noEx_ex hrun
  | ok p H₂=>
   have e2:sortV (run n Θ.P) Θ.P vs H= .ok (p.toList.map λi=>vs.getD i .none) H₂:=e.trans (by unfold M.bind;rw [hrun];rfl)
   intro gn dr g φ₂ news₂ h₂ tk p' T S₃ x₃ ep
   obtain rfl:p=p':=ep
   have hpm:=S₃.df.p (D,seqObj "list" #[] e1) (.head _)
   have S₄:Stt Θ A.frames g L m φ₂ H₂ news₂ h₂:=S₃.unpin λq hq=> .tail _ hq
   have F₄:=stillG_in T.t S₄.fr S₄.nw
   have hfr2: ∀q∈frObjs g.h h₀.fs,q.1≠D:=λq hq e=>nos ((S₄.nw _ hpm.1).2.2.symm.trans (e▸(frObjs_mem hq).2))
   refine KasFin.intro F₄.1 F₄.2 (updF_app (updF_rpl news₂ hpm.1 S₄.nd) _ hfr2) λh₅ c F₅ N₅=> ?_
   have F₆:=stillG_out T.t (λq hq=>by
    have hk:q.1∈news₂.map (·.1):=by rw [<- rpl_keys news₂ D (W.listOf (List.toArray (p.toList.map λi=>ps.getD i .none)) c)];exact List.mem_map_of_mem hq
    exact(List.mem_map.mp hk).elim λx hx=>hx.2▸(S₄.nw x hx.1).2.2) F₅ N₅
   have S₆:=S₄.relist hpm.1 rfl hpm.2 hpin F₆.1 F₆.2
   have X₇:=(X₂.trans x₃).trans S₆.2
   exact hk gn dr g φ₂ H₂ _ h₅ tk _ (List.toArray (p.toList.map λi=>ps.getD i .none)) c e2 T S₆.1 (rpl_self hpm.1) hpm.2 X₇ (perm_rel (VRels.mono X₇ rv) p.toList)
end
noncomputable def krun {α:Type} (cmp:Nat->Nat->Bool):KasT α->α
 | .ret a=>a
 | .ask i j k=>krun cmp (k (cmp i j))
theorem krun_bind {α β:Type} (cmp:Nat->Nat->Bool) (f:α->KasT β): ∀t:KasT α,krun cmp (t.bind f)=krun cmp (f (krun cmp t))
 | .ret a=>rfl
 | .ask i j k=>krun_bind cmp f (k (cmp i j))
section
variable (r:Nat->Nat)
noncomputable abbrev rcmp (i j:Nat):Bool:=decide (r i < r j)
noncomputable def KK (p:Array Nat) (i:Nat):Nat:=r (p.getD i 0)
noncomputable def Up (p:Array Nat) (n:Nat):Prop:=∀i j,i < j->j < n->KK r p i<=KK r p j
noncomputable def Dn (p:Array Nat) (n:Nat):Prop:=∀i j,i < j->j < n->KK r p j<=KK r p i
variable {r}
theorem up_succ {p:Array Nat}{n:Nat} (h:Up r p n) (h1:n=0\/KK r p (n - 1)<=KK r p n):Up r p (n + 1):=λi j hij hj=>by
 by_cases e:j=n
 ·subst e
  rcases h1 with h1 | h1
  ·lia
  ·by_cases e2:i=j - 1
   ·subst e2;exact h1
   ·exact Nat.le_trans (h i (j - 1) (by lia) (by lia)) h1
 ·exact h i j hij (by lia)
theorem dn_succ {p:Array Nat}{n:Nat} (h:Dn r p n) (h1:n=0\/KK r p n<=KK r p (n - 1)):Dn r p (n + 1):=λi j hij hj=>by
 by_cases e:j=n
 ·subst e
  rcases h1 with h1 | h1
  ·lia
  ·by_cases e2:i=j - 1
   ·subst e2;exact h1
   ·exact Nat.le_trans h1 (h i (j - 1) (by lia) (by lia))
 ·exact h i j hij (by lia)
theorem asc_run {p:Array Nat}: ∀ (f n:Nat),1<=n->Up r p n->n<=krun (rcmp r) (kas_asc p f n)/\krun (rcmp r) (kas_asc p f n)<=n + f/\Up r p (krun (rcmp r) (kas_asc p f n))/\
 (krun (rcmp r) (kas_asc p f n) < n + f->KK r p (krun (rcmp r) (kas_asc p f n)) < KK r p (krun (rcmp r) (kas_asc p f n) - 1))
 | 0,n,h1,h=>⟨Nat.le_refl _,Nat.le_refl _,h,λq=>absurd q (by show¬n < n + 0;lia)⟩
 | f + 1,n,h1,h=>by
  by_cases hc:r (p.getD n 0) < r (p.getD (n - 1) 0)
  ·have e:krun (rcmp r) (kas_asc p (f + 1) n)=n:=by
    show krun (rcmp r) (if decide (r (p.getD n 0) < r (p.getD (n - 1) 0))=true then .ret n else kas_asc p f (n + 1))=n
    rw [if_pos (decide_eq_true hc)];rfl
   rw [e]
   exact⟨Nat.le_refl _,by lia,h,λ_=>hc⟩
  ·have e:krun (rcmp r) (kas_asc p (f + 1) n)=krun (rcmp r) (kas_asc p f (n + 1)):=by
    show krun (rcmp r) (if decide (r (p.getD n 0) < r (p.getD (n - 1) 0))=true then .ret n else kas_asc p f (n + 1))=_
    rw [if_neg (by simpa using hc)]
   rw [e]
   obtain⟨a,b,c,d⟩:=asc_run f (n + 1) (by lia) (up_succ h (.inr (Nat.le_of_not_lt hc)))
   exact⟨by lia,by lia,c,λq=>d (by lia)⟩
theorem kk_rev {p:Array Nat}{i j:Nat} (hj:j<=p.size) (k:Nat):KK r (kas_rev p i j) k=if i<=k/\k < j then KK r p (i + j - 1 - k) else KK r p k:=by
 have h:=getElem?_mirror_all hj k (i:=i) (xs:=p)
 unfold KK kas_rev
 have g: ∀ (q:Array Nat) (m:Nat),q.getD m 0=(q[m]?).getD 0:=λq m=>by simp [Array.getD_eq_getD_getElem?]
 rw [g,h]
 split
 ·rw [g]
 ·rw [g]
theorem kk_rev_const {p:Array Nat}{i j c:Nat} (hj:j<=p.size) (hc: ∀k,i<=k->k < j->KK r p k=c) (k:Nat):KK r (kas_rev p i j) k=KK r p k:=by
 rw [kk_rev hj]
 split
 ·rename_i h
  rw [hc _ (by lia) (by lia),hc _ h.1 h.2]
 ·rfl
theorem rev_perm (p:Array Nat) (i j:Nat):(kas_rev p i j).Perm p:=mirror_perm _ _ _ _
theorem rev_size (p:Array Nat) (i j:Nat):(kas_rev p i j).size=p.size:=mirror_size _ _ _ _
theorem desc_run: ∀ (f:Nat) (p:Array Nat) (n q:Nat),1<=n->n + f<=p.size->q < n->Dn r p n->(∀i,n - (q + 1)<=i->i < n->KK r p i=KK r p (n - 1))->
 ∀p' n' q',krun (rcmp r) (kas_desc f p n q)=(p',n',q')->p'.Perm p/\n<=n'/\n'<=n + f/\q' < n'/\Dn r p' n'/\(∀i,n' - (q' + 1)<=i->i < n'->KK r p' i=KK r p' (n' - 1))
 | 0,p,n,q,h1,hs,hq,hd,he,p',n',q',e=>by
  cases e
  exact⟨.refl _,Nat.le_refl _,Nat.le_refl _,hq,hd,he⟩
 | f + 1, p,n,q,h1,hs,hq,hd,he,p',n',q',e=>by
  by_cases hc:r (p.getD n 0) < r (p.getD (n - 1) 0)
  ·have e1:krun (rcmp r) (if q > 0 then kas_desc f (kas_rev p (n - (q + 1)) n) (n + 1) 0 else kas_desc f p (n + 1) 0)=(p',n',q'):=by
    rw [<- e]
    show _=krun (rcmp r) (if decide (r (p.getD n 0) < r (p.getD (n - 1) 0))=true then _ else _)
    rw [if_pos (decide_eq_true hc)]
   have hn:KK r p n<=KK r p (n - 1):=Nat.le_of_lt hc
   by_cases hq0:q > 0
   ·rw [if_pos hq0] at e1
    have kc:=kk_rev_const (r:=r) (p:=p) (i:=n - (q + 1)) (j:=n) (c:=KK r p (n - 1)) (by lia) (λk a b=>he k a b)
    have hd':Dn r (kas_rev p (n - (q + 1)) n) (n + 1):=λi j hij hj=>by
     rw [kc,kc]
     exact dn_succ hd (.inr hn) i j hij hj
    obtain⟨a,b,c,d,g,k⟩:=desc_run f _ (n + 1) 0 (by lia) (by rw [rev_size];lia) (by lia) hd' (λi h2 h3=>by rw [show i=n by lia];rfl) p' n' q' e1
    exact⟨a.trans (rev_perm _ _ _),by lia,by lia,d,g,k⟩
   ·rw [if_neg hq0] at e1
    obtain⟨a,b,c,d,g,k⟩:=desc_run f p (n + 1) 0 (by lia) (by lia) (by lia) (dn_succ hd (.inr hn)) (λi h2 h3=>by rw [show i=n by lia];rfl) p' n' q' e1
    exact⟨a,by lia,by lia,d,g,k⟩
  ·have e1:krun (rcmp r) (.ask (p.getD (n - 1) 0) (p.getD n 0) λd=>if d=true then .ret (p,n,q) else kas_desc f p (n + 1) (q + 1))=(p',n',q'):=by
    rw [<- e]
    show _=krun (rcmp r) (if decide (r (p.getD n 0) < r (p.getD (n - 1) 0))=true then _ else _)
    rw [if_neg (by simpa using hc)]
   by_cases hc2:r (p.getD (n - 1) 0) < r (p.getD n 0)
   ·have e2:krun (rcmp r) (if decide (r (p.getD (n - 1) 0) < r (p.getD n 0))=true then .ret (p,n,q) else kas_desc f p (n + 1) (q + 1))=(p',n',q'):=e1
    rw [if_pos (decide_eq_true hc2)] at e2
    cases e2
    exact⟨.refl _,Nat.le_refl _,by lia,hq,hd,he⟩
   ·have e2:krun (rcmp r) (if decide (r (p.getD (n - 1) 0) < r (p.getD n 0))=true then .ret (p,n,q) else kas_desc f p (n + 1) (q + 1))=(p',n',q'):=e1
    rw [if_neg (by simpa using hc2)] at e2
    have heq:KK r p n=KK r p (n - 1):=Nat.le_antisymm (Nat.le_of_not_lt hc2) (Nat.le_of_not_lt hc)
    obtain⟨a,b,c,d,g,k⟩:=desc_run f p (n + 1) (q + 1) (by lia) (by lia) (by lia) (dn_succ hd (.inr (Nat.le_of_eq heq))) (λi h2 h3=>by
     rw [Nat.add_sub_cancel,heq]
     by_cases e3:i=n
     ·rw [e3,heq]
     ·exact he i (by lia) (by lia)) p' n' q' e2
    exact⟨a,by lia,by lia,d,g,k⟩
theorem tail_run {p:Array Nat}{n nrem:Nat} (h1:1<=n) (hn:n<=nrem) (hs:nrem<=p.size) (hd:Dn r p n) {m:Nat}{p':Array Nat} (e:krun (rcmp r) (kas_tail3 n nrem p)=(m,p')) :
 p'.Perm p/\1<=m/\m<=nrem/\Up r p' m:=by
 unfold kas_tail3 at e
 rw [krun_bind] at e
 have hu:Up r (kas_rev p 0 n) n:=λi j hij hj=>by
  rw [kk_rev (by lia),kk_rev (by lia),if_pos ⟨Nat.zero_le _,by lia⟩,if_pos ⟨Nat.zero_le _,hj⟩]
  exact hd _ _ (by lia) (by lia)
 obtain⟨a,b,c,_⟩:=asc_run (nrem - n) n h1 hu
 cases e
 exact⟨rev_perm _ _ _,by lia,by lia,c⟩
theorem descPart_run {p:Array Nat}{n nrem:Nat} (h1:1<=n) (hn:n + 1<=nrem) (hs:nrem<=p.size) (hd:Dn r p (n + 1)) {m:Nat}{p':Array Nat} (e:krun (rcmp r) (kas_descPart n nrem p)=(m,p')) :
 p'.Perm p/\1<=m/\m<=nrem/\Up r p' m:=by
 unfold kas_descPart at e
 rw [krun_bind] at e
 cases hr:krun (rcmp r) (kas_desc (nrem - (n + 1)) p (n + 1) 0) with
 | mk p1 x=>
  obtain⟨n1,q1⟩:=x
  rw [hr] at e
  dsimp only at e
  obtain⟨a,b,c,d,g,k⟩:=desc_run (nrem - (n + 1)) p (n + 1) 0 (by lia) (by lia) (by lia) hd (λi h2 h3=>by rw [show i=n by lia];rfl) p1 n1 q1 hr
  have sz:p1.size=p.size:=a.size_eq
  by_cases hq:q1 > 0
  ·rw [if_pos hq] at e
   have kc:=kk_rev_const (r:=r) (p:=p1) (i:=n1 - (q1 + 1)) (j:=n1) (c:=KK r p1 (n1 - 1)) (by lia) (λk' a b=>k k' a b)
   obtain⟨a2,b2,c2,d2⟩:=tail_run (by lia) (by lia) (by rw [rev_size];lia) (λi j hij hj=>by rw [kc,kc];exact g i j hij hj) e
   exact⟨a2.trans ((rev_perm _ _ _).trans a),b2,c2,d2⟩
  ·rw [if_neg hq] at e
   obtain⟨a2,b2,c2,d2⟩:=tail_run (by lia) (by lia) (by lia) g e
   exact⟨a2.trans a,b2,c2,d2⟩
theorem count_run {p:Array Nat}{nrem:Nat} (h1:1<=nrem) (hs:nrem<=p.size) {m:Nat}{p':Array Nat} (e:krun (rcmp r) (kas_count nrem p)=(m,p')):p'.Perm p/\1<=m/\m<=nrem/\Up r p' m:=by
 unfold kas_count at e
 rw [krun_bind] at e
 obtain⟨a,b,c,d⟩:=asc_run (r:=r) (p:=p) (nrem - 1) 1 (Nat.le_refl _) (λi j hij hj=>by lia)
 generalize krun (rcmp r) (kas_asc p (nrem - 1) 1)=n at *
 by_cases hn:n=nrem
 ·rw [if_pos (by simpa using hn)] at e
  cases e
  exact⟨.refl _,a,by lia,c⟩
 ·rw [if_neg (by simpa using hn)] at e
  have d:=d (by lia)
  by_cases hn1:n > 1
  ·rw [if_pos hn1] at e
   have e2:krun (rcmp r) (if decide (r (p.getD 0 0) < r (p.getD (n - 1) 0))=true then .ret (n,p) else kas_descPart n nrem (kas_rev p 0 n))=(m,p'):=e
   by_cases hc:r (p.getD 0 0) < r (p.getD (n - 1) 0)
   ·rw [if_pos (decide_eq_true hc)] at e2
    cases e2
    exact⟨.refl _,a,by lia,c⟩
   ·rw [if_neg (by simpa using hc)] at e2
    have h0:KK r p (n - 1)<=KK r p 0:=Nat.le_of_not_lt hc
    have con: ∀k,0<=k->k < n->KK r p k=KK r p 0:=λk _ hk=>by
     have l1:KK r p 0<=KK r p k:=by
      by_cases e3:k=0
      ·subst e3;exact Nat.le_refl _
      ·exact c 0 k (by lia) hk
     have l2:KK r p k<=KK r p (n - 1):=by
      by_cases e3:k=n - 1
      ·subst e3;exact Nat.le_refl _
      ·exact c k (n - 1) (by lia) (by lia)
     lia
    have kc:=kk_rev_const (r:=r) (p:=p) (i:=0) (j:=n) (c:=KK r p 0) (by lia) con
    obtain⟨a2,b2,c2,d2⟩:=descPart_run a (by lia) (by rw [rev_size];lia) (λi j hij hj=>by
     rw [kc,kc]
     by_cases e3:j=n
     ·subst e3
      have:=con i (Nat.zero_le _) hij
      have:=con (j - 1) (Nat.zero_le _) (by lia)
      lia
     ·have:=con i (Nat.zero_le _) (by lia)
      have:=con j (Nat.zero_le _) (by lia)
      lia) e2
    exact⟨a2.trans (rev_perm _ _ _),b2,c2,d2⟩
  ·rw [if_neg hn1] at e
   have:n=1:=by lia
   subst this
   exact descPart_run a (by lia) hs (λi j hij hj=>by
    have h2:i=0/\j=1:=by lia
    obtain⟨rfl,rfl⟩:=h2
    exact Nat.le_of_lt d) e
theorem place_run {p:Array Nat}{k:Nat} (hu:Up r p k): ∀ (f l h:Nat),h - l<=f->l<=h->h<=k->(∀i,i < l->KK r p i<=KK r p k)->(∀i,h<=i->i < k->KK r p k < KK r p i)->
 krun (rcmp r) (kas_place p k f l h)<=k/\(∀i,i < krun (rcmp r) (kas_place p k f l h)->KK r p i<=KK r p k)/\∀i,krun (rcmp r) (kas_place p k f l h)<=i->i < k->KK r p k < KK r p i
 | 0,l,h,h1,h2,h3,h4,h5=>by
  have:l=h:=by lia
  subst this
  exact⟨h3,h4,h5⟩
 | f + 1, l,h,h1,h2,h3,h4,h5=>by
  by_cases hge:l ≥ h
  ·rw [show kas_place p k (f + 1) l h=_ from if_pos hge]
   have:l=h:=by lia
   subst this
   exact⟨h3,h4,h5⟩
  ·rw [show kas_place p k (f + 1) l h=_ from if_neg hge]
   by_cases hc:r (p.getD k 0) < r (p.getD ((l + h) / 2) 0)
   ·have e:krun (rcmp r) (KasT.ask (p.getD k 0) (p.getD ((l + h) / 2) 0) λc=>if c=true then kas_place p k f l ((l + h) / 2) else kas_place p k f ((l + h) / 2 + 1) h)=krun (rcmp r) (kas_place p k f l ((l + h) / 2)):=by
     show krun (rcmp r) (if decide (r (p.getD k 0) < r (p.getD ((l + h) / 2) 0))=true then _ else _)=_
     rw [if_pos (decide_eq_true hc)]
    rw [e]
    refine place_run hu f l _ (by lia) (by lia) (by lia) h4 λi a b=> ?_
    by_cases q:i=(l + h) / 2
    ·rw [q];exact hc
    ·exact Nat.lt_of_lt_of_le hc (hu _ _ (by lia) b)
   ·have e:krun (rcmp r) (KasT.ask (p.getD k 0) (p.getD ((l + h) / 2) 0) λc=>if c=true then kas_place p k f l ((l + h) / 2) else kas_place p k f ((l + h) / 2 + 1) h)=krun (rcmp r) (kas_place p k f ((l + h) / 2 + 1) h):=by
     show krun (rcmp r) (if decide (r (p.getD k 0) < r (p.getD ((l + h) / 2) 0))=true then _ else _)=_
     rw [if_neg (by simpa using hc)]
    rw [e]
    refine place_run hu f _ h (by lia) (by lia) h3 (λi a=> ?_) h5
    by_cases q:i=(l + h) / 2
    ·rw [q];exact Nat.le_of_not_lt hc
    ·exact Nat.le_trans (hu _ _ (by lia) (by lia)) (Nat.le_of_not_lt hc)
theorem kk_bubble {p:Array Nat}{src d:Nat} (hs:src < p.size) (hd:d<=src) (k:Nat):KK r (bubble p src d) k=if k=src - d then KK r p src else if src - d < k/\k<=src then KK r p (k - 1) else KK r p k:=by
 have h:=getElem?_bubble hs d hd k
 have g: ∀ (q:Array Nat) (m:Nat),KK r q m=r ((q[m]?).getD 0):=λq m=>by unfold KK;simp [Array.getD_eq_getD_getElem?]
 rw [g,g,g,g,h]
 split
 ·rfl
 ·split
  ·rfl
  ·rfl
theorem bin_run: ∀ (f:Nat) (p:Array Nat) (k:Nat),k + f<=p.size->Up r p k->(krun (rcmp r) (kas_bin f p k)).Perm p/\Up r (krun (rcmp r) (kas_bin f p k)) (k + f)
 | 0,p,k,hs,hu=>⟨.refl _,hu⟩
 | f + 1, p, k,hs,hu=>by
  change Array.Perm (krun (rcmp r) (KasT.bind _ _)) p/\Up r (krun (rcmp r) (KasT.bind _ _)) (k + (f + 1))
  rw [krun_bind]
  obtain⟨a,b,c⟩:=place_run hu k 0 k (by lia) (Nat.zero_le _) (Nat.le_refl _) (λi h=>by lia) (λi h1 h2=>by lia)
  generalize krun (rcmp r) (kas_place p k k 0 k)=l at *
  have hu' : Up r (bubble p k (k - l)) (k + 1):=λi j hij hj=>by
   rw [kk_bubble (by lia) (by lia),kk_bubble (by lia) (by lia)]
   have e:k - (k - l)=l:=by lia
   rw [e]
   by_cases q1:i=l
   ·rw [if_pos q1]
    rw [if_neg (by lia),if_pos ⟨by lia,by lia⟩]
    exact Nat.le_of_lt (c _ (by lia) (by lia))
   ·rw [if_neg q1]
    by_cases q2:l < i
    ·rw [if_pos ⟨q2,by lia⟩,if_neg (by lia),if_pos ⟨by lia,by lia⟩]
     exact hu _ _ (by lia) (by lia)
    ·rw [if_neg (by lia)]
     by_cases q3:j=l
     ·rw [if_pos q3];exact b i (by lia)
     ·rw [if_neg q3]
      by_cases q4:l < j
      ·rw [if_pos ⟨q4,by lia⟩]
       by_cases q5:i=j - 1
       ·lia
       ·exact hu _ _ (by lia) (by lia)
      ·rw [if_neg (by lia)]
       exact hu _ _ hij (by lia)
  obtain⟨d1,d2⟩:=bin_run f (bubble p k (k - l)) (k + 1) (by rw [bubble_size];lia) hu'
  exact⟨d1.trans (bubble_perm _ _ _),by rw [show k + (f + 1)=k + 1 + f by lia];exact d2⟩
theorem sort_run {n:Nat} (h1:1<=n):(krun (rcmp r) (kas_sort n)).toList.Perm (List.range n)/\Up r (krun (rcmp r) (kas_sort n)) n:=by
 unfold kas_sort
 rw [krun_bind]
 cases hr:krun (rcmp r) (kas_count n (List.toArray (List.range n))) with
 | mk m p=>
  obtain⟨a,b,c,d⟩:=count_run h1 (by simp) hr
  dsimp only
  have sz:p.size=n:=by have:=a.size_eq;simpa using this
  have e:max m 1=m:=by lia
  by_cases hm:m < n
  ·rw [if_pos hm,e]
   obtain⟨x,y⟩:=bin_run (n - m) p m (by lia) d
   refine⟨by simpa using Array.perm_iff_toList_perm.mp (x.trans a), ?_⟩
   rw [show m + (n - m)=n by lia] at y
   exact y
  ·rw [if_neg hm]
   have:m=n:=by lia
   subst this
   refine⟨?_,d⟩
   show p.toList.Perm _
   simpa using Array.perm_iff_toList_perm.mp a
end
noncomputable def Good {α:Type} (n:Nat) (P:α->Prop):KasT α->Prop
 | .ret a=>P a
 | .ask i j k=>i < n/\j < n/\∀b,Good n P (k b)
theorem good_ret {α:Type}{n:Nat}{P:α->Prop}{a:α} (h:P a):Good n P (.ret a):=h
theorem Good.bind {α β:Type}{n:Nat}{P:α->Prop}{P':β->Prop}{f:α->KasT β} (hf: ∀a,P a->Good n P' (f a)): ∀ {t:KasT α},Good n P t->Good n P' (t.bind f)
 | .ret a,h=>hf a h
 | .ask i j k,h=>⟨h.1,h.2.1,λb=>Good.bind hf (h.2.2 b)⟩
theorem good_ite {α:Type}{n:Nat}{P:α->Prop}{c:Prop} [Decidable c] {a b:KasT α} (h1:c->Good n P a) (h2: ¬c->Good n P b):Good n P (if c then a else b):=by
 split
 ·exact h1 ‹_›
 ·exact h2 ‹_›
noncomputable def PG (n N:Nat) (p:Array Nat):Prop:=p.size=N/\∀i,p.getD i 0 < n
theorem PG.perm {n N:Nat}{p q:Array Nat} (h:PG n N p) (e:q.Perm p) (hn:0 < n):PG n N q:=by
 refine⟨e.size_eq.trans h.1,λi=> ?_⟩
 by_cases hi:i < q.size
 ·have e1:q.getD i 0=q[i]:=by simp [Array.getD,hi]
  rw [e1]
  have hm:q[i]∈p.toList:=(Array.perm_iff_toList_perm.mp e).mem_iff.mp (by rw [Array.mem_toList_iff];exact Array.getElem_mem hi)
  obtain⟨j,hj,ej⟩:=List.getElem_of_mem hm
  have:=h.2 j
  have hj':j < p.size:=by simpa using hj
  have e2:p.getD j 0=p[j]:=by simp [Array.getD,hj']
  rw [e2] at this
  rw [<- ej]
  simpa using this
 ·have:q.getD i 0=0:=by simp [Array.getD,hi]
  rw [this];exact hn
section
variable {n N:Nat} (hn:0 < n)
include hn
theorem good_asc {p:Array Nat} (h:PG n N p): ∀ (f k:Nat),Good n (λ_=>True) (kas_asc p f k)
 | 0,k=>trivial
 | f + 1,k=>⟨h.2 _,h.2 _,λb=>good_ite (λ_=>trivial) λ_=>good_asc h f (k + 1)⟩
theorem good_desc: ∀ (f:Nat) (p:Array Nat) (k q:Nat),PG n N p->Good n (λr=>PG n N r.1) (kas_desc f p k q)
 | 0,p,k,q,h=>h
 | f + 1,p,k,q,h=>⟨h.2 _,h.2 _,λb=>good_ite (λ_=>good_ite (λ_=>good_desc f _ _ _ (h.perm (rev_perm _ _ _) hn)) λ_=>good_desc f _ _ _ h)
  λ_=>⟨h.2 _,h.2 _,λd=>good_ite (λ_=>h) λ_=>good_desc f _ _ _ h⟩⟩
theorem good_tail {p:Array Nat}{k m:Nat} (h:PG n N p):Good n (λr=>PG n N r.2) (kas_tail3 k m p):=by
 unfold kas_tail3
 exact Good.bind (λx _=>good_ret (P:=λr:Nat × Array Nat=>PG n N r.2) (h.perm (rev_perm _ _ _) hn)) (good_asc hn (h.perm (rev_perm _ _ _) hn) _ _)
theorem good_descPart {p:Array Nat}{k m:Nat} (h:PG n N p):Good n (λr=>PG n N r.2) (kas_descPart k m p) :=
 Good.bind (λr hr=>good_ite (λ_=>good_tail hn (PG.perm hr (rev_perm _ _ _) hn)) λ_=>good_tail hn hr) (good_desc hn _ _ _ _ h)
theorem good_count {p:Array Nat}{m:Nat} (h:PG n N p):Good n (λr=>PG n N r.2) (kas_count m p):=by
 unfold kas_count
 refine Good.bind (λk _=> ?_) (good_asc hn h _ _)
 refine good_ite (λ_=>good_ret (P:=λr:Nat × Array Nat=>PG n N r.2) h) λ_=>good_ite (λ_=> ?_) λ_=>good_descPart hn h
 exact⟨h.2 _,h.2 _,λc=>good_ite (λ_=>good_ret (P:=λr:Nat × Array Nat=>PG n N r.2) h) λ_=>good_descPart hn (h.perm (rev_perm _ _ _) hn)⟩
theorem good_place {p:Array Nat}{k:Nat} (h:PG n N p): ∀ (f l r:Nat),Good n (λ_=>True) (kas_place p k f l r)
 | 0,l,r=>trivial
 | f + 1,l,r=>good_ite (λ_=>trivial) λ_=>⟨h.2 _,h.2 _,λc=>good_ite (λ_=>good_place h f _ _) λ_=>good_place h f _ _⟩
theorem good_bin: ∀ (f:Nat) (p:Array Nat) (k:Nat),PG n N p->Good n (PG n N) (kas_bin f p k)
 | 0,p,k,h=>h
 | f + 1,p,k,h=>Good.bind (λl _=>good_bin f _ _ (h.perm (bubble_perm _ _ _) hn)) (good_place hn h _ _ _)
theorem good_sort:Good n (PG n n) (kas_sort n):=by
 have h:PG n n (List.toArray (List.range n)):=⟨by simp,λi=>by
  by_cases hi:i < n
  ·simp [Array.getD,hi]
  ·simp [Array.getD,hi,hn]⟩
 exact Good.bind (λr hr=>good_ite (λ_=>good_bin hn _ _ _ hr) λ_=>good_ret hr) (good_count hn h)
end
theorem runKas_pure {α:Type}{n:Nat}{P:α->Prop}{cmp:Nat->Nat->M Bool}{c:Nat->Nat->Bool}{H:Hp} (hc: ∀i j,i < n->j < n->cmp i j H= .ok (c i j) H) :
 ∀ {t:KasT α},Good n P t->runKas cmp t H= .ok (krun c t) H/\P (krun c t)
 | .ret a,h=>⟨rfl,h⟩
 | .ask i j k,h=>by
  obtain⟨h1,h2⟩:=runKas_pure hc (h.2.2 (c i j))
  refine⟨?_,h2⟩
  show M.bind (cmp i j) _ H=_
  unfold M.bind
  rw [hc i j h.1 h.2.1]
  exact h1
theorem runKas_good {α:Type}{n:Nat}{P:α->Prop}{cmp:Nat->Nat->M Bool}: ∀ {t:KasT α}{H H':Hp}{a:α},Good n P t->runKas cmp t H= .ok a H'->P a
 | .ret a,H,H',b,h,e=>by cases e;exact h
 | .ask i j k,H,H',b,h,e=>by
  have e':M.bind (cmp i j) (λb=>runKas cmp (k b)) H= .ok b H':=e
  unfold M.bind at e'
  cases hc:cmp i j H with
  | no=>rw [hc] at e';cases e'
  | ex H₁=>rw [hc] at e';cases e'
  | ok c H₁=>rw [hc] at e';exact runKas_good (h.2.2 c) e'
theorem insV_perm (x:V): ∀ (l:List V),(insV x l).Perm (x :: l)
 | []=> .refl _
 | y :: r=>by
  rcases Classical.em (plt y x=true) with q | q
  ·rw [show insV x (y :: r)=_ from if_pos q]
   exact((insV_perm x r).cons y).trans (.swap x y r)
  ·rw [show insV x (y :: r)=_ from if_neg q]
theorem isortV_perm: ∀ (l:List V),(isortV l).Perm l
 | []=> .refl _
 | x :: r=>(insV_perm x _).trans ((isortV_perm r).cons x)
theorem strictV_get: ∀ {ws:List V},strictV ws=true->∀ {x y:Nat}{a b:V},x < y->ws[x]? =some a->ws[y]? =some b->pord false a b= .val true/\pord false b a= .val false
 | [],_,x,y,a,b,_,h1,_=>by simp at h1
 | w :: r,h,x,y,a,b,hxy,h1,h2=>by
  have h:=Bool.and_eq_true_iff.mp (h:(r.all (λy=>plt w y && pge y w) && strictV r)=true)
  rw [List.all_eq_true] at h
  cases y with
  | zero=>lia
  | succ y=>
   rw [List.getElem?_cons_succ] at h2
   cases x with
   | zero=>
    rw [List.getElem?_cons_zero] at h1
    cases h1
    have:=h.1 b (List.mem_of_getElem? h2)
    rw [Bool.and_eq_true] at this
    obtain⟨p1,p2⟩:=this
    unfold plt at p1
    unfold pge at p2
    constructor
    ·split at p1
     ·assumption
     ·cases p1
    ·split at p2
     ·assumption
     ·cases p2
   | succ x=>
    rw [List.getElem?_cons_succ] at h1
    exact strictV_get h.2 (by lia) h1 h2
theorem runKas_noEx {α:Type}{x:M α}{H H':Hp}{a:α} (h:x H= .ok a H'):noEx x H= .ok a H':=by
 unfold noEx;rw [h]
theorem clsOf_plain {v:V}{H:Hp} (h:isTupI v=true):clsOf v H= .ok none H:=by
 cases v with
 | tup _=>rfl
 | _=>exact Bool.noConfusion h
theorem sortV_strict {C:CallT}{P:Prog}{us ws:List V}{H:Hp} (hs:strictV ws=true) (hp:us.Perm ws) (hk:us.all isTupI=true) (hl:us.length<=63)
 (hself: ∀v∈ws,pord false v v= .val false):sortV C P us H= .ok ws H:=by
 have hlen:=hp.length_eq
 unfold sortV
 by_cases h2:us.length < 2
 ·rw [if_pos h2]
  have:us=ws:=by
   match us,ws,hlen,h2,hp with
   | [],[],_,_,_=>rfl
   | [a],[b],_,_,hp=>exact List.perm_singleton.mp hp▸rfl
   | [],_ :: _,hl,_,_=>simp at hl
   | [_],[],hl,_,_=>simp at hl
   | [_],_ :: _ :: _,hl,_,_=>simp at hl
   | _ :: _ :: _,_,_,h,_=>simp at h;lia
  rw [this];rfl
 rw [if_neg h2,if_neg (by lia)]
 have ek:kindOK us H= .ok true H:=by unfold kindOK;rw [if_pos hk];rfl
 show M.bind (kindOK us) _ H=_
 unfold M.bind
 rw [ek]
 dsimp only
 rw [if_pos rfl]
 have hnd:ws.Nodup:=by
  rw [List.nodup_iff_pairwise_ne,List.pairwise_iff_getElem]
  intro i j hi hj hij e
  have:=strictV_get hs hij (List.getElem?_eq_getElem hi) (List.getElem?_eq_getElem hj)
  rw [e] at this
  rw [this.1] at this
  cases this.2
 have mem: ∀i,i < us.length->∃x,∃hx:x < ws.length,ws[x]=us.getD i .none:=λi hi=>by
  have:us.getD i .none=us[i]:=by simp [hi]
  rw [this]
  exact List.getElem_of_mem (hp.mem_iff.mp (List.getElem_mem hi)) |>.imp λx ⟨h,e⟩=>⟨h,e⟩
 obtain⟨r,hr⟩: ∃r:Nat->Nat,∀i,i < us.length->∃hx:r i < ws.length,ws[r i]=us.getD i .none:=by
  refine⟨λi=>if h:i < us.length then(mem i h).choose else 0,λi hi=> ?_⟩
  dsimp only
  rw [dif_pos hi]
  exact(mem i hi).choose_spec
 have gk: ∀i,i < us.length->isTupI (us.getD i .none)=true:=λi hi=>by
  rw [show us.getD i .none=us[i] by simp [hi]]
  exact List.all_eq_true.mp hk _ (List.getElem_mem hi)
 have cmp: ∀i j,i < us.length->j < us.length->ltv false C P (us.getD i .none) (us.getD j .none) H= .ok (rcmp r i j) H:=λi j hi hj=>by
  obtain⟨hx,ex⟩:=hr i hi
  obtain⟨hy,ey⟩:=hr j hj
  have e1:ltv false C P (us.getD i .none) (us.getD j .none) H=ofLtR P (pord false (us.getD i .none) (us.getD j .none)) H:=by
   show M.bind (clsOf (us.getD i .none)) (λc=>M.bind (clsOf (us.getD j .none)) λd=>om c (if d=none then ofLtR P (pord false (us.getD i .none) (us.getD j .none)) else stuck) _) H=_
   unfold M.bind
   rw [clsOf_plain (gk i hi)]
   dsimp only
   rw [clsOf_plain (gk j hj)]
   rfl
  rw [e1]
  rcases Nat.lt_trichotomy (r i) (r j) with h | h | h
  ·have:=strictV_get hs h (List.getElem?_eq_getElem hx) (List.getElem?_eq_getElem hy)
   rw [<- ex, <- ey,this.1]
   show Res.ok true H= .ok (decide (r i < r j)) H
   rw [decide_eq_true h]
  ·have e2:us.getD i .none=us.getD j .none:=by rw [<- ex, <- ey];congr 1
   rw [e2,hself _ (by rw [<- ey];exact List.getElem_mem hy)]
   show Res.ok false H= .ok (decide (r i < r j)) H
   rw [decide_eq_false (by lia)]
  ·have:=strictV_get hs h (List.getElem?_eq_getElem hy) (List.getElem?_eq_getElem hx)
   rw [<- ex, <- ey,this.2]
   show Res.ok false H= .ok (decide (r i < r j)) H
   rw [decide_eq_false (by lia)]
 obtain⟨e3,e4⟩:=runKas_pure (c:=rcmp r) cmp (good_sort (n:=us.length) (by lia))
 obtain⟨s1,s2⟩:=sort_run (r:=r) (n:=us.length) (by lia)
 show M.bind (noEx _) _ H=_
 unfold M.bind
 rw [runKas_noEx e3]
 generalize krun (rcmp r) (kas_sort us.length)=p at *
 dsimp only
 have psz:p.size=us.length:=e4.1
 have rp :(p.toList.map r)=List.range us.length:=by
  have q1:(p.toList.map r).Perm ((List.range us.length).map r):=s1.map r
  have q2:((List.range us.length).map r).Perm (List.range us.length):=by
   have inj:((List.range us.length).map r).Nodup:=by
    have und:us.Nodup:=hp.nodup_iff.mpr hnd
    rw [List.nodup_iff_pairwise_ne,List.pairwise_map]
    refine List.Pairwise.imp_of_mem (R:=(· < ·)) (λ {a b} ha hb hab e=> ?_) List.pairwise_lt_range
    have ha':=List.mem_range.mp ha
    have hb':=List.mem_range.mp hb
    obtain⟨_,e1⟩:=hr a ha'
    obtain⟨_,e2⟩:=hr b hb'
    have e5:us[a]=us[b]:=by
     have g1:us.getD a .none=us[a]:=by simp [ha']
     have g2:us.getD b .none=us[b]:=by simp [hb']
     rw [<- g1, <- g2, <- e1, <- e2]
     congr 1
    exact List.pairwise_iff_getElem.mp (List.nodup_iff_pairwise_ne.mp und) a b ha' hb' hab e5
   rw [List.perm_ext_iff_of_nodup inj List.nodup_range]
   intro x
   constructor
   ·intro hx
    obtain⟨i,hi,rfl⟩:=List.mem_map.mp hx
    have:=(hr i (List.mem_range.mp hi)).1
    exact List.mem_range.mpr (by lia)
   ·intro hx
    have hx':=List.mem_range.mp hx
    obtain⟨i,hi,ei⟩:=List.getElem_of_mem (hp.mem_iff.mpr (List.getElem_mem (show x < ws.length by lia)))
    refine List.mem_map.mpr ⟨i,List.mem_range.mpr hi, ?_⟩
    obtain⟨h3,e6⟩:=hr i hi
    have g1:us.getD i .none=us[i]:=by simp [hi]
    rw [g1,ei] at e6
    exact(List.getElem_inj hnd).mp e6
  refine(q1.trans q2).eq_of_pairwise (le:=λa b=>a<=b) (λa b _ _ h1 h2=>Nat.le_antisymm h1 h2) ?_ ?_
  ·rw [List.pairwise_iff_getElem]
   intro i j hi hj hij
   simp only [List.length_map,Array.length_toList] at hi hj
   simp only [List.getElem_map,Array.getElem_toList]
   have:=s2 i j hij (by lia)
   unfold KK at this
   simpa [Array.getD,show i < p.size by lia,show j < p.size by lia] using this
  ·exact(List.pairwise_lt_range (n:=us.length)).imp Nat.le_of_lt
 have fin:(p.toList.map λi=>us.getD i .none)=ws:=by
  apply List.ext_getElem
  ·simp;lia
  ·intro i h1 h2
   simp only [List.length_map,Array.length_toList] at h1
   simp only [List.getElem_map,Array.getElem_toList]
   have hpi:p[i] < us.length:=by
    have:=e4.2 i
    simpa [Array.getD,h1] using this
   obtain⟨h3,e6⟩:=hr p[i] hpi
   have e7:r p[i]=i:=by
    have:(p.toList.map r)[i]? =(List.range us.length)[i]? :=by rw [rp]
    simp [h1,show i < us.length by lia] at this
    exact this
   rw [<- e6]
   congr 1
 rw [fin]
 rfl
noncomputable abbrev setOb (led:Bool):Obj:={cls:= .type "set",dict:=none,data:= .set #[] 0 (.fresh 0 0 led) }
section
variable {prog:Program}{w:World}{A:Around}{E:Value->Shared->Prop}{s:Shared}
theorem code_set_new_led (a:Value) {Q₁:Value->Shared->Prop}
 (h:Q₁ (.ref s.heap.objs.size) {s with heap:=s.heap.push (setOb (!byText w)) }) :
 codeAny (model prog w) A (.call (.builtin "set.__new__") ⟨[.type "set",a],[]⟩) (PySem.wants Q₁ E) s:=by
 refine codeAny_of_tree ?_
 show wpAny _ A.in1 (do checkBuiltinCall "set.__new__" ⟨[.type "set",a],[]⟩;again (.builtin "set.__new__" ⟨[.type "set",a],[]⟩)) _ _ s
 refine wpAny_bind (wpAny_of_eq (PySem.F.newCall_set_1 a) (wpAny_pure ⟨plainId_quiet PySem.F.plain_set_new _,codeAny_builtin PySem.F.entry_set_new ?_⟩))
 rw [Around.under_plainId PySem.F.plain_set_new _]
 unfold Builtin.«set.__new__» Builtin.Frozenset.newClass
 have hsub:=PySem.sub_set_self
 obtain⟨hp,g,d,tk,os⟩:=s
 dsimp only
 wp_walk
 refine wpAny_askSetting (wpAny_pure ?_)
 dsimp only
 simp only [newObj]
 refine wpAny_bind (wpAny_alloc (wpAny_pure ?_))
 exact wpAny_pure h
set_option maxHeartbeats 3200000 in
theorem call_set_with {l:Addr}{items:Array Value}{Q:Value->Shared->Prop}{Good:Shared->Prop} (hl:s.heap.IsList l items)
 (loop: ∀ (R:Result->Shared->Prop),(∀s',Good s'->R (.ok (.ret .none)) s')->
  codeAny (model prog w) A.in1.in1 (.builtin "set.update.loop" ⟨[.ref s.heap.objs.size, .ref (s.heap.objs.size + 1)],[]⟩) R {s with heap:=(s.heap.push (setOb (!byText w))).push {cls:= .type "list_iterator",data:= .fields #[.ref l, .int 0 0] } })
 (hext: ∀s',Good s'->∃o,s'.heap.get? s.heap.objs.size=some o/\o.cls= .type "set")
 (h: ∀s',Good s'->Q (.ref s.heap.objs.size) s') :
 wpAny (model prog w) A (call (.type "set") [.ref l]) Q E s:=by
 obtain⟨c,tl,hmro⟩:=PySem.F.called_set.mro
 have hmade:=PySem.F.called_set.made
 have hsub:=PySem.F.called_set.sub
 refine wpAny_call (codeAny_of_tree ?_)
 show wpAny _ _ (callAny (.type "set") _) _ _ _
 refine wpAny_pure ⟨Code.quiet_builtin _ (by decide +kernel),codeAny_builtin PySem.F.entry_type_call ?_⟩
 rw [Around.under_plain (weight_type_call_type "set" [.ref l] []) rfl]
 have h1:=PySem.F.called_set.notType
 have h2:=PySem.F.called_set.canCreate
 have hct:=PySem.F.typeCall_set_1 (.ref l)
 repeat (any_goals (first | assumption | wp_step))
 refine codeAny_mono (code_set_new_led (.ref l) (E:=E) (Q₁:=λobj s₁=>obj= .ref s.heap.objs.size/\s₁= {s with heap:=s.heap.push (setOb (!byText w)) }) ⟨rfl,rfl⟩) λr s₁ hr=> ?_
 cases r with
 | error e=>exact hr
 | ok fl =>
  cases fl with
  | ret obj=>
   obtain⟨rfl,rfl⟩:=hr
   have hS:(s.heap.push (setOb (!byText w))).get? s.heap.objs.size=some (setOb (!byText w)):=Heap.get?_push_size _ rfl
   have hT:Shared.TypeIs {s with heap:=s.heap.push (setOb (!byText w)) } (.ref s.heap.objs.size) "set" :=⟨_,hS,rfl⟩
   have hli:=PySem.F.called_set.init.lookup
   have hbi:=PySem.F.called_set.init.bind (.ref s.heap.objs.size)
   repeat (any_goals (first | assumption | wp_step))
   refine codeAny_mono (codeAny_call_builtin (R:=PySem.wants (λr s₂=>r= .none/\Good s₂) E) PySem.F.called_set.init.plain PySem.F.entry_set_init (PySem.check_set_init_1 hT ?_)) λr₂ s₂ hr₂=> ?_
   ·obtain⟨ol,hol,hcl,nl,hdl⟩:=hl
    obtain⟨ocls,odict,odata,oslots⟩:=ol
    simp only at hcl hdl
    subst hcl;subst hdl
    have hol':(s.heap.push (setOb (!byText w))).get? l=some {cls:= .type "list",dict:=odict,data:= .seq items nl,slots:=oslots}:=Heap.get?_push_of_some _ hol
    have hsls:=PySem.F.sub_list_set
    have hslf:=PySem.F.sub_list_frozenset
    have hne:(Value.type "list" == Value.type "dict")=false:=by decide
    have hl1:(s.heap.push (setOb (!byText w))).IsList l items:=⟨_,hol',rfl,nl,rfl⟩
    unfold Builtin.«set.__init__» noKeywords Builtin.Frozenset.updateFrom
    generalize hPI:pyIter=PI
    wp_walk
    subst hPI
    refine wpAny_pyIter_list hl1 ?_
    refine wpAny_bind (wpAny_runValue ?_)
    have esz:(s.heap.push (setOb (!byText w))).objs.size=s.heap.objs.size + 1:=size_push' _ _
    rw [esz]
    refine loop _ λs' hg=> ?_
    show wpAny _ _ _ _ _ _
    refine wpAny_pure ?_
    show wpAny _ _ (ret Value.none) _ _ _
    exact wpAny_pure ⟨rfl,hg⟩
   ·cases r₂ with
    | error e=>exact hr₂
    | ok fl₂=>
     cases fl₂ with
     | ret r=>
      obtain⟨rfl,hg⟩:=hr₂
      obtain⟨o,ho,hc⟩:=hext _ hg
      have hT2:Shared.TypeIs s₂ (.ref s.heap.objs.size) "set" :=⟨o,ho,hc⟩
      repeat (any_goals (first | assumption | wp_step))
      exact h _ hg
     | _=>exact hr₂.elim
  | _=>exact hr.elim
end
theorem All2.perm {α β:Type}{R:α->β->Prop}{bs bs':List β} (p:bs'.Perm bs): ∀ {as:List α},All2 R as bs->∃as',All2 R as' bs'/\as'.Perm as:=by
 induction p with
 | nil=>intro as h;exact⟨as,h, .refl _⟩
 | cons x _ ih=>
  intro as h
  cases h with
  | cons h1 h2=>
   obtain⟨as',a,b⟩:=ih h2
   exact⟨_, .cons h1 a,b.cons _⟩
 | swap x y l=>
  intro as h
  cases h with
  | cons h1 h2=>
   cases h2 with
   | cons h3 h4=>exact⟨_, .cons h3 (.cons h1 h4), .swap _ _ _⟩
 | trans _ _ ih1 ih2=>
  intro as h
  obtain⟨as',a,b⟩:=ih2 h
  obtain⟨as'',c,d⟩:=ih1 a
  exact⟨as'',c,d.trans b⟩
theorem All2.getR {α β:Type}{R:α->β->Prop}{as:List α}{bs:List β} (h:All2 R as bs): ∀ {i:Nat}{b:β},bs[i]? =some b->∃a,as[i]? =some a/\R a b:=by
 induction h with
 | nil=>intro i b e;exact nomatch e
 | cons r _ ih=>
  intro i b e
  cases i with
  | zero=>exact⟨_,rfl,Option.some.inj e▸r⟩
  | succ i=>exact ih e
inductive FlatV (w:World):Value->Int->Prop
 | int (i:Int) (t:Tok):FlatV w (.int i t) (hashInt i)
 | str (x:Str) (t:Tok):FlatV w (.str x t) (hashStr w x)
noncomputable def FlatT (w:World) (h:Heap) (v:Value) (k:Int):Prop:=
 ∃a items n hs,v= .ref a/\h.get? a=some (tupO items n)/\All2 (FlatV w) items.toList hs/\k=reduceHash (Builtin.Tuple.tupleHashOf hs)
theorem FlatV.byValue {w:World}{v:Value}{k:Int} (f:FlatV w v k):carriedByValue v=true:=by cases f <;> rfl
section
variable {prog:Program}{w:World}{A:Around}{E:Value->Shared->Prop}{s:Shared}
theorem wp_hashV {v:Value}{k:Int}{Q:Int->Shared->Prop} (f:FlatV w v k) (h:Q k {s with toks:=s.toks + 1}):wpAny (model prog w) A (pyHash v) Q E s:=by
 cases f with
 | int i t=>exact(intKind prog w).pyHash (k:=i) (intKind_is _ _ _ _) h
 | str x t=>exact(PySem.strKind prog w).pyHash (k:=x) (by simp [PySem.strKind,Value.isStrOf]) h
theorem wp_hashT {x:Value}{k:Int}{Q:Int->Shared->Prop} (hu:A.units < cLine) (f:FlatT w s.heap x k) (h: ∀tk,Q k {s with toks:=tk}):wpAny (model prog w) A (pyHash x) Q E s:=by
 obtain⟨a,items,n,hs,rfl,ho,hi,rfl⟩:=f
 have hT:s.TypeIs (.ref a) "tuple" :=⟨_,ho,rfl⟩
 unfold pyHash
 first | unfold pyHashByItsType | skip
 first | refine wpAny_bind (wpAny_cRoomFor_or (.inr hu) ?_) | skip
 refine wpAny_bind (wpAny_specialOf hT F.slot_tuple_hash.lookup ?_)
 show wpAny _ _ (if(some (Value.builtin "tuple.__hash__") == some Value.none)=true then _ else _) Q E s
 rw [if_neg (by rw [beq_builtin_none];exact Bool.false_ne_true)]
 refine wpAny_bind (wpAny_specialOf hT F.slot_tuple_hash.lookup ?_)
 show wpAny _ _ (callSpecialIfBoundUnlessNone? (.ref a) "__hash__" _ >>= _) Q E s
 refine wpAny_bind (wpAny_callSpecialIfBoundUnlessNone?_slot hT F.slot_tuple_hash (wpAny_call_entry F.slot_tuple_hash hT F.entry_tuple_hash ?_ (F.args_tuple_hash_1 _)))
 show wpAny _ _ (Builtin.Tuple.tupleItemsOf (.ref a) >>= _) _ _ s
 refine wpAny_bind (wpAny_tupleItemsOf ho rfl ?_)
 refine wpAny_bind ?_
 rw [<- Array.forIn_toList]
 refine wpAny_forIn_list _ (λrest (b:Array Int) s'=>∃hr tk,b.toList ++ hr=hs/\All2 (FlatV w) rest hr/\s'= {s with toks:=tk}) _ ?_ ?_ _ _ ⟨hs,s.toks,rfl,hi,rfl⟩
 ·rintro y rest b s' ⟨hr,tk,he,ha,rfl⟩
  cases ha with
  | @cons _ k2 _ hr2 h1 h2=>
   refine wpAny_bind (wp_hashV h1 ?_)
   first
    | exact wpAny_pure ⟨hr2,_,by simp [<- he],h2,rfl⟩
    | exact wpAny_bind (wpAny_pure (wpAny_pure ⟨hr2,_,by simp [<- he],h2,rfl⟩))
 ·rintro b s' ⟨hr,tk,he,ha,rfl⟩
  cases ha
  rw [List.append_nil] at he
  show wpAny _ _ (retInt (Builtin.Tuple.tupleHashOf b.toList)) _ _ _
  rw [he]
  refine wpAny_ret_mkInt ?_
  show wpAny _ _ (if(decide (-(2:Int) ^ 63<=Builtin.Tuple.tupleHashOf hs) && decide (Builtin.Tuple.tupleHashOf hs < 2 ^ 63))=true then _ else _) Q E _
  unfold reduceHash at h
  by_cases hr:(decide (-(2:Int) ^ 63<=Builtin.Tuple.tupleHashOf hs) && decide (Builtin.Tuple.tupleHashOf hs < 2 ^ 63))=true
  ·rw [if_pos hr]
   rw [if_pos hr] at h
   exact wpAny_pure (h _)
  ·rw [if_neg hr]
   rw [if_neg hr] at h
   exact wpAny_bind (wpAny_rule (wpAny_pure (h _)))
theorem all2_left {α β:Type}{R:α->β->Prop}{P:α->Prop} (k: ∀a b,R a b->P a): ∀ {as:List α}{bs:List β},All2 R as bs->∀a∈as,P a
 | _,_, .nil,a,h=>nomatch h
 | _,_, .cons h1 h2,a,h=>by
  rcases List.mem_cons.mp h with rfl | h
  ·exact k _ _ h1
  ·exact all2_left k h2 a h
theorem wp_quietT {x:Value}{k:Int}{Q:Bool->Shared->Prop} (f:FlatT w s.heap x k) (h:Q true s):wpAny (model prog w) A (eqIsQuiet 8 x) Q E s:=by
 obtain⟨a,items,n,hs,rfl,ho,hi,rfl⟩:=f
 have hT:s.TypeIs (.ref a) "tuple" :=⟨_,ho,rfl⟩
 unfold eqIsQuiet
 refine wpAny_bind (wpAny_specialOf hT F.slot_tuple_eq.lookup ?_)
 show wpAny _ _ (isInstance (.ref a) (.type "tuple") >>= _) _ _ s
 refine wpAny_bind (wpAny_isInstance hT isSubtype_tuple_tuple ?_)
 simp only [Bool.not_true,Bool.false_eq_true,if_false]
 refine wpAny_bind (wpAny_seqItems ho rfl ?_)
 refine wpAny_bind ?_
 show wpAny _ _ (forIn items _ _) _ _ s
 rw [<- Array.forIn_toList]
 refine wpAny_forIn_list _ (λrest r s'=>r.1=none/\s'=s/\∀v∈rest,carriedByValue v=true) _ ?_ ?_ _ _ ⟨rfl,rfl,all2_left (λ_ _ q=>q.byValue) hi⟩
 ·rintro v rest r s' ⟨hr,rfl,hall⟩
  rw [eqIsQuiet_byValue _ (hall v List.mem_cons_self)]
  refine wpAny_bind (wpAny_pure ?_)
  simp only [Bool.not_true,Bool.false_eq_true,if_false]
  exact wpAny_pure ⟨rfl,rfl,λu hu'=>hall u (List.mem_cons_of_mem _ hu')⟩
 ·rintro ⟨r1,r2⟩ s' ⟨hr,rfl,_⟩
  simp only at hr
  subst hr
  exact wpAny_pure h
theorem classV {n:Nat}{v:Value} (h:carriedByValue v=true):ofAClassStatement n v=pure false:=by
 cases v with
 | ref a=>simp [carriedByValue] at h
 | _=>cases n <;> rfl
theorem wp_classT {x:Value}{k:Int}{Q:Bool->Shared->Prop} (f:FlatT w s.heap x k) (h:Q false s):wpAny (model prog w) A (ofAClassStatement 8 x) Q E s:=by
 obtain⟨a,items,n,hs,rfl,ho,hi,rfl⟩:=f
 have hT:s.TypeIs (.ref a) "tuple" :=⟨_,ho,rfl⟩
 rw [ofAClassStatement]
 refine wpAny_bind (wpAny_typeOf hT ?_)
 dsimp only
 have e:(("tuple" :String) == "tuple")=true:=by decide
 rw [e]
 simp only [if_true]
 refine wpAny_bind (wpAny_pure ?_)
 simp only [Bool.not_true,Bool.false_eq_true,if_false]
 refine wpAny_bind (wpAny_seqItems ho rfl ?_)
 dsimp only
 refine wpAny_bind ?_
 rw [<- Array.forIn_toList]
 refine wpAny_forIn_list _ (λrest r s'=>r.1=none/\s'=s/\∀v∈rest,carriedByValue v=true) _ ?_ ?_ _ _ ⟨rfl,rfl,all2_left (λ_ _ q=>q.byValue) hi⟩
 ·rintro v rest r s' ⟨hr,rfl,hall⟩
  rw [classV (hall v List.mem_cons_self)]
  refine wpAny_bind (wpAny_pure ?_)
  simp only [Bool.false_eq_true,if_false]
  exact wpAny_pure ⟨rfl,rfl,λu hu'=>hall u (List.mem_cons_of_mem _ hu')⟩
 ·rintro ⟨r1,r2⟩ s' ⟨hr,rfl,_⟩
  simp only at hr
  subst hr
  exact wpAny_pure h
theorem wp_seen {x:Value}{k:Int}{Q:Bool->Shared->Prop} (f:FlatT w s.heap x k) (stored:List Value) (hs: ∀y∈stored,∃k',FlatT w s.heap y k') (h:Q false s):wpAny (model prog w) A (searchCouldBeSeen x stored) Q E s:=by
 unfold searchCouldBeSeen
 refine wpAny_bind ?_
 refine wpAny_forIn_list _ (λrest r s'=>r.1=none/\s'=s/\∀y∈rest,∃k',FlatT w s.heap y k') _ ?_ ?_ _ _ ⟨rfl,rfl,hs⟩
 ·rintro y rest r s' ⟨hr,rfl,hall⟩
  obtain⟨k',fy⟩:=hall y List.mem_cons_self
  have next: ∀y∈rest,∃k',FlatT w s'.heap y k':=λz hz=>hall z (List.mem_cons_of_mem _ hz)
  have fx:=f
  have fy':=fy
  obtain⟨ax,_,_,_,rfl,_⟩:=fx
  obtain⟨ay,_,_,_,rfl,_⟩:=fy'
  dsimp only
  split
  ·exact wpAny_pure ⟨rfl,rfl,next⟩
  ·refine wpAny_bind (wp_quietT f ?_)
   simp only [Bool.not_true,Bool.false_eq_true,if_false]
   refine wpAny_bind (wp_quietT fy ?_)
   simp only [Bool.not_true,Bool.false_eq_true,if_false]
   refine wpAny_bind (wp_classT f ?_)
   simp only [Bool.false_eq_true,if_false]
   refine wpAny_bind (wp_classT fy ?_)
   simp only [Bool.false_eq_true,if_false]
   exact wpAny_pure ⟨rfl,rfl,next⟩
 ·rintro ⟨r1,r2⟩ s' ⟨hr,rfl,_⟩
  simp only at hr
  subst hr
  exact wpAny_pure h
theorem wp_byValue {x:Value}{k:Int}{Q:Bool->Shared->Prop} (f:FlatT w s.heap x k) (h: ∀b,Q b s):wpAny (model prog w) A (hashByValue 8 x) Q E s:=by
 obtain⟨a,items,n,hs,rfl,ho,hi,rfl⟩:=f
 have hT:s.TypeIs (.ref a) "tuple" :=⟨_,ho,rfl⟩
 unfold hashByValue
 refine wpAny_bind (wpAny_specialOf hT F.slot_tuple_hash.lookup ?_)
 dsimp only
 refine wpAny_bind (wpAny_seqItems ho rfl ?_)
 refine wpAny_bind ?_
 show wpAny _ _ (forIn items _ _) _ _ s
 rw [<- Array.forIn_toList]
 refine wpAny_forIn_list _ (λrest r s'=>s'=s/\∃hr,All2 (FlatV w) rest hr) _ ?_ ?_ _ _ ⟨rfl,hs,hi⟩
 ·rintro v rest r s' ⟨rfl,hr,ha⟩
  cases ha with
  | cons h1 h2=>
   cases h1 with
   | int i t=>
    refine wpAny_bind (show wpAny _ _ (pure true:Sem Bool) _ _ _ from wpAny_pure ?_)
    simp only [Bool.not_true,Bool.false_eq_true,if_false]
    exact wpAny_pure ⟨rfl,_,h2⟩
   | str x t=>
    refine wpAny_bind (show wpAny _ _ (pure false:Sem Bool) _ _ _ from wpAny_pure ?_)
    simp only [Bool.not_false,if_true]
    exact wpAny_pure (wpAny_pure (h _))
 ·rintro ⟨r1,r2⟩ s' ⟨rfl,_⟩
  cases r1 with
  | none=>exact wpAny_pure (h _)
  | some b=>exact wpAny_pure (h _)
end
section
open SetTable (insertAt)
theorem maskOdd {M:Nat} (h:MaskOK M):M % 2=1:=by rcases h with rfl | rfl | rfl <;> rfl
theorem TabOK.fits {es:Array (Int × Value)}{t:SetTable} (T:TabOK es t):t.fits es.size=true:=by
 unfold SetTable.fits SetTable.fill
 have:=T.lt
 rw [T.dum,T.size]
 simp;lia
theorem TabOK.gave {es:Array (Int × Value)}{t:SetTable} (T:TabOK es t):t.gaveWay=false:=by
 unfold SetTable.gaveWay
 have:=maskOdd T.mask
 rw [this];rfl
section
variable {prog:Program}{w:World}{A:Around}{E:Value->Shared->Prop}{s:Shared}
theorem wp_search {a:Addr}{o:Obj}{es:Array (Int × Value)}{ep:Nat}{t:SetTable}{x:Value}{h:Int}{eqs:Nat->Bool}{Q:SetFound->Shared->Prop}
 (ho:s.heap.get? a=some o) (hd:o.data= .set es ep t) (T:TabOK es t) (hx:FlatT w s.heap x h) (hf: ∀i (hi:i < es.size),FlatT w s.heap es[i].2 es[i].1)
 (heq: ∀i (hi:i < es.size),es[i].1=h->∀ {Q:Bool->Shared->Prop}{E:Value->Shared->Prop},Q (eqs i) s->wpAny (model prog w) A (eqBool es[i].2 x) Q E s)
 (h1:(∃i,∃hi:i < es.size,es[i].1=h/\eqs i=true)->Q (.there none) s)
 (k0:Nat) (n1:(stp t.mask k0 (pst t.mask h)).j∉plc t) (n2: ∀k',k' < k0->(stp t.mask k' (pst t.mask h)).j∈plc t) (hk:k0 < 10 * (t.mask + 15))
 (h2:(∀i (hi:i < es.size),es[i].1=h->eqs i=false)->Q (.free (stp t.mask k0 (pst t.mask h)).j false) s) :
 ∀ (fuel c:Nat) (stand:Option SetTable.Probe),c<=k0->k0 - c < fuel->stand.getD (t.probeStart h)=stp t.mask c (pst t.mask h)->
  (∀k' i',∀hi':i' < es.size,k' < c->t.place.getD i' 0=(stp t.mask k' (pst t.mask h)).j->es[i'].1=h->eqs i'=false)->
  wpAny (model prog w) A (setSearchFrom a x h true fuel stand) Q E s:=by
 intro fuel
 induction fuel with
 | zero=>intro c stand _ hl;lia
 | succ fuel ih =>
  intro c stand hc hl hst hold
  have hp:=probe_go T (λi=>(es[i]?.map (·.1)).getD 0) (λi hi=>by simp [hi]) h k0 n1 n2 (10 * SetTable.turns t.mask) c hc (by unfold SetTable.turns;lia)
  rcases hp with⟨k,i,hi,a1,a2,a3,a4,a5,a6⟩ | ⟨b1,b2⟩
  ·have e : t.probe (λi=>(es[i]?.map (·.1)).getD 0) h (stand.getD (t.probeStart h))=some (.candidate (stp t.mask k (pst t.mask h)).j i (stp t.mask (k + 1) (pst t.mask h))):=by
    rw [hst];exact a6
   obtain⟨ya,_,_,_,ey,_⟩:=hf i hi
   have sl:t.slot (stp t.mask k (pst t.mask h)).j= .live i:=by
    rw [<- a3];exact slot_live T.ris (by rw [T.size];exact hi)
   refine wpAny_bind (wpAny_setState_of ho hd T.fits ?_)
   dsimp only
   rw [T.gave]
   simp only [Bool.false_eq_true,if_false]
   generalize hq:t.probe _ h (stand.getD (t.probeStart h))=met
   have hm:met=some (.candidate (stp t.mask k (pst t.mask h)).j i (stp t.mask (k + 1) (pst t.mask h))):=hq.symm.trans e
   subst hm
   dsimp only
   have cont : ∀ {X:Sem SetFound},X=(do
    let some (_,y):=es[i]? | unsupported "internal:set-entry"
    let equal <- holding [y] (eqBool y x)
    let (es',_,t') <- setState a
    if(true && equal)=true then return .there none
    let some same:=t'.sameMemory t.moves t.mask | unsupported "set.changed-during-lookup:is-the-new-block-at-the-old-address"
    let still <- match (if same then t'.slot (stp t.mask k (pst t.mask h)).j else .empty) with
     | .live i'=>match es'[i']? with
      | some (_,y')=>do pure (if <- isSame y' y then some i' else none)
      | none=>pure none
     | _=>pure none
    match still with
    | none=>rule "set.search.anew";setSearchFrom a x h true fuel none
    | some i'=>if equal then return .there (some i') else setSearchFrom a x h true fuel (some (stp t.mask (k + 1) (pst t.mask h))):Sem SetFound)->wpAny (model prog w) A X Q E s:=by
    rintro X rfl
    rw [Array.getElem?_eq_getElem hi]
    dsimp only
    refine wpAny_bind (wpAny_holding (heq i hi a4 ?_))
    refine wpAny_bind (wpAny_setState_of ho hd T.fits ?_)
    dsimp only
    cases he:eqs i with
    | true=>
     simp only [Bool.and_self,if_true]
     exact wpAny_pure (h1 ⟨i,hi,a4,he⟩)
    | false =>
     simp only [Bool.and_false,Bool.false_eq_true,if_false]
     have sm:t.sameMemory t.moves t.mask=some true:=by unfold SetTable.sameMemory;rw [if_pos (by simp)]
     rw [sm]
     dsimp only
     simp only [if_true]
     rw [sl]
     dsimp only
     rw [Array.getElem?_eq_getElem hi]
     dsimp only
     rw [ey]
     refine wpAny_bind (wpAny_isSame_ref_self (wpAny_bind (wpAny_pure ?_)))
     simp only [if_true]
     refine ih (k + 1) _ (by lia) (by lia) rfl λk' i' hi' c1 c2 c3=> ?_
     by_cases q:k' < c
     ·exact hold k' i' hi' q c2 c3
     ·by_cases q2:k' < k
      ·exact absurd c3 (a5 k' i' hi' (by lia) q2 c2)
      ·have:k'=k:=by lia
       subst this
       have:i'=i:=by
        rw [<- a3] at c2
        rcases Nat.lt_trichotomy i' i with hl | hl | hl
        ·have:=T.ris _ _ hl (by rw [T.size];exact hi);lia
        ·exact hl
        ·have:=T.ris _ _ hl (by rw [T.size];exact hi');lia
       subst this
       exact he
   cases hled:t.led with
   | true=>
    simp only [Bool.not_true,Bool.false_eq_true,if_false]
    exact cont rfl
   | false=>
    simp only [Bool.not_false,if_true]
    refine wpAny_bind (wp_seen hx _ (λy hy=> ?_) ?_)
    ·obtain⟨e,he,rfl⟩:=List.mem_map.mp hy
     rw [Array.toList_filter] at he
     obtain⟨i2,hi2,ei2⟩:=List.getElem_of_mem (List.mem_filter.mp he).1
     have hi3:i2 < es.size:=by simpa using hi2
     have:=hf i2 hi3
     rw [Array.getElem_toList] at ei2
     rw [ei2] at this
     exact⟨_,this⟩
    ·simp only [Bool.false_eq_true,if_false]
     exact cont rfl
  ·have e:t.probe (λi=>(es[i]?.map (·.1)).getD 0) h (stand.getD (t.probeStart h))=some (.empty (stp t.mask k0 (pst t.mask h)).j none):=by
    rw [hst];exact b2
   have goal:Q (.free (stp t.mask k0 (pst t.mask h)).j false) s:=h2 λi hi hh=>by
    obtain⟨k,q1,q2⟩:=T.there hi (k0:=k0) (by rw [hh];exact n1)
    rw [hh] at q2
    by_cases q:k < c
    ·exact hold k i hi q q2 hh
    ·exact absurd hh (b1 k i hi (by lia) q1 q2)
   refine wpAny_bind (wpAny_setState_of ho hd T.fits ?_)
   dsimp only
   rw [T.gave]
   simp only [Bool.false_eq_true,if_false]
   generalize hq:t.probe _ h (stand.getD (t.probeStart h))=met
   have hm:met=some (.empty (stp t.mask k0 (pst t.mask h)).j none):=hq.symm.trans e
   subst hm
   exact wpAny_pure goal
end
end
section
open SetTable (insertAt)
noncomputable def SetAt (h:Heap) (a:Addr) (es:Array (Int × Value)) (ep:Nat) (t:SetTable):Prop:=h.get? a=some {cls:= .type "set",dict:=none,data:= .set es ep t,slots:= #[] }
theorem TabOK.flags {es:Array (Int × Value)}{t:SetTable} (T:TabOK es t) (b:Bool):TabOK es {t with plain:=b}:=⟨T.mask,T.dum,T.size,T.ris,T.le,T.lt,T.path⟩
theorem SetAt.store {h:Heap}{a:Addr}{es es':Array (Int × Value)}{ep:Nat}{t t':SetTable} (x:SetAt h a es ep t):SetAt (h.update a (Obj.putSet es' t')) a es' (ep + 1) t':=by
 unfold SetAt at x ⊢
 have:=Heap.get?_update_self (Obj.putSet es' t') x (by rw [putSet_of es' t' rfl];rfl)
 rw [putSet_of es' t' rfl] at this
 exact this
section
variable {prog:Program}{w:World}{A:Around}{E:Value->Shared->Prop}{s:Shared}
theorem wp_setRelay {a:Addr}{es:Array (Int × Value)}{ep:Nat}{t:SetTable}{wanted:Nat}{Q:Unit->Shared->Prop} (x:SetAt s.heap a es ep t) (T:TabOK es t) (hM:MaskOK (SetTable.sizeAbove wanted - 1)) (hl:es.size<=SetTable.sizeAbove wanted - 1)
 (hs:SetTable.sizeAbove wanted<=sizeLine) (he:es.size<=sizeLine)
 (h: ∀h' es' ep' t',Heap.SameBut a s.heap h'->SetAt h' a es' ep' t'->TabOK es' t'->t'.mask=SetTable.sizeAbove wanted - 1->es'.size=es.size->es'.toList.Perm es.toList->t'.led=t.led->Q () {s with heap:=h'}) :
 wpAny (model prog w) A (setRelay a wanted) Q E s:=by
 unfold setRelay
 refine wpAny_bind (wpAny_setState_of x rfl T.fits ?_)
 dsimp only
 rw [if_neg (by lia)]
 obtain⟨t',order,e1,e2,e3,e4,e5,e6,e7⟩:=laid_ok (finger:=t.finger) (moves:=t.movedTo (SetTable.sizeAbove wanted - 1)) (led:=t.led) (plain:=t.plain) hM es hl
 refine wpAny_bind (show wpAny _ _ (do
  let some (t,order):=t.relaid (es.map (·.1)) wanted | unsupported "internal:set-table-without-room"
  let es':=order.filterMap (es[·]?)
  if es'.size != es.size then unsupported "internal:set-table-lost-an-element"
  pure (es',t):Sem (Array (Int × Value) × SetTable)) _ _ _ from ?_)
 have er:t.relaid (es.map (·.1)) wanted=some (t',order):=e1
 rw [er]
 dsimp only
 rw [if_neg (by rw [e5];simp)]
 refine wpAny_pure ?_
 refine wpAny_storeSet_of x rfl ?_ (by rw [e5];exact he)
 exact h _ _ _ _ (Heap.SameBut.update _ a _) x.store e7 e2 e5 e6 e3
theorem grow7:SetTable.sizeAbove (SetTable.grown 5)=32:=by decide
theorem grow31:SetTable.sizeAbove (SetTable.grown 19)=128:=by decide
theorem wp_setAdd {a:Addr}{es:Array (Int × Value)}{ep:Nat}{t:SetTable}{x:Value}{h:Int}{eqs:Nat->Bool}{Q:Bool->Shared->Prop} (hu:A.units < cLine)
 (hs:SetAt s.heap a es ep t) (T:TabOK es t) (hroom:es.size * 5 < t.mask * 3) (h63:es.size < 63) (hx:FlatT w s.heap x h) (hf: ∀i (hi:i < es.size),FlatT w s.heap es[i].2 es[i].1)
 (heq: ∀i (hi:i < es.size),es[i].1=h->∀ (tk:Nat) {Q:Bool->Shared->Prop}{E:Value->Shared->Prop},Q (eqs i) {s with toks:=tk}->wpAny (model prog w) A (eqBool es[i].2 x) Q E {s with toks:=tk})
 (h1:(∃i,∃hi:i < es.size,es[i].1=h/\eqs i=true)->∀tk,Q false {s with toks:=tk})
 (h2:(∀i (hi:i < es.size),es[i].1=h->eqs i=false)->∀h' es' ep' t' tk,Heap.SameBut a s.heap h'->SetAt h' a es' ep' t'->TabOK es' t'->es'.size * 5 < t'.mask * 3->es'.toList.Perm ((h,x) :: es.toList)->t'.led=t.led->Q true {s with heap:=h',toks:=tk}) :
 wpAny (model prog w) A (setAdd a x) Q E s:=by
 unfold setAdd
 refine wpAny_holding (wpAny_bind (wp_hashT hu hx λtk=> ?_))
 unfold setAddHashed setAddHashedIn
 refine wpAny_holding (wpAny_bind (wpAny_setState_of hs rfl T.fits ?_))
 dsimp only
 have hby:byScan x es=false:=by
  obtain⟨ax,_,_,_,rfl,_⟩:=hx
  rfl
 rw [hby]
 simp only [Bool.false_eq_true,if_false]
 obtain⟨k0,k1,n1,n2⟩:=T.first h
 have hm127:t.mask<=127:=by rcases T.mask with e | e | e <;> lia
 unfold setSearch
 refine wpAny_bind (wp_search (s:={s with toks:=tk}) (eqs:=eqs) hs rfl T hx hf (λi hi hh {Q E} hq=>heq i hi hh tk hq) (λhex=> ?_) k0 n1 n2 k1 (λhall=> ?_) 100000 0 none (Nat.zero_le _) (by lia) rfl (λk' i' hi' c=>by lia))
 ·exact wpAny_pure (h1 hex tk)
 ·dsimp only
  refine wpAny_bind (wpAny_setState_of (s:={s with toks:=tk}) hs rfl T.fits ?_)
  dsimp only
  cases hput:t.put (stp t.mask k0 (pst t.mask h)).j with
  | mk t1 p=>
   obtain⟨hp,et1,T1⟩:=T.put (x:=x) (by have:=T.mask;rcases this with e | e | e <;> lia) k1 n1 n2 hput
   dsimp only
   have esz:(insertAt es p (h,x)).size=es.size + 1:=ins_size _ _ _ hp
   have m1:t1.mask=t.mask:=by rw [et1]
   have l1:t1.led=t.led:=by rw [et1]
   have tail: ∀t2:SetTable,TabOK (insertAt es p (h,x)) t2->t2.mask=t.mask->t2.led=t.led->wpAny (model prog w) A (do
    storeSet a (insertAt es p (h,x)) t2
    if (!false && t2.tooFull)=true then do
     setRelay a (SetTable.grown (es.size + 1))
     pure true
    else pure true:Sem Bool) Q E {s with toks:=tk}:=λt2 T2 m2 l2=>by
    refine wpAny_bind (wpAny_storeSet_of (s:={s with toks:=tk}) hs rfl ?_ (by rw [esz,sizeLine_eq];lia))
    have hs2:SetAt (s.heap.update a (Obj.putSet (insertAt es p (h,x)) t2)) a (insertAt es p (h,x)) (ep + 1) t2:=hs.store
    have hfill:t2.fill=es.size + 1:=by
     unfold SetTable.fill
     rw [T2.dum,T2.size,esz];rfl
    by_cases hfull:t2.tooFull=true
    ·rw [if_pos (by rw [hfull];rfl)]
     have hf2:(es.size + 1) * 5 ≥ t.mask * 3:=by
      unfold SetTable.tooFull at hfull
      rw [hfill,m2] at hfull
      exact of_decide_eq_true hfull
     have hcase:(t.mask=7/\es.size=4)\/(t.mask=31/\es.size=18):=by rcases T.mask with e | e | e <;> lia
     have hg: ∃M,MaskOK M/\SetTable.sizeAbove (SetTable.grown (es.size + 1))=M + 1/\(es.size + 1) * 5 < M * 3/\M<=127:=by
      rcases hcase with⟨_,e⟩ | ⟨_,e⟩
      ·exact⟨31, .inr (.inl rfl),by rw [e];exact grow7,by lia,by lia⟩
      ·exact⟨127, .inr (.inr rfl),by rw [e];exact grow31,by lia,by lia⟩
     obtain⟨M,hM,eM,hMr,hM127⟩:=hg
     refine wpAny_bind (wp_setRelay (s:={s with heap:=s.heap.update a (Obj.putSet (insertAt es p (h,x)) t2),toks:=tk}) hs2 T2 (by rw [eM];exact hM) (by rw [esz,eM];lia) (by rw [eM,sizeLine_eq];lia) (by rw [esz,sizeLine_eq];lia) λh' es' ep' t' sb at' T' mk sz pm ld=> ?_)
     refine wpAny_pure (h2 hall h' es' ep' t' tk ((Heap.SameBut.update _ a _).trans sb) at' T' ?_ (pm.trans (ins_perm _ _ _ hp)) (by rw [ld,l2]))
     rw [mk,sz,esz,eM]
     lia
    ·rw [if_neg (by simpa using hfull)]
     refine wpAny_pure (h2 hall _ _ _ t2 tk (Heap.SameBut.update _ a _) hs2 T2 ?_ (ins_perm _ _ _ hp) l2)
     rw [esz,m2]
     have: ¬ ((es.size + 1) * 5 ≥ t.mask * 3):=λhge=>hfull (by unfold SetTable.tooFull;rw [hfill,m2];exact decide_eq_true hge)
     lia
   have both: ∀b:Bool,wpAny (model prog w) A (do
    let t2:=if b then t1 else {t1 with plain:=false}
    storeSet a (insertAt es p (h,x)) t2
    if (!false && t2.tooFull)=true then do
     setRelay a (SetTable.grown (es.size + 1))
     pure true
    else pure true:Sem Bool) Q E {s with toks:=tk}:=λb=>by
    cases b with
    | true=>exact tail t1 T1 m1 l1
    | false=>exact tail {t1 with plain:=false} (T1.flags false) m1 l1
   cases hpl:t1.plain with
   | true=>
    simp only [if_true]
    exact wpAny_bind (wp_byValue (s:={s with toks:=tk}) hx λb=>both b)
   | false=>
    simp only [Bool.false_eq_true,if_false]
    exact wpAny_bind (wpAny_pure (both true))
end
end
theorem item_cases {v:V} (h:isItem v=true) {G:Prop} (f: ∀i,v= .int i->G) (g: ∀x,v= .str x->G):G:=by
 cases v with
 | int i=>exact f i rfl
 | str x=>exact g x rfl
 | _=>exact absurd h nofun
theorem toPy_str {x:Str}{d:PyData} (h:toPy (.str x)=some d):d= .str x:=by
 have h:(if PyData.strOk x then some (.str x) else none)=some d:=h
 by_cases q:PyData.strOk x
 ·rw [if_pos q] at h;exact(Option.some.inj h).symm
 ·rw [if_neg q] at h;exact nos h
theorem item_eqv {v u:V}{d e:PyData} (hv:isItem v=true) (hu:isItem u=true) (h1:toPy v=some d) (h2:toPy u=some e) (h:PyData.eqv d e=true):v=u:=by
 refine item_cases hv (λi ei=>item_cases hu (λj ej=> ?_) λy ej=> ?_) λx ei=>item_cases hu (λj ej=> ?_) λy ej=> ?_
 ·subst ei;subst ej
  rw [<- Option.some.inj h1, <- Option.some.inj h2] at h
  exact congrArg V.int (eq_of_beq h)
 ·subst ei;subst ej
  rw [<- Option.some.inj h1,toPy_str h2] at h
  exact Bool.noConfusion h
 ·subst ei;subst ej
  rw [toPy_str h1, <- Option.some.inj h2] at h
  exact Bool.noConfusion h
 ·subst ei;subst ej
  rw [toPy_str h1,toPy_str h2] at h
  exact congrArg V.str (eq_of_beq h)
theorem toPys_cons {v:V}{r:List V}{ds:List PyData} (h:toPys (v :: r)=some ds): ∃d es,toPy v=some d/\toPys r=some es/\ds=d :: es:=
 (Option.bind_eq_some_iff.mp h).elim λd q=>(Option.map_eq_some_iff.mp q.2).elim λes e=>⟨d,es,q.1,e.1,e.2.symm⟩
theorem items_eqv {vs:List V}: ∀ {us:List V}{ds es:List PyData},vs.all isItem=true->us.all isItem=true->toPys vs=some ds->toPys us=some es->PyData.eqvAll ds es=true->vs=us:=by
 induction vs with
 | nil=>
  intro us ds es _ _ h1 h2 h
  cases us with
  | nil=>rfl
  | cons u us=>
   refine(toPys_cons h2).elim λd q=>q.elim λes' q=> ?_
   rw [<- Option.some.inj h1,q.2.2] at h
   exact Bool.noConfusion h
 | cons v vs ih=>
  intro us ds es hv hu h1 h2 h
  refine(toPys_cons h1).elim λd q=>q.elim λds' q=> ?_
  cases us with
  | nil=>
   rw [<- Option.some.inj h2,q.2.2] at h
   exact Bool.noConfusion h
  | cons u us=>
   refine(toPys_cons h2).elim λd2 q2=>q2.elim λes' q2=> ?_
   rw [q.2.2,q2.2.2] at h
   rw [List.all_cons] at hv hu
   have h:=ba h
   rw [item_eqv (ba hv).1 (ba hu).1 q.1 q2.1 h.1,ih (ba hv).2 (ba hu).2 q.2.1 q2.2.1 h.2]
theorem flat_tup {v:V} (h:isFlat v=true): ∃vs,v= .tup vs/\vs.all isItem=true:=by
 cases v with
 | tup vs=>exact⟨vs,rfl,h⟩
 | _=>exact Bool.noConfusion h
theorem peq_flat {v u:V} (hv:isFlat v=true) (hu:isFlat u=true) (h:peq v u=some true):v=u:=
 (peq_some h).elim λd h=>h.elim λe h=>(flat_tup hv).elim λvs ev=>(flat_tup hu).elim λus eu=>by
  rw [ev.1,eu.1] at h ⊢
  exact(Option.map_eq_some_iff.mp (h.1:(toPys vs).map PyData.tuple=some d)).elim λds a=>(Option.map_eq_some_iff.mp (h.2.1:(toPys us).map PyData.tuple=some e)).elim λes b=>
   congrArg V.tup (items_eqv ev.2 eu.2 a.1 b.1 (by have hr:=h.2.2.2.2;rw [<- a.2, <- b.2] at hr;exact hr.symm))
theorem mapM_some {α β:Type}{f:α->Option β}{l:List α}: ∀ {bs:List β},l.mapM f=some bs->All2 (λa b=>f a=some b) l bs:=by
 induction l with
 | nil=>intro bs h;rw [List.mapM_nil] at h;exact Option.some.inj h▸ .nil
 | cons a l ih=>
  intro bs h
  rw [List.mapM_cons] at h
  refine(Option.bind_eq_some_iff.mp h).elim λb q=>(Option.bind_eq_some_iff.mp q.2).elim λbs' q2=> ?_
  exact Option.some.inj q2.2▸ .cons q.1 (ih q2.1)
theorem all2_any {α:Type}{f:α->Option Bool}{l:List α}{bs:List Bool} (h:All2 (λa b=>f a=some b) l bs):(bs.any id=true ↔ ∃y∈l,f y=some true)/\∀y∈l,∃b,f y=some b:=by
 induction h with
 | nil=>exact⟨⟨λh=>Bool.noConfusion h,λh=>h.elim λy h=>nomatch h.1⟩,λy hy=>nomatch hy⟩
 | @cons a as b bs h t ih=>
  refine⟨⟨λq=> ?_,λq=> ?_⟩,λy hy=>(List.mem_cons.mp hy).elim (λe=>⟨b,e▸h⟩) (ih.2 y)⟩
  ·rw [List.any_cons,Bool.or_eq_true] at q
   exact q.elim (λe=>⟨a, .head _,h.trans (congrArg some e)⟩) λe=>(ih.1.mp e).imp λy hy=>⟨.tail _ hy.1,hy.2⟩
  ·rw [List.any_cons,Bool.or_eq_true]
   exact q.elim λy hy=>(List.mem_cons.mp hy.1).elim (λe=> .inl (Option.some.inj (h.symm.trans (e▸hy.2)))) λe=> .inr (ih.1.mpr ⟨y,e,hy.2⟩)
theorem items_flat {τ:Tabs}{φ:Phi}{news:Nws}{vs:List V}{ps:List Value} (r:VRels τ φ news vs ps):vs.all isItem=true->All2 (FlatV τ.w) ps (vs.map (hashItem τ.w)):=by
 induction r with
 | nil=>exact λ_=> .nil
 | @cons v vs p ps r rs ih=>
  intro h
  rw [List.all_cons] at h
  refine .cons (item_cases (ba h).1 (λi e=> ?_) λx e=> ?_) (ih (ba h).2)
  ·subst e;exact r.intI (C:=λp=>FlatV τ.w p (hashItem τ.w (.int i))) rfl λt=> .int i t
  ·subst e;exact r.inv.elim λt h=>h▸ .str x t
theorem VRel.flatT {τ:Tabs}{φ:Phi}{news:Nws}{h₀:Heap}{L:Addr}{h:Heap} (N:News h₀ L h news) {v:V}{p:Value} (r:VRel τ φ news v p) (hv:isFlat v=true):FlatT τ.w h p (hashKey τ.w v) :=
 (flat_tup hv).elim λvs e=>by
  rw [e.1] at r ⊢
  exact r.tupI (C:=λp=>FlatT τ.w h p (hashKey τ.w (.tup vs))) rfl λa its n hm hr=>⟨a,its,n,_,rfl,N.get hm,items_flat hr e.2,rfl⟩
theorem VRels.perm {τ:Tabs}{φ:Phi}{news:Nws}{ws:World}{bs bs':List (Int × Value)} (p:bs'.Perm bs): ∀ {as:List V},VRels τ φ news as (bs.map (·.2))->bs.map (·.1)=as.map (hashKey ws)->∃as',VRels τ φ news as' (bs'.map (·.2))/\bs'.map (·.1)=as'.map (hashKey ws)/\as'.Perm as:=by
 induction p with
 | nil=>intro as h e;exact⟨as,h,e, .refl _⟩
 | cons x _ ih=>
  intro as h e
  cases as with
  | nil=>exact nomatch e
  | cons a as=>
   refine h.cons_inv.elim λb g=>g.elim λbs g=> ?_
   injection g.1 with g1 g2
   injection e with e1 e2
   exact(ih (g2▸g.2.2) e2).elim λas' q=>⟨a :: as', .cons (g1▸g.2.1) q.1,congr (congrArg List.cons e1) q.2.1,q.2.2.cons _⟩
 | swap x y l=>
  intro as h e
  rcases as with _ | ⟨a,_ | ⟨a2,as⟩⟩
  ·exact nomatch e
  ·injection e with _ e;exact nomatch e
  ·injection e with e1 e;injection e with e2 e
   refine h.cons_inv.elim λb g=>g.elim λbs g=> ?_
   injection g.1 with g1 g2
   refine(g2▸g.2.2).cons_inv.elim λb2 k=>k.elim λbs2 k=> ?_
   injection k.1 with k1 k2
   exact⟨a2 :: a :: as, .cons (k1▸k.2.1) (.cons (g1▸g.2.1) (k2▸k.2.2)),congr (congrArg List.cons e2) (congr (congrArg List.cons e1) e), .swap _ _ _⟩
 | trans _ _ ih1 ih2=>
  intro as h e
  exact(ih2 h e).elim λas' q=>(ih1 q.1 q.2.1).imp λas'' q2=>⟨q2.1,q2.2.1,q2.2.2.trans q.2.2⟩
section
variable {Θ:Cx}{n:Nat}{A:Around}{h₀:Gd}{h:Heap}{L:Addr}{m:Str->Option Value}{φ:Phi}{H:Hp}{news:Nws}{s:Shared}{E:Value->Shared->Prop}
theorem wp_addOne {Sa:Addr}{es:Array (Int × Value)}{ep:Nat}{t:SetTable}{evs acc:List V}{x:V}{p:Value}{bs:List Bool}{Q:Bool->Shared->Prop} (hu:A.units + 64 < cLine)
 (N:News h₀.h L s.heap news) (hs:SetAt s.heap Sa es ep t) (ok:SetOK Θ.τ.w es t evs acc) (hr:VRels Θ.τ φ news evs (es.toList.map (·.2))) (rx:VRel Θ.τ φ news x p) (hx:isFlat x=true) (h63:es.size < 63)
 (hm:acc.mapM (λy=>peq y x)=some bs)
 (h1:bs.any id=true->∀tk,Q false {s with toks:=tk})
 (h2:bs.any id=false->∀h' es' ep' t' evs' tk,Heap.SameBut Sa s.heap h'->SetAt h' Sa es' ep' t'->SetOK Θ.τ.w es' t' evs' (acc ++ [x])->VRels Θ.τ φ news evs' (es'.toList.map (·.2))->es'.size=es.size + 1->Q true {s with heap:=h',toks:=tk}) :
 wpAny Θ.M A (setAdd Sa p) Q E s:=by
 obtain⟨hany,hall⟩:=all2_any (mapM_some hm)
 have hl:evs.length=es.size:=by have:=hr.length;simpa using this
 have at_: ∀i (hi:i < es.size),∃v,evs[i]? =some v/\VRel Θ.τ φ news v es[i].2/\es[i].1=hashKey Θ.τ.w v/\isFlat v=true/\v∈acc:=λi hi=>by
  have e1:(es.toList.map (·.2))[i]? =some es[i].2:=by simp [hi]
  obtain⟨v,hv,rv⟩:=hr.getR e1
  have hmem:v∈evs:=List.mem_of_getElem? hv
  refine⟨v,hv,rv, ?_,ok.flat v hmem,ok.perm.mem_iff.mp hmem⟩
  have e2:(es.toList.map (·.1))[i]? =some es[i].1:=by simp [hi]
  rw [ok.hash,List.getElem?_map,hv] at e2
  exact(Option.some.inj e2).symm
 have eqs: ∃f:Nat->Bool,∀i (hi:i < es.size) v,evs[i]? =some v->peq v x=some (f i):=by
  refine⟨λi=>match evs[i]? with | some v=>(peq v x).getD false | none=>false,λi hi v hv=> ?_⟩
  dsimp only
  rw [hv]
  obtain⟨v',hv',_,_,_,hacc⟩:=at_ i hi
  rw [hv] at hv';cases hv'
  obtain⟨b,hb⟩:=hall v hacc
  simp only [hb,Option.getD_some]
 obtain⟨f,hf⟩:=eqs
 refine wp_setAdd (eqs:=f) (h:=hashKey Θ.τ.w x) (by lia) hs ok.tab ok.room h63 (rx.flatT N hx) (λi hi=> ?_) (λi hi _ tk {Q E} hq=> ?_) (λhex tk=> ?_) (λhno h' es' ep' t' tk sb at' T' rm pm ld=> ?_)
 ·obtain⟨v,_,rv,eh,fl,_⟩:=at_ i hi
  rw [eh];exact rv.flatT N fl
 ·obtain⟨v,hv,rv,eh,fl,_⟩:=at_ i hi
  exact wp_eqBool (s:={s with toks:=tk}) (h₀:=h₀) (L:=L) N hu rv rx (hf i hi v hv) hq
 ·obtain⟨i,hi,_,e⟩:=hex
  obtain⟨v,hv,_,_,_,hacc⟩:=at_ i hi
  refine h1 (hany.mpr ⟨v,hacc, ?_⟩) tk
  rw [hf i hi v hv,e]
 ·have hb:bs.any id=false:=by
   cases q:bs.any id with
   | false=>rfl
   | true=>
    exfalso
    obtain⟨y,hy,e⟩:=hany.mp q
    obtain⟨i,hi,ei⟩:=List.getElem_of_mem (ok.perm.mem_iff.mpr hy)
    rw [hl] at hi
    obtain⟨v,hv,_,eh,fl,hacc⟩:=at_ i hi
    have:v=y:=by rw [List.getElem?_eq_getElem (by rw [hl];exact hi)] at hv;rw [<- Option.some.inj hv];exact ei
    subst this
    have hvx:=peq_flat fl hx e
    have z:=hno i hi (by rw [eh,hvx])
    have:=hf i hi v hv
    rw [e,z] at this;cases this
  have hr2:VRels Θ.τ φ news (x :: evs) (((hashKey Θ.τ.w x,p) :: es.toList).map (·.2)):= .cons rx hr
  obtain⟨evs',a,b,c⟩:=VRels.perm (ws:=Θ.τ.w) pm hr2 (by simp [ok.hash])
  have hsz:es'.size=es.size + 1:=by have:=pm.length_eq;simpa using this
  refine h2 hb h' es' ep' t' evs' tk sb at' ⟨T',rm,by lia,by rw [ld];exact ok.led, ?_,λv hv=> ?_,b⟩ a hsz
  ·refine c.trans ?_
   exact(ok.perm.cons x).trans (List.perm_append_comm (l₁:= [x]) (l₂:=acc))
  ·rcases List.mem_cons.mp (c.mem_iff.mp hv) with rfl | hv
   ·exact hx
   ·exact ok.flat v hv
end
section
variable {Θ:Cx}{n:Nat}{A:Around}{h₀:Gd}{h:Heap}{L:Addr}{m:Str->Option Value}{φ:Phi}{H:Hp}{news:Nws}{s:Shared}{E:Value->Shared->Prop}
theorem tab_nil:TabOK (#[]:Array (Int × Value)) (.fresh 0 0 true):=by
 refine⟨.inl rfl,rfl,rfl, ?_, ?_,Nat.zero_le _, ?_⟩
 ·intro i j _ hj;exact absurd hj (Nat.not_lt_zero j)
 ·intro i hi;exact absurd hi (Nat.not_lt_zero i)
 ·intro i hi;exact absurd hi (Nat.not_lt_zero i)
theorem tab_nil' (led:Bool):TabOK (#[]:Array (Int × Value)) (.fresh 0 0 led):=⟨tab_nil.mask,rfl,rfl,tab_nil.ris,tab_nil.le,Nat.zero_le _,tab_nil.path⟩
theorem set_loop {items:Array Value}{vs ws:List V}{l Sa I:Addr}{R:Result->Shared->Prop} (hu:A.units + 90 < cLine) (hh:A.handled=none) (N:News h₀.h L s.heap news) (hl:s.heap.IsList l items) (hv:VRels Θ.τ φ news vs items.toList)
 (hfl:vs.all isFlat=true) (h63:vs.length<=63) (hlt:l < Sa) (hSI:Sa < I) (hsz:s.heap.objs.size<=Sa)
 (hd:dedup [] vs=some ws)
 (hR: ∀h' tk es ep t evs,(∀b o,s.heap.get? b=some o->h'.get? b=some o)->SetAt h' Sa es ep t->SetOK Θ.τ.w es t evs ws->VRels Θ.τ φ news evs (es.toList.map (·.2))->R (.ok (.ret .none)) {s with heap:=h',toks:=tk}) :
 ∀ (k i:Nat) (acc:List V) (hp:Heap) (tk:Nat) (es:Array (Int × Value)) (ep:Nat) (t:SetTable) (evs:List V),k + i=items.size->(∀b o,s.heap.get? b=some o->hp.get? b=some o)->hp.IsListIter I l i->
  SetAt hp Sa es ep t->SetOK Θ.τ.w es t evs acc->VRels Θ.τ φ news evs (es.toList.map (·.2))->es.size<=i->dedup acc (vs.drop i)=some ws->
  codeAny Θ.M A (.builtin "set.update.loop" ⟨[.ref Sa, .ref I],[]⟩) R {s with heap:=hp,toks:=tk}:=by
 have hvl:vs.length=items.size:=by have:=hv.length;simpa using this
 intro k
 induction k with
 | zero=>
  intro i acc hp tk es ep t evs hk keep hit hs ok hr hle hdd
  refine codeAny_builtin PyProof.Rows.F.entry_set_update_loop ?_
  rw [Around.under_plainId PyProof.Rows.F.plain_set_update_loop _]
  show wpAny _ A.in1 (pyNext (.ref I) >>= _) _ _ _
  have hl':hp.IsList l items:=by obtain⟨o,ho,r⟩:=hl;exact⟨o,keep _ _ ho,r⟩
  refine wpAny_bind (wpAny_pyNext_list_end (s:={s with heap:=hp,toks:=tk}) (by simp [hh]) hit hl' (by rw [Array.getElem?_eq_none_iff];lia) λh' he=> ?_)
  show wpAny _ A.in1 (ret Value.none) _ _ _
  have e:vs.drop i= []:=List.drop_eq_nil_of_le (by lia)
  rw [e] at hdd
  cases hdd
  have hSne:Sa≠I:=Nat.ne_of_lt hSI
  refine wpAny_pure (hR h' tk es ep t evs (λb o q=>he b o (λe2=> ?_) (keep b o q)) (he _ _ hSne hs) ok hr)
  have:=Heap.lt_size q
  rw [e2] at this
  exact absurd (Nat.lt_of_lt_of_le this (Nat.le_trans hsz (Nat.le_of_lt hSI))) (Nat.lt_irrefl _)
 | succ k ih=>
  intro i acc hp tk es ep t evs hk keep hit hs ok hr hle hdd
  refine codeAny_builtin PyProof.Rows.F.entry_set_update_loop ?_
  rw [Around.under_plainId PyProof.Rows.F.plain_set_update_loop _]
  show wpAny _ A.in1 (pyNext (.ref I) >>= _) _ _ _
  have hl':hp.IsList l items:=by obtain⟨o,ho,r⟩:=hl;exact⟨o,keep _ _ ho,r⟩
  have hi:i < items.size:=by lia
  refine wpAny_bind (wpAny_pyNext_list_item (s:={s with heap:=hp,toks:=tk}) hit hl' (Array.getElem?_eq_getElem hi) λh1 hit1 sb1=> ?_)
  show wpAny _ A.in1 (holding [items[i]] (setAdd Sa items[i]) >>= _) _ _ _
  obtain⟨x,hx,rx⟩:=hv.getR (i:=i) (b:=items[i]) (by simp [hi])
  have hSne:Sa≠I:=Nat.ne_of_lt hSI
  have keep1: ∀b o,s.heap.get? b=some o->h1.get? b=some o:=λb o q=>by
   have hb:=Heap.lt_size q
   rw [sb1.2 b (Nat.ne_of_lt (Nat.lt_of_lt_of_le hb (Nat.le_trans hsz (Nat.le_of_lt hSI))))]
   exact keep b o q
  have hs1:SetAt h1 Sa es ep t:=(sb1.2 Sa hSne).trans hs
  have hil:i < vs.length:=by lia
  have ex:vs[i]=x:=by rw [List.getElem?_eq_getElem hil] at hx;exact Option.some.inj hx
  have ed:vs.drop i=x :: vs.drop (i + 1):=by rw [List.drop_eq_getElem_cons hil,ex]
  have fx:isFlat x=true:=by rw [<- ex];exact List.all_eq_true.mp hfl _ (List.getElem_mem hil)
  rw [ed] at hdd
  conv at hdd=>lhs;whnf
  cases hm:acc.mapM (λy=>peq y x) with
  | none=>rw [hm] at hdd;cases hdd
  | some bs=>
   rw [hm] at hdd
   dsimp only at hdd
   refine wpAny_bind (wpAny_holding (wp_addOne (s:={s with heap:=h1,toks:=tk}) (h₀:=h₀) (L:=L) (by simp only [Around.in1_units];lia) (N.grown keep1) hs1 ok hr rx fx (by lia) hm (λhb tk2=> ?_) (λhb h2 es2 ep2 t2 evs2 tk2 sb2 hs2 ok2 hr2 sz2=> ?_)))
   ·rw [if_pos hb] at hdd
    exact wpAny_pure ⟨plainId_quiet PyProof.Rows.F.plain_set_update_loop _,ih (i + 1) acc h1 tk2 es ep t evs (by lia) keep1 hit1 hs1 ok hr (by lia) hdd⟩
   ·rw [if_neg (by rw [hb];simp)] at hdd
    have keep2: ∀b o,s.heap.get? b=some o->h2.get? b=some o:=λb o q=>by
     have hb:=Heap.lt_size q
     rw [sb2.2 b (Nat.ne_of_lt (Nat.lt_of_lt_of_le hb hsz))]
     exact keep1 b o q
    have hit2:h2.IsListIter I l (i + 1):=by
     obtain⟨o,ho,r⟩:=hit1
     exact⟨o,(sb2.2 I (Ne.symm hSne)).trans ho,r⟩
    exact wpAny_pure ⟨plainId_quiet PyProof.Rows.F.plain_set_update_loop _,ih (i + 1) (acc ++ [x]) h2 tk2 es2 ep2 t2 evs2 (by lia) keep2 hit2 hs2 ok2 hr2 (by lia) hdd⟩
theorem wp_setOf {v:V}{p:Value}{Q:Value->Shared->Prop} (r:Room A n Θ.P.hd) (S:Stt Θ A.frames h₀ L m φ H news s.heap) (rv:VRel Θ.τ φ news v p)
 (hp:Pst Θ A.frames h₀ L m (RV Θ) Q E φ news s (bSet Θ.P v H)):wpAny Θ.M A (call (.type "set") [p]) Q E s:=by
 refine Pst.ite' hp λhhd hp=>Pst.ofO hp λl hv hp=>Pst.getLs hp λo vs ho hvs hp=>Pst.ite hp λhc hp=>Pst.ofO hp λws hd hp=> ?_
 have hh:A.handled=none:=r.hand (Bool.eq_false_iff.mpr hhd)
 have hc:=ba hc
 refine rv.refI hv λpa hl=>list_at S hl ho hvs λits n1 d=> ?_
 have hL1:=d.at S
 have hsz:=size_push' s.heap (setOb (!byText Θ.τ.w))
 refine call_set_with (Good:=λs'=>∃h' tk es ep t evs,s'= {s with heap:=h',toks:=tk}/\(∀b o,s.heap.get? b=some o->h'.get? b=some o)/\SetAt h' s.heap.objs.size es ep t/\SetOK Θ.τ.w es t evs ws/\VRels Θ.τ φ news evs (es.toList.map (·.2))) hL1 (λR hR=> ?_) ?_ ?_
 ·have hlt:pa.1 < s.heap.objs.size:=hL1.elim λo h=>Heap.lt_size h.1
  have keep: ∀b o,s.heap.get? b=some o->((s.heap.push (setOb (!byText Θ.τ.w))).push {cls:= .type "list_iterator",data:= .fields #[.ref pa.1, .int 0 0] }).get? b=some o:=λb o q=>Heap.get?_push_of_some _ (Heap.get?_push_of_some _ q)
  refine set_loop (s:=s) (vs:=vs) (h₀:=h₀) (L:=L) (I:=s.heap.objs.size + 1) (Nat.lt_of_le_of_lt (Nat.add_le_add_left (Nat.le_trans (by decide:90<=275) (Nat.le_add_left 275 (40 * n))) _) r.in2.units) hh S.nw hL1 d.items hc.1 (dt hc.2) hlt (Nat.lt_succ_self _) (Nat.le_refl _) hd
   (λh' tk es ep t evs a b c d=>hR _ ⟨h',tk,es,ep,t,evs,rfl,a,b,c,d⟩) its.size 0 [] _ s.toks #[] 0 (.fresh 0 0 (!byText Θ.τ.w)) [] rfl keep ?_ ?_ ⟨tab_nil' _,by show 0 * 5 < 7 * 3;decide,by decide,rfl, .refl _,λv hv=>(nomatch hv),rfl⟩ .nil (Nat.le_refl _) hd
  ·refine⟨{cls:= .type "list_iterator",data:= .fields #[.ref pa.1, .int 0 0] }, ?_,rfl,rfl⟩
   rw [<- hsz];exact Heap.get?_push_size _ rfl
  ·exact Heap.get?_push_of_some _ (Heap.get?_push_size _ rfl)
 ·exact λs' h=>h.elim λh' h=>h.elim λtk h=>h.elim λes h=>h.elim λep h=>h.elim λt h=>h.elim λevs h=>h.1▸⟨_,h.2.2.1,rfl⟩
 ·refine λs' h=>h.elim λh' h=>h.elim λtk h=>h.elim λes h=>h.elim λep h=>h.elim λt h=>h.elim λevs h=> ?_
  rw [h.1]
  have N':=S.nw.grown h.2.1
  have N2:News h₀.h L h' ((s.heap.objs.size,setObj es ep t) :: news):=λq hq=>(List.mem_cons.mp hq).elim (λe=>by
   rw [e]
   refine⟨h.2.2.1,Nat.ne_of_gt S.fr.ns.lt, ?_⟩
   cases e:h₀.h.get? s.heap.objs.size with
   | none=>rfl
   | some o=>exact absurd (Heap.lt_size (S.fr.keep _ _ e)) (Nat.lt_irrefl _)) (N' q)
  exact hp _ _ _ _ tk _ .rfl (S.new (S.fr.kept h.2.1) N2 λq hq=>Heap.lt_size (S.nw q hq).1) (Ext.cons _ _ _) (VRel.set (.head _) h.2.2.2.1 (VRels.mono (Ext.cons _ _ _) h.2.2.2.2))
end
theorem slot_set_iter:Slot "set" "__iter__" "set.__iter__" :=
 .of (owner:= "set") (n:= "__iter__") (by rw [typeLookup_type,builtinLookup_eq_fast];kernel_rfl) (by decide +kernel) (by decide +kernel) (by decide +kernel)
  (by first | exact .inl (by decide +kernel) | exact .inr (by decide +kernel)) (by rw [isSubtype_type];kernel_rfl)
theorem slot_setiter_next:Slot "set_iterator" "__next__" "set_iterator.__next__" :=
 .of (owner:= "set_iterator") (n:= "__next__") (by rw [typeLookup_type,builtinLookup_eq_fast];kernel_rfl) (by decide +kernel) (by decide +kernel) (by decide +kernel)
  (by first | exact .inl (by decide +kernel) | exact .inr (by decide +kernel)) (by rw [isSubtype_type];kernel_rfl)
theorem entry_set_iter:entryFor table "set.__iter__" =some Builtin.«frozenset.__iter__» :=
 entryFor_alias (id':= "frozenset.__iter__") (by kernel_rfl) rfl (by decide +kernel) (by kernel_rfl)
theorem entry_setiter_next:entryFor table "set_iterator.__next__" =some Builtin.«set_iterator.__next__» :=entryFor_of_fast (by kernel_rfl)
theorem args_set_iter (a:Value):argsOk "set.__iter__" ⟨[a],[]⟩:=by unfold argsOk;kernel_rfl
theorem args_setiter_next (a:Value):argsOk "set_iterator.__next__" ⟨[a],[]⟩:=by unfold argsOk;kernel_rfl
theorem slot_set_len:Slot "set" "__len__" "set.__len__" :=
 .of (owner:= "set") (n:= "__len__") (by rw [typeLookup_type,builtinLookup_eq_fast];kernel_rfl) (by decide +kernel) (by decide +kernel) (by decide +kernel)
  (by first | exact .inl (by decide +kernel) | exact .inr (by decide +kernel)) (by rw [isSubtype_type];kernel_rfl)
theorem erase_perm {α:Type}: ∀ {l:List α}{i:Nat} (h:i < l.length),(l[i] :: l.eraseIdx i).Perm l
 | [],i,h=>absurd h (Nat.not_lt_zero i)
 | a :: l,0,h=> .refl _
 | a :: l,i + 1,h=>by
  have hi:i < l.length:=by simpa using h
  have e:(a :: l)[i + 1]=l[i]:=rfl
  rw [e,List.eraseIdx_cons_succ]
  exact(List.Perm.swap a l[i] _).trans ((erase_perm hi).cons a)
theorem pick_go {α:Type} (next:Nat->Nat): ∀ (fuel k:Nat) (left:List α) (out:Array α),left.length<=fuel->(pickOrder.go next fuel k left out).toList.Perm (out.toList ++ left)
 | 0,k,left,out,h=>by
  have:left= []:=List.eq_nil_of_length_eq_zero (by lia)
  subst this
  rw [List.append_nil]
  exact List.Perm.refl _
 | fuel + 1,k,left,out,h=>by
  rw [show pickOrder.go next (fuel + 1) k left out=_ by conv=>lhs;whnf]
  cases hl:left[next k % left.length]? with
  | none =>
   dsimp only
   have :left= []:=by
    cases left with
    | nil=>rfl
    | cons a r=>
     exfalso
     rw [List.getElem?_eq_none_iff] at hl
     have:=Nat.mod_lt (next k) (show(a :: r).length > 0 by simp)
     lia
   subst this
   rw [List.append_nil]
  | some x=>
   dsimp only
   obtain⟨hi,e⟩:=List.getElem?_eq_some_iff.mp hl
   refine(pick_go next fuel (k + 1) _ _ (by rw [List.length_eraseIdx_of_lt hi];lia)).trans ?_
   rw [Array.toList_push,List.append_assoc]
   refine List.Perm.append_left _ ?_
   rw [List.singleton_append, <- e]
   exact erase_perm hi
theorem pick_perm {α:Type} (next:Nat->Nat) (xs:Array α):(pickOrder next xs).toList.Perm xs.toList:=by
 have:=pick_go next xs.size 0 xs.toList #[] (by simp)
 exact this
noncomputable def SItAt (w:World) (hp:Heap) (I a:Addr) (es:Array (Int × Value)) (ep:Nat) (t:SetTable) (out:List Value) (i:Nat):Prop:=
 SetAt hp a es ep t/\TabOK es t/\t.led= !byText w/\∃first,hp.get? I=some {cls:= .type "set_iterator",dict:=none,data:= .fields #[first, .int i 0, .ref a, .int es.size 0, .int ep 0],slots:= #[] }/\
  ((∃slot:Nat,first= .int slot 0/\((byText w=true/\out=(pickOrder (w.params.setOrder a ep) es).toList.map (·.2))\/(byText w=false/\(t.plain=true\/es.size<=1)/\out=es.toList.map (·.2)/\SetTable.below t.place slot=i)))\/
   ∃ (P:Addr) (ord:List Nat),first= .ref P/\hp.get? P=some (tupO (ord.map λ (k:Nat)=>(.int (k:Int) 0:Value)).toArray 0)/\out=ord.map (λk=>(es.getD k default).2)/\ord.Perm (List.range es.size))
section
variable {prog:Program}{w:World}{A:Around}{E:Value->Shared->Prop}{s:Shared}{I a:Addr}{es:Array (Int × Value)}{ep:Nat}{t:SetTable}{out:List Value}{i:Nat}
theorem wpAny_choose {M:Model}{src:Source}{n:Nat}{Q:Nat->Shared->Prop} (hn:n≠0) (h: ∀x dr,x < n->Q x {s with drawn:=dr}):wpAny M A (choose src n) Q E s:=
 λ Γ p hΓ=>⟨hn,h _ _ (Nat.mod_lt _ (Nat.pos_of_ne_zero hn))⟩
theorem wp_drawOrder {α:Type}: ∀ (n:Nat) (xs:List α) {s:Shared}{Q:List α->Shared->Prop},xs.length=n->(∀ys dr,ys.Perm xs->Q ys {s with drawn:=dr})->wpAny (model prog w) A (drawOrder n xs) Q E s
 | 0,xs,s,Q,hn,h=>by
  have:xs= []:=List.eq_nil_of_length_eq_zero hn
  subst this
  exact wpAny_pure (h [] s.drawn (.refl _))
 | n + 1,[],s,Q,hn,h=>by cases hn
 | n + 1,x :: xs,s,Q,hn,h=>by
  refine wpAny_bind (wpAny_choose (by simp) λk dr hk=> ?_)
  rw [List.getElem?_eq_getElem hk]
  dsimp only
  refine wpAny_bind (wp_drawOrder n _ (by rw [List.length_eraseIdx_of_lt hk];lia) λys dr2 hp=> ?_)
  refine wpAny_pure (h _ dr2 ?_)
  exact(hp.cons _).trans (erase_perm hk)
theorem wp_byText {Q:Bool->Shared->Prop} (h:Q (byText w) s):wpAny (model prog w) A setsByText Q E s:=by
 unfold setsByText
 exact wpAny_bind (wpAny_askSetting (wpAny_pure h))
theorem SItAt.ne (x:SItAt w s.heap I a es ep t out i):a≠I:=by
 obtain⟨h1,_,_,first,h2,_⟩:=x
 rintro rfl
 rw [h1] at h2
 have:=congrArg Obj.cls (Option.some.inj h2)
 simp at this
theorem SItAt.len (x:SItAt w s.heap I a es ep t out i):out.length=es.size:=by
 obtain⟨_,_,_,first,_,h⟩:=x
 rcases h with⟨slot,_,⟨_,e⟩ | ⟨_,_,e,_⟩⟩ | ⟨P,ord,_,_,e,p⟩
 ·rw [e,List.length_map];have:=(pick_perm (w.params.setOrder a ep) es).length_eq;simpa using this
 ·rw [e];simp
 ·rw [e,List.length_map];have:=p.length_eq;simpa using this
theorem below_zero {xs:Array Nat} (hr:Ris xs):SetTable.below xs 0=0:=by
 obtain⟨h1,h2,h3⟩:=below_spec hr 0
 by_cases e:SetTable.below xs 0=0
 ·exact e
 ·exact absurd (h2 0 (by lia)) (Nat.not_lt_zero _)
theorem below_next {xs:Array Nat} (hr:Ris xs) {i:Nat} (hi:i < xs.size):SetTable.below xs (xs.getD i 0 + 1)=i + 1:=by
 obtain⟨h1,h2,h3⟩:=below_spec hr (xs.getD i 0 + 1)
 rcases Nat.lt_trichotomy (SetTable.below xs (xs.getD i 0 + 1)) (i + 1) with h | h | h
 ·have:=h3 i (by lia) hi;lia
 ·exact h
 ·have:=h2 (i + 1) h
  have:=hr i (i + 1) (by lia) (by lia)
  lia
theorem wp_setNext_item {x:Value}{Q:Option Value->Shared->Prop} (h:SItAt w s.heap I a es ep t out i) (hx:out[i]? =some x)
 (hQ: ∀h',SItAt w h' I a es ep t out (i + 1)->Heap.SameBut I s.heap h'->Q (some x) {s with heap:=h'}):wpAny (model prog w) A (pyNext (.ref I)) Q E s:=by
 have hlen:=h.len
 have hne:=h.ne
 obtain⟨hs,T,led,first,ho,hcase⟩:=h
 have hT:s.TypeIs (.ref I) "set_iterator" :=⟨_,ho,rfl⟩
 have hi:i < es.size:=by rw [<- hlen];exact(List.getElem?_eq_some_iff.mp hx).1
 unfold pyNext
 refine wpAny_bind (wpAny_attempt (wpAny_callSpecial?_slot (name:=Str.ofString "__next__") hT slot_setiter_next
  (wpAny_call_entry slot_setiter_next hT entry_setiter_next ?_ (args_setiter_next _))))
 show wpAny _ _ (fieldsOf (.ref I) >>= _) _ _ s
 refine wpAny_bind (wpAny_fieldsOf ho rfl ?_)
 dsimp only
 unfold setEntries
 refine wpAny_bind (wpAny_bind (wpAny_setState_of hs rfl T.fits (wpAny_pure ?_)))
 rw [if_neg (by simp)]
 have upd: ∀ (g:Array Value->Array Value) (vs':Array Value),g #[first, .int i 0, .ref a, .int es.size 0, .int ep 0]=vs'->(s.heap.update I (Obj.mapFields g)).get? I=some {cls:= .type "set_iterator",dict:=none,data:= .fields vs',slots:= #[] }:=λg vs' e=>by
  rw [Heap.get?_update_self _ ho rfl]
  subst e;rfl
 have sb1:=λg=>Heap.SameBut.update s.heap I (Obj.mapFields g)
 rcases hcase with⟨slot,rfl,hm⟩ | ⟨P,ord,rfl,hP,rfl,hperm⟩
 ·dsimp only
  have key : ∀ (R:Option (Value × Nat)->Shared->Prop),(∀nx,(byText w=true\/SetTable.below t.place nx=i + 1)->R (some (x,nx)) s)->wpAny (model prog w) A.in1 (setNext a (Int.toNat slot) (Int.toNat i) (Int.toNat ep)) R (λ_ _=>False) s:=by
   intro R hR
   unfold setNext
   refine wpAny_bind (wpAny_setState_of hs rfl T.fits ?_)
   dsimp only
   refine wpAny_bind (wp_byText ?_)
   rcases hm with⟨hb,rfl⟩ | ⟨hb,hpl,rfl,hbel⟩
   ·rw [hb]
    simp only [if_true]
    rw [if_neg (by simp)]
    unfold setWalk
    refine wpAny_bind (wpAny_bind (wpAny_setState_of hs rfl T.fits ?_))
    dsimp only
    refine wpAny_bind (wp_byText ?_)
    rw [hb]
    simp only [if_true]
    refine wpAny_bind (wpAny_askSetting (wpAny_pure ?_))
    have e1:(pickOrder (w.params.setOrder a ep) es)[i]? =some ((pickOrder (w.params.setOrder a ep) es).toList[i]'(by rw [List.length_map] at hlen;rw [hlen];exact hi)):=by
     rw [<- Array.getElem?_toList];exact List.getElem?_eq_getElem _
    have e2:((pickOrder (w.params.setOrder a ep) es).toList[i]'(by rw [List.length_map] at hlen;rw [hlen];exact hi)).2=x:=by
     rw [List.getElem?_map] at hx
     rw [List.getElem?_eq_getElem (by rw [List.length_map] at hlen;rw [hlen];exact hi)] at hx
     exact Option.some.inj hx
    have:=hR (Int.toNat slot) (.inl hb)
    refine wpAny_pure ?_
    have g:R (((pickOrder (w.params.setOrder a ep) es)[(Int.toNat (i:Int))]?).map λe=>(e.2,Int.toNat (slot:Int))) s:=by
     rw [show(Int.toNat (i:Int))=i from Int.toNat_natCast i,e1,Option.map_some,e2]
     exact this
    exact g
   ·rw [hb]
    simp only [Bool.false_eq_true,if_false]
    have hdr:(!t.plain && decide (es.size > 1))=false:=by
     rcases hpl with h | h
     ·rw [h];rfl
     ·have: ¬es.size > 1:=by lia
      simp [this]
    refine wpAny_ite ?_
    split
    ·rename_i hq
     have hq':(!t.plain && decide (es.size > 1))=true:=hq
     rw [hdr] at hq';cases hq'
    ·have hled:(!t.led && !es.isEmpty)=false:=by rw [led,hb];rfl
     refine wpAny_bind ?_
     show wpAny _ _ (if(!t.led && !es.isEmpty)=true then unsupported "set:maker-not-led" else pure ()) _ _ _
     rw [hled]
     simp only [Bool.false_eq_true,if_false]
     refine wpAny_pure ?_
     rw [Int.toNat_natCast,hbel,Array.getElem?_eq_getElem hi,of_getD (by rw [T.size];exact hi)]
     have e3:es[i].2=x:=by
      rw [List.getElem?_map] at hx
      simp [hi] at hx
      exact hx
     refine wpAny_pure ?_
     dsimp only
     rw [e3]
     exact hR _ (.inr (below_next T.ris (by rw [T.size];exact hi)))
  refine wpAny_bind (wpAny_mono (key (λr s'=>s'=s/\∃nx,(byText w=true\/SetTable.below t.place nx=i + 1)/\r=some (x,nx)) λnx hnx=>⟨rfl,nx,hnx,rfl⟩) ?_ λ_ _ z=>z.elim)
  rintro r s' ⟨rfl,nx,hnx,rfl⟩
  dsimp only
  refine wpAny_bind (wpAny_setField ho rfl (by simp) ?_)
  have ho1:=upd (·.setIfInBounds 0 (rawInt nx)) #[rawInt nx, .int i 0, .ref a, .int es.size 0, .int ep 0] rfl
  refine wpAny_bind (wpAny_setField (s:={s' with heap:=s'.heap.update I (Obj.mapFields (·.setIfInBounds 0 (rawInt nx))) }) ho1 rfl (by simp) ?_)
  refine wpAny_pure ⟨x,rfl,wpAny_pure (hQ _ ⟨?_,T,led, .int nx 0, ?_, .inl ⟨nx,rfl, ?_⟩⟩ ((sb1 _).trans (Heap.SameBut.update ..)))⟩
  ·exact(((sb1 (·.setIfInBounds 0 (rawInt nx))).trans (Heap.SameBut.update _ I _)).2 a hne).trans hs
  ·rw [Heap.get?_update_self _ ho1 rfl]
   rfl
  ·rcases hm with⟨hb,e⟩ | ⟨hb,hpl,e,hbel⟩
   ·exact .inl ⟨hb,e⟩
   ·rcases hnx with h | h
    ·rw [hb] at h;cases h
    ·exact .inr ⟨hb,hpl,e,h⟩
 ·dsimp only
  have hIP:P≠I:=by rintro rfl;rw [hP] at ho;have:=congrArg Obj.cls (Option.some.inj ho);simp at this
  refine wpAny_bind (wpAny_seqItems hP rfl ?_)
  have hio:i < ord.length:=by have:=(List.getElem?_eq_some_iff.mp hx).1;simpa using this
  have e1:(ord.map λ (k:Nat)=>(.int (k:Int) 0:Value)).toArray[Int.toNat (i:Int)]? =some (.int (ord[i]:Int) 0):=by simp [hio]
  dsimp only
  rw [e1]
  dsimp only
  have hoi:ord[i] < es.size:=List.mem_range.mp (hperm.mem_iff.mp (List.getElem_mem hio))
  have ex:(es.getD ord[i] default).2=x:=by
   rw [List.getElem?_map,List.getElem?_eq_getElem hio] at hx
   exact Option.some.inj hx
  unfold setNextDrawn
  refine wpAny_bind (wpAny_bind (wpAny_setState_of hs rfl T.fits ?_))
  dsimp only
  rw [if_neg (by simp)]
  rw [Int.toNat_natCast,Array.getElem?_eq_getElem hoi]
  have e4:es[ord[i]].2=x:=by rw [<- ex];simp [Array.getD,hoi]
  dsimp only
  refine wpAny_pure ?_
  refine wpAny_bind (wpAny_setField ho rfl (by simp) ?_)
  rw [e4]
  refine wpAny_pure ⟨x,rfl,wpAny_pure (hQ _ ⟨?_,T,led, .ref P, ?_, .inr ⟨P,ord,rfl, ?_,rfl,hperm⟩⟩ (sb1 _))⟩
  ·exact((sb1 (·.setIfInBounds 1 (rawInt (i + 1)))).2 a hne).trans hs
  ·rw [Heap.get?_update_self _ ho rfl]
   rfl
  ·exact((sb1 (·.setIfInBounds 1 (rawInt (i + 1)))).2 P hIP).trans hP
end
section
variable {prog:Program}{w:World}{A:Around}{E:Value->Shared->Prop}{s:Shared}{I a:Addr}{es:Array (Int × Value)}{ep:Nat}{t:SetTable}{out:List Value}{i:Nat}
theorem wp_stop {Q:PySem.Fin->Shared->Prop}{E':Value->Shared->Prop} (hh:A.handled=none) (h: ∀h' e,Heap.ExtBut s.heap.objs.size s.heap h'->(∃o,h'.get? e=some o/\o.cls= .type "StopIteration")->E' (.ref e) {s with heap:=h'}) :
 wpAny (model prog w) A (do raiseNew (<- newExc (.type "StopIteration") []):Sem PySem.Fin) Q E' s:=by
 refine wpAny_bind ?_
 simp only [newExc,newTuple]
 refine wpAny_bind (wpAny_newObj_type ?_ (by size_fits))
 refine wpAny_bind (m:=firstArgMember _ _) (wpAny_of_eq (a:=Value.none) (by first | rfl | (simp only [firstArgMember];rfl)) ?_)
 refine wpAny_newObj_type ?_ (by size_fits)
 simp only [raiseNew]
 refine wpAny_bind (wpAny_handled ?_)
 rw [hh]
 refine wpAny_bind (wpAny_pure (wpAny_throw ?_))
 refine h _ _ (λb o hb e=>Heap.get?_push_of_some _ (Heap.get?_push_of_some _ e)) ⟨_,Heap.get?_push_size _ rfl,rfl⟩
theorem wp_setNext_end {Q:Option Value->Shared->Prop} (hh:A.handled=none) (h:SItAt w s.heap I a es ep t out i) (hx:out[i]? =none)
 (hQ: ∀h',Heap.ExtBut I s.heap h'->Q none {s with heap:=h'}):wpAny (model prog w) A (pyNext (.ref I)) Q E s:=by
 have hlen:=h.len
 have hne:=h.ne
 obtain⟨hs,T,led,first,ho,hcase⟩:=h
 have hT:s.TypeIs (.ref I) "set_iterator" :=⟨_,ho,rfl⟩
 have hi:es.size<=i:=by rw [<- hlen];exact List.getElem?_eq_none_iff.mp hx
 have hh1:A.in1.handled=none:=hh
 unfold pyNext
 refine wpAny_bind (wpAny_attempt (wpAny_callSpecial?_slot (name:=Str.ofString "__next__") hT slot_setiter_next
  (wpAny_call_entry slot_setiter_next hT entry_setiter_next ?_ (args_setiter_next _))))
 show wpAny _ _ (fieldsOf (.ref I) >>= _) _ _ s
 refine wpAny_bind (wpAny_fieldsOf ho rfl ?_)
 dsimp only
 unfold setEntries
 refine wpAny_bind (wpAny_bind (wpAny_setState_of hs rfl T.fits (wpAny_pure ?_)))
 rw [if_neg (by simp)]
 have sb1:=λg=>Heap.SameBut.update s.heap I (Obj.mapFields g)
 have fin: ∀ (hp:Heap),Heap.ExtBut I s.heap hp->wpAny (model prog w) A.in1 (do raiseNew (<- newExc (.type "StopIteration") []):Sem PySem.Fin)
  (λfin s'=>∃v,fin=PySem.Fin.done (Flow.ret v)/\wpAny (model prog w) A (pure (some v)) Q E s')
  (λe s'=>wpAny (model prog w) A (do if <- isInstance e (.type "StopIteration") then pure none else throw e) Q E s') {s with heap:=hp}:=λhp hx=>by
  refine wp_stop hh1 λh' e hx' hstop=> ?_
  obtain⟨o,ho',hc⟩:=hstop
  refine wpAny_bind (wpAny_isInstance (T:= "StopIteration") (b:=true) ⟨o,ho',hc⟩ isSubtype_stop ?_)
  refine wpAny_pure (hQ _ λb o hb q=>hx' b o (λe2=> ?_) (hx b o hb q))
  have:=Heap.lt_size (hx b o hb q)
  rw [e2] at this
  exact Nat.lt_irrefl _ this
 rcases hcase with⟨slot,rfl,hm⟩ | ⟨P,ord,rfl,hP,rfl,hperm⟩
 ·dsimp only
  have key : ∀ (R:Option (Value × Nat)->Shared->Prop),R none s->wpAny (model prog w) A.in1 (setNext a (Int.toNat slot) (Int.toNat i) (Int.toNat ep)) R (λ_ _=>False) s:=by
   intro R hR
   unfold setNext
   refine wpAny_bind (wpAny_setState_of hs rfl T.fits ?_)
   dsimp only
   refine wpAny_bind (wp_byText ?_)
   rcases hm with⟨hb,rfl⟩ | ⟨hb,hpl,rfl,hbel⟩
   ·rw [hb]
    simp only [if_true]
    rw [if_neg (by simp)]
    unfold setWalk
    refine wpAny_bind (wpAny_bind (wpAny_setState_of hs rfl T.fits ?_))
    dsimp only
    refine wpAny_bind (wp_byText ?_)
    rw [hb]
    simp only [if_true]
    refine wpAny_bind (wpAny_askSetting (wpAny_pure ?_))
    have e1:(pickOrder (w.params.setOrder a ep) es)[i]? =none:=by
     rw [Array.getElem?_eq_none_iff]
     have:(pickOrder (w.params.setOrder a ep) es).size=es.size:=by rw [List.length_map] at hlen;simpa using hlen
     lia
    refine wpAny_pure ?_
    have g:R (((pickOrder (w.params.setOrder a ep) es)[(Int.toNat (i:Int))]?).map λe=>(e.2,Int.toNat (slot:Int))) s:=by
     rw [show(Int.toNat (i:Int))=i from Int.toNat_natCast i,e1]
     exact hR
    exact g
   ·rw [hb]
    simp only [Bool.false_eq_true,if_false]
    have hdr:(!t.plain && decide (es.size > 1))=false:=by
     rcases hpl with h | h
     ·rw [h];rfl
     ·have: ¬es.size > 1:=by lia
      simp [this]
    refine wpAny_ite ?_
    split
    ·rename_i hq
     have hq':(!t.plain && decide (es.size > 1))=true:=hq
     rw [hdr] at hq';cases hq'
    ·have hled:(!t.led && !es.isEmpty)=false:=by rw [led,hb];rfl
     refine wpAny_bind ?_
     show wpAny _ _ (if(!t.led && !es.isEmpty)=true then unsupported "set:maker-not-led" else pure ()) _ _ _
     rw [hled]
     simp only [Bool.false_eq_true,if_false]
     refine wpAny_pure ?_
     rw [Int.toNat_natCast,hbel,Array.getElem?_eq_none_iff.mpr hi]
     exact wpAny_pure hR
  refine wpAny_bind (wpAny_mono (key (λr s'=>s'=s/\r=none) ⟨rfl,rfl⟩) ?_ λ_ _ z=>z.elim)
  rintro r s' ⟨rfl,rfl⟩
  dsimp only
  refine wpAny_bind (wpAny_setField ho rfl (by simp) ?_)
  exact fin _ (sb1 _).extBut
 ·dsimp only
  refine wpAny_bind (wpAny_seqItems hP rfl ?_)
  have hio:ord.length<=i:=by have:=hperm.length_eq;simp at this;lia
  have e1:(ord.map λ (k:Nat)=>(.int (k:Int) 0:Value)).toArray[Int.toNat (i:Int)]? =none:=by simp;lia
  dsimp only
  rw [e1]
  dsimp only
  refine wpAny_bind (wpAny_setField ho rfl (by simp) ?_)
  have ho1:(s.heap.update I (Obj.mapFields (·.setIfInBounds 0 (rawInt 0)))).get? I=some _:=Heap.get?_update_self _ ho rfl
  refine wpAny_bind (wpAny_setField (s:={s with heap:=s.heap.update I (Obj.mapFields (·.setIfInBounds 0 (rawInt 0))) }) ho1 rfl (by simp) ?_)
  exact fin _ ((sb1 _).trans (Heap.SameBut.update ..)).extBut
theorem wp_pyIter_set {Q:Value->Shared->Prop} (hs:SetAt s.heap a es ep t) (T:TabOK es t) (led:t.led= !byText w)
 (hQ: ∀I h' dr out,out.Perm (es.toList.map (·.2))->SItAt w h' I a es ep t out 0->(∀b o,s.heap.get? b=some o->h'.get? b=some o)->s.heap.objs.size<=I->I < h'.objs.size->Q (.ref I) {s with heap:=h',drawn:=dr}) :
 wpAny (model prog w) A (pyIter (.ref a)) Q E s:=by
 have hT:s.TypeIs (.ref a) "set" :=⟨_,hs,rfl⟩
 refine wpAny_pyIter_slot hT slot_set_iter (wpAny_call_entry slot_set_iter hT entry_set_iter ?_ (args_set_iter _))
 show wpAny _ _ (Builtin.Frozenset.sizeOf a >>= _) _ _ s
 have size_: ∀ {s₁:Shared}{Q':Nat->Shared->Prop},SetAt s₁.heap a es ep t->Q' es.size s₁->wpAny (model prog w) A.in1 (Builtin.Frozenset.sizeOf a) Q' E s₁:=λh hq=>by
  unfold Builtin.Frozenset.sizeOf setEntries
  exact wpAny_bind (wpAny_bind (wpAny_setState_of h rfl T.fits (wpAny_pure (wpAny_pure hq))))
 have epoch_: ∀ {s₁:Shared}{Q':Nat->Shared->Prop},SetAt s₁.heap a es ep t->Q' ep s₁->wpAny (model prog w) A.in1 (setEpoch a) Q' E s₁:=λh hq=>by
  unfold setEpoch
  exact wpAny_bind (wpAny_setState_of h rfl T.fits (wpAny_pure hq))
 refine wpAny_bind (size_ hs ?_)
 unfold setDrawn
 have hn:SetTable.below t.place 0=0:=below_zero T.ris
 have last: ∀ (first:Value) (hp:Heap) (dr:Drawn) (out:List Value),(∀b o,s.heap.get? b=some o->hp.get? b=some o)->s.heap.objs.size<=hp.objs.size->out.Perm (es.toList.map (·.2))->
  ((∃slot:Nat,first= .int slot 0/\((byText w=true/\out=(pickOrder (w.params.setOrder a ep) es).toList.map (·.2))\/(byText w=false/\(t.plain=true\/es.size<=1)/\out=es.toList.map (·.2)/\SetTable.below t.place slot=0)))\/
   ∃ (P:Addr) (ord:List Nat),first= .ref P/\hp.get? P=some (tupO (ord.map λ (k:Nat)=>(.int (k:Int) 0:Value)).toArray 0)/\out=ord.map (λk=>(es.getD k default).2)/\ord.Perm (List.range es.size))->
  wpAny (model prog w) A.in1 (do ret (<- newFields "set_iterator" [first,rawInt 0, .ref a,rawInt es.size,rawInt (<- setEpoch a)]))
   (λfin s'=>∃v,fin= .done (.ret v)/\∃T' r,s'.TypeIs v T'/\typeLookup (.type T') "__next__" =pure (some r)/\Q v s') E {s with heap:=hp,drawn:=dr}:=λfirst hp dr out keep hle hperm hcase=>by
  have hs':SetAt hp a es ep t:=keep _ _ hs
  refine wpAny_bind (epoch_ hs' ?_)
  unfold newFields
  refine wpAny_bind (wpAny_newObj_type (wpAny_pure ⟨_,rfl, "set_iterator",_,⟨_,Heap.get?_push_size _ rfl,rfl⟩,slot_setiter_next.lookup, ?_⟩))
  refine hQ _ _ _ out hperm ⟨Heap.get?_push_of_some _ hs',T,led,first,Heap.get?_push_size _ rfl, ?_⟩ (λb o e=>Heap.get?_push_of_some _ (keep b o e)) hle (by rw [size_push'];exact Nat.lt_succ_self _)
  rcases hcase with h | ⟨P,ord,h1,h2,h3,h4⟩
  ·exact .inl h
  ·exact .inr ⟨P,ord,h1,Heap.get?_push_of_some _ h2,h3,h4⟩
 refine wpAny_bind (wpAny_bind (wpAny_setState_of hs rfl T.fits ?_))
 dsimp only
 refine wpAny_bind (wp_byText ?_)
 cases hb:byText w with
 | true=>
  refine wpAny_pure ?_
  refine wpAny_bind (wpAny_pure ?_)
  exact last (rawInt 0) s.heap s.drawn _ (λb o e=>e) (Nat.le_refl _) ((pick_perm _ es).map _) (.inl ⟨0,rfl, .inl ⟨hb,rfl⟩⟩)
 | false =>
  refine wpAny_pure ?_
  refine wpAny_ite ?_
  split
  ·refine wpAny_bind (wp_drawOrder es.size (List.range es.size) (by simp) λord dr hp=> ?_)
   refine wpAny_bind (wpAny_newTuple ?_ ?_)
   ·refine last (.ref s.heap.objs.size) (s.heap.push _) dr _ (λb o e=>Heap.get?_push_of_some _ e) (by rw [size_push'];exact Nat.le_succ _) ?_ (.inr ⟨_,ord,rfl,Heap.get?_push_size _ rfl,rfl,hp⟩)
    have e1:es.toList.map (·.2)=(List.range es.size).map (λk=>(es.getD k default).2):=by
     apply List.ext_getElem
     ·simp
     ·intro i h1 h2
      simp at h1
      simp [Array.getD,h1]
    rw [e1]
    exact hp.map _
   ·have:=hp.length_eq
    simp at this
    have hm:=T.mask
    have hlt:=T.lt
    have h127:t.mask<=127:=by rcases hm with e | e | e <;> lia
    rw [List.length_map,this,sizeLine_eq]
    lia
  ·rename_i hq
   have hd: ¬ (!t.plain && decide (es.size > 1))=true:=λh=>hq h
   refine wpAny_bind (wpAny_pure ?_)
   refine last (rawInt 0) s.heap s.drawn _ (λb o e=>e) (Nat.le_refl _) (.refl _) (.inl ⟨0,rfl, .inr ⟨hb, ?_,rfl,hn⟩⟩)
   cases hp:t.plain with
   | true=>exact .inl rfl
   | false=>
    rw [hp] at hd
    refine .inr ?_
    have: ¬es.size > 1:=λh=>hd (by simp [h])
    lia
end
section
variable {prog:Program}{w:World}{A:Around}{E:Value->Shared->Prop}{s:Shared}
theorem extend_loop {S I:Addr}{xs:List Value}{res:Value}{base:Heap}{St:Nat->Heap->Prop}{R:Result->Shared->Prop}
 (hSI:S≠I) (hl:xs.length<=2 ^ 20)
 (hitem: ∀ (i:Nat) (hp:Heap) (x:Value) {Q:Option Value->Shared->Prop}{E:Value->Shared->Prop},St i hp->xs[i]? =some x->(∀h',St (i + 1) h'->Heap.SameBut I hp h'->Q (some x) {s with heap:=h'})->wpAny (model prog w) A.in1 (pyNext (.ref I)) Q E {s with heap:=hp})
 (hend: ∀ (hp:Heap) {Q:Option Value->Shared->Prop}{E:Value->Shared->Prop},St xs.length hp->(∀h',Heap.ExtBut I hp h'->Q none {s with heap:=h'})->wpAny (model prog w) A.in1 (pyNext (.ref I)) Q E {s with heap:=hp})
 (hframe: ∀ (i:Nat) (hp h':Heap) (ys:Array Value) (c:Nat),St i hp->Heap.SameBut S hp h'->h'.get? S=some {cls:= .type "list",dict:=none,data:= .seq ys c,slots:= #[] }->St i h')
 (hR: ∀ (h':Heap) (c:Nat),(∀b o,b≠S->b≠I->base.get? b=some o->h'.get? b=some o)->h'.get? S=some {cls:= .type "list",dict:=none,data:= .seq xs.toArray c,slots:= #[] }->R (.ok (.ret res)) {s with heap:=h'}) :
 ∀ (k i:Nat) (hp:Heap) (c:Nat),k + i=xs.length->St i hp->hp.get? S=some {cls:= .type "list",dict:=none,data:= .seq (xs.take i).toArray c,slots:= #[] }->(∀b o,b≠S->b≠I->base.get? b=some o->hp.get? b=some o)->
  codeAny (model prog w) A (.builtin "list.extend.loop" ⟨[.ref S, .ref I,res],[]⟩) R {s with heap:=hp}:=by
 intro k
 induction k with
 | zero=>
  intro i hp c hk hst hS hb
  obtain rfl:i=xs.length:=by lia
  refine codeAny_builtin PySem.F.entry_extend_loop ?_
  rw [Around.under_plainId PySem.F.plain_extend_loop _]
  show wpAny _ A.in1 (pyNext (.ref I) >>= _) _ _ _
  refine wpAny_bind (hend hp hst λh' he=> ?_)
  rw [List.take_length] at hS
  exact wpAny_pure (hR h' c (λb o h1 h2 e=>he b o h2 (hb b o h1 h2 e)) (he _ _ hSI hS))
 | succ k ih=>
  intro i hp c hk hst hS hb
  refine codeAny_builtin PySem.F.entry_extend_loop ?_
  rw [Around.under_plainId PySem.F.plain_extend_loop _]
  show wpAny _ A.in1 (pyNext (.ref I) >>= _) _ _ _
  have hi:i < xs.length:=by lia
  refine wpAny_bind (hitem i hp xs[i] hst (List.getElem?_eq_getElem hi) λh' hst' sb=> ?_)
  have hS':h'.get? S=some {cls:= .type "list",dict:=none,data:= .seq (xs.take i).toArray c,slots:= #[] }:=(sb.2 S hSI).trans hS
  show wpAny _ A.in1 (updateSeq S (·.push xs[i]) >>= _) _ _ _
  refine wpAny_bind ?_
  have et:(xs.take i).toArray.push xs[i]=(xs.take (i + 1)).toArray:=by
   apply Array.toList_inj.mp
   simp [List.take_append_getElem hi]
  obtain⟨c',hc'⟩: ∃c',(h'.update S (Obj.mapSeq (·.push xs[i]))).get? S=some (seqObj "list" ((xs.take i).toArray.push xs[i]) c'):=⟨_,get?_update_seq hS' (·.push xs[i])⟩
  rw [et] at hc'
  refine wpAny_updateSeq hS' rfl (wpAny_pure ⟨plainId_quiet PySem.F.plain_extend_loop _,ih (i + 1) _ c' (by lia) (hframe _ _ _ _ _ hst' (Heap.SameBut.update ..) hc') hc' λb o h1 h2 e=> ?_⟩) ?_ ?_
  ·rw [Heap.get?_update_ne _ _ _ _ h1,sb.2 b h2]
   exact hb b o h1 h2 e
  ·rw [List.size_toArray,List.length_take,sizeLine_eq];lia
  ·rw [Array.size_push,List.size_toArray,List.length_take,sizeLine_eq];lia
theorem wp_collect_set {a:Addr}{es:Array (Int × Value)}{ep:Nat}{t:SetTable}{Q:List Value->Shared->Prop} (hh:A.handled=none) (hs:SetAt s.heap a es ep t) (T:TabOK es t) (led:t.led= !byText w) (hsm:es.size<=63)
 (hQ: ∀h' dr out,out.Perm (es.toList.map (·.2))->(∀b o,s.heap.get? b=some o->h'.get? b=some o)->Q out {s with heap:=h',drawn:=dr}) :
 wpAny (model prog w) A (collect (.ref a)) Q E s:=by
 have ha:a < s.heap.objs.size:=Heap.lt_size hs
 unfold collect
 refine wpAny_bind (wpAny_runValue (codeAny_builtin PySem.F.entry_proto_collect ?_))
 rw [Around.under_plainId PySem.F.plain_proto_collect _]
 show wpAny _ A.in1 (newList [] >>= λl=>again (.builtin "list.__iadd__" ⟨[l, .ref a],[]⟩)) _ _ s
 refine wpAny_bind (wpAny_newObj_type ?_)
 refine wpAny_pure ⟨plainId_quiet PySem.F.plain_list_iadd _,codeAny_builtin PySem.F.entry_list_iadd ?_⟩
 rw [Around.under_plainId PySem.F.plain_list_iadd _]
 have hs₁:SetAt (s.heap.push {cls:= .type "list",data:= .seq ([]:List Value).toArray}) a es ep t:=Heap.get?_push_of_some _ hs
 have hS₁:(s.heap.push {cls:= .type "list",data:= .seq ([]:List Value).toArray}).get? s.heap.objs.size=some {cls:= .type "list",data:= .seq ([]:List Value).toArray}:=Heap.get?_push_size _ rfl
 have hSa:s.heap.objs.size≠a:=Nat.ne_of_gt ha
 have h1:Builtin.List.listSameRef (.ref s.heap.objs.size) (.ref a)=false:=by simp [Builtin.List.listSameRef,hSa]
 have hT₁:Shared.TypeIs {s with heap:=s.heap.push {cls:= .type "list",data:= .seq ([]:List Value).toArray} } (.ref a) "set" :=⟨_,hs₁,rfl⟩
 show wpAny _ A.in1 (Builtin.List.listExtendWith (.ref s.heap.objs.size) (.ref a) (.ref s.heap.objs.size)) _ _ _
 unfold Builtin.List.listExtendWith
 refine wpAny_bind (wpAny_typeOf hT₁ ?_)
 have h2:(Value.type "set" == Value.type "list")=false:=by decide
 have h3:(Value.type "set" == Value.type "tuple")=false:=by decide
 simp only [h1,h2,h3,Bool.or_false,Bool.false_eq_true,if_false]
 refine wpAny_bind (wp_pyIter_set hs₁ T led λI h2 dr out hperm hit keep hI hI2=> ?_)
 have hs₂:SetAt h2 a es ep t:=keep _ _ hs₁
 have hS₂:=keep _ _ hS₁
 have hT₂:Shared.TypeIs {s with heap:=h2,drawn:=dr} (.ref a) "set" :=⟨_,hs₂,rfl⟩
 refine wpAny_bind (wpAny_holding ?_)
 unfold Builtin.List.listLengthHint
 refine wpAny_bind (wpAny_specialOf hT₂ slot_set_len.lookup ?_)
 (generalize hid:("set.__len__" :String)=id0;(fail_if_success (clear hid id0));wp_delta;rw [show splitId id0=some ("set", "__len__") from by subst hid;decide +kernel];subst hid)
 refine wpAny_bind (wpAny_isInstance (b:=true) hT₂ (by rw [isSubtype_type];kernel_rfl) ?_)
 show wpAny _ A.in1 (typeOf (.ref a) >>= _) _ _ _
 refine wpAny_bind (wpAny_typeOf hT₂ (wpAny_pure ?_))
 show wpAny _ A.in1 (rule "list.extend.makes-room" >>= λ_=>Builtin.List.listTouch (.ref s.heap.objs.size) >>= λ_=>
  again (.builtin "list.extend.loop" ⟨[.ref s.heap.objs.size, .ref I, .ref s.heap.objs.size],[]⟩)) _ _ _
 refine wpAny_bind (wpAny_rule ?_)
 refine wpAny_bind ?_
 show wpAny _ A.in1 (updateSeq s.heap.objs.size (·.push .none) >>= λ_=>updateSeq s.heap.objs.size (·.pop)) _ _ _
 refine wpAny_bind (wpAny_updateSeq hS₂ rfl ?_)
 obtain⟨c3,hS₃⟩: ∃c',(h2.update s.heap.objs.size (Obj.mapSeq (·.push Value.none))).get? s.heap.objs.size=some (seqObj "list" ((#[]:Array Value).push .none) c'):=⟨_,get?_update_seq hS₂ (·.push Value.none)⟩
 refine wpAny_updateSeq hS₃ rfl ?_
 obtain⟨c4,hS₄⟩: ∃c',((h2.update s.heap.objs.size (Obj.mapSeq (·.push Value.none))).update s.heap.objs.size (Obj.mapSeq (·.pop))).get? s.heap.objs.size=some (seqObj "list" (((#[]:Array Value).push .none).pop) c'):=⟨_,get?_update_seq hS₃ (·.pop)⟩
 have sb4:Heap.SameBut s.heap.objs.size h2 ((h2.update s.heap.objs.size (Obj.mapSeq (·.push Value.none))).update s.heap.objs.size (Obj.mapSeq (·.pop))):=(Heap.SameBut.update ..).trans (Heap.SameBut.update ..)
 have hlen:=SItAt.len (s:={s with heap:=h2}) hit
 have hSlt:s.heap.objs.size < I:=Nat.lt_of_lt_of_le (by rw [size_push'];exact Nat.lt_succ_self _) hI
 have hSI:s.heap.objs.size≠I:=Nat.ne_of_lt hSlt
 have frame: ∀ (i:Nat) (hp h':Heap),SItAt w hp I a es ep t out i->(∃o,hp.get? s.heap.objs.size=some o/\o.cls= .type "list")->Heap.SameBut s.heap.objs.size hp h'->SItAt w h' I a es ep t out i:=by
  rintro i hp h' ⟨g1,g2,g3,first,g4,g5⟩ ⟨o,ho,hc⟩ sb
  refine⟨(sb.2 a hSa.symm).trans g1,g2,g3,first,(sb.2 I hSI.symm).trans g4, ?_⟩
  rcases g5 with h | ⟨P,ord,e1,e2,e3,e4⟩
  ·exact .inl h
  ·refine .inr ⟨P,ord,e1,(sb.2 P ?_).trans e2,e3,e4⟩
   rintro rfl
   rw [ho] at e2
   rw [Option.some.inj e2] at hc
   simp at hc
 refine wpAny_pure ⟨plainId_quiet PySem.F.plain_extend_loop _,extend_loop (s:={s with drawn:=dr}) (S:=s.heap.objs.size) (I:=I) (xs:=out) (base:=s.heap)
  (St:=λi hp=>SItAt w hp I a es ep t out i/\∃o,hp.get? s.heap.objs.size=some o/\o.cls= .type "list") hSI (by rw [hlen];lia) (λi hp x {Q E} hst hx hq=> ?_) (λhp {Q E} hst hq=> ?_) (λi hp h' ys c hst sb ho=> ?_) (λh' c keep' hS'=> ?_) out.length 0 _ c4 (by lia) ?_ ?_ λb o h1 h2 e=> ?_⟩
 ·obtain⟨h1,o,ho,hc⟩:=hst
  exact wp_setNext_item (s:={s with drawn:=dr,heap:=hp}) h1 hx λh' h2 sb=>hq h' ⟨h2,o,(sb.2 _ hSI).trans ho,hc⟩ sb
 ·obtain⟨h1,o,ho,hc⟩:=hst
  exact wp_setNext_end (s:={s with drawn:=dr,heap:=hp}) hh h1 (by simp) hq
 ·obtain⟨h1,h2⟩:=hst
  exact⟨frame i hp h' h1 h2 sb,_,ho,rfl⟩
 ·show wpAny _ A (load s.heap.objs.size >>= _) _ _ _
  refine wpAny_bind (wpAny_load hS' ?_)
  refine wpAny_pure ?_
  exact hQ h' dr out hperm λb o e=>keep' b o (Nat.ne_of_lt (Heap.lt_size e)) (Nat.ne_of_lt (Nat.lt_trans (Heap.lt_size e) hSlt)) e
 ·exact⟨frame 0 _ _ hit ⟨_,hS₂,rfl⟩ sb4,_,hS₄,rfl⟩
 ·simpa using hS₄
 ·rw [sb4.2 b h1]
  exact keep b o (Heap.get?_push_of_some _ e)
end
theorem noEx_ok {α:Type}{x:M α}{H H':Hp}{a:α} (h:noEx x H= .ok a H'):x H= .ok a H':=by
 unfold noEx at h
 cases e:x H with
 | ok b h'=>rw [e] at h;exact h
 | ex h'=>rw [e] at h;injection h
 | no=>rw [e] at h;injection h
section
variable {Θ:Cx}{n:Nat}{A:Around}{h₀:Gd}{h:Heap}{L:Addr}{m:Str->Option Value}{φ:Phi}{H:Hp}{news:Nws}{s:Shared}{E:Value->Shared->Prop}
theorem sortV_len (S:Stt Θ A.frames h₀ L m φ H news h) {vs ws:List V}{ps:List Value}{H':Hp} (rv:VRels Θ.τ φ news vs ps) (h:sortV (run n Θ.P) Θ.P vs H= .ok ws H'):ws.length=vs.length:=by
 rcases sortV_cases (n:=n) S rv with⟨_,e⟩ | e | ⟨h2,_,_,e⟩
 ·rw [e] at h;injection h with h;rw [<- h]
 ·rw [e] at h;injection h
 ·rw [e] at h
  unfold M.bind at h
  cases hr:askM Θ n vs H with
  | no=>rw [hr] at h;injection h
  | ex H₂=>exact noEx_ex hr
  | ok p H₂=>
   rw [hr] at h
   injection h with h
   rw [<- h,List.length_map,Array.length_toList]
   exact(runKas_good (good_sort (n:=vs.length) (Nat.lt_of_lt_of_le (by decide) h2)) (noEx_ok hr)).1
theorem Stt.adopt {lf:Option (List Env)} (S:Stt Θ lf h₀ L m φ H news h) {D:Addr}{out:Array Value}{c:Nat}{ws:List V} (hm:(D,W.listOf out c)∈news) (hf:offPhi φ D) (hpin: ∀q∈Θ.pin,q.1≠D) (rv:VRels Θ.τ φ news ws out.toList) (hl:ws.length<=2 ^ 20) :
 Stt Θ lf h₀ L m (φ ++ [(D,D)]) (H ++ [.list ws]) news h/\Ext φ news (φ ++ [(D,D)]) news:=by
 have X:Ext φ news (φ ++ [(D,D)]) news:=⟨ext_snoc φ _,λq hq _=>hq⟩
 refine⟨⟨S.fr,S.nw,S.nd,⟨by rw [List.length_append,List.length_append,S.rep.len];rfl,λl ob q e e'=> ?_,λl l' q q' e e' ne=> ?_⟩,S.gb,S.df.alloc λq hq=>⟨Ne.symm (hpin q hq),Ne.symm (hpin q hq)⟩⟩,X⟩
 ·rcases getElem?_snoc e with e1 | ⟨rfl,rfl⟩
  ·rcases getElem?_snoc e' with e2 | ⟨rfl,rfl⟩
   ·exact(S.rep.at_ l ob q e1 e2).mono X λq hq _=>hq
   ·rw [S.rep.len] at e1;exact absurd (List.getElem?_eq_some_iff.mp e1).1 (Nat.lt_irrefl _)
  ·rcases getElem?_snoc e' with e2 | ⟨_,rfl⟩
   ·rw [<- S.rep.len] at e2;exact absurd (List.getElem?_eq_some_iff.mp e2).1 (Nat.lt_irrefl _)
   ·exact⟨out,c,rfl,hm,VRels.mono X rv,hl⟩
 ·rcases getElem?_snoc e with e1 | ⟨rfl,rfl⟩
  ·rcases getElem?_snoc e' with e2 | ⟨rfl,rfl⟩
   ·exact S.rep.sep l l' q q' e1 e2 ne
   ·exact⟨(hf l q e1).1,(hf l q e1).1,(hf l q e1).2,(hf l q e1).2⟩
  ·rcases getElem?_snoc e' with e2 | ⟨rfl,rfl⟩
   ·exact⟨(hf l' q' e2).1.symm,(hf l' q' e2).2.symm,(hf l' q' e2).1.symm,(hf l' q' e2).2.symm⟩
   ·exact absurd rfl ne
theorem Stt.offNew (S:Stt Θ A.frames h₀ L m φ H news h) {D:Addr} (lt: ∀q∈news,q.1 < D):offPhi φ D:=λk p hp=>
 have hk:k < H.length:=S.rep.len▸(List.getElem?_eq_some_iff.mp hp).1
 have z:=(S.rep.at_ k _ p (List.getElem?_eq_getElem hk) hp).mem
 ⟨z.1.elim λu hu=>Nat.ne_of_lt (lt _ hu),z.2.elim λv hv=>Nat.ne_of_lt (lt _ hv)⟩
theorem wp_sortTail {vs:List V}{ps:List Value}{Q:Value->Shared->Prop} (st:Stat6 Θ) (hK: ∀p,SndK (Θ.pinned p) n) (r:RoomC A.in1 n Θ.P.hd)
 (S:Stt Θ A.frames h₀ L m φ H news s.heap) (rv:VRels Θ.τ φ news vs ps) (hl:vs.length<=2 ^ 20)
 (hp:Pst Θ A.frames h₀ L m (RV Θ) Q E φ news s (M.bind (sortV (run n Θ.P) Θ.P vs) (λws=>M.bind (alloc (.list ws)) λl=>pure (.ref l)) H)) :
 wpAny Θ.M A (do let l <- newList ps;let _ <- holding [l] (call (.builtin "list.sort") [l] []);ret l) (λfin s'=>∃v,fin= .done (.ret v)/\Q v s') E s:=by
 refine wpAny_bind (newList_K S.fr S.nw (λD h₁ F₁ N₁ lt=> ?_) (by rw [<- rv.length,sizeLine_eq];lia))
 have S₁:=S.new F₁ N₁ lt
 have hpin: ∀q∈Θ.pin,q.1≠D:=λq hq=>Nat.ne_of_lt (lt q (S.df.p q hq).1)
 refine wpAny_bind (wpAny_holding (wpAny_call_entry slot_list_sort ⟨_,(N₁ _ (.head _)).1,rfl⟩ entry_list_sort ?_ (args_list_sort _)))
 unfold M.bind at hp
 refine wp_lsort (A:=A.in1) (s:={s with heap:=h₁}) st hK r S₁ (S.offNew lt) hpin rv (λhno=>by rw [hno] at hp;exact hp) λgn dr g φ₂ H₂ news₂ h'' tk ws out c ek T S₂ hm hf X rw_=> ?_
 rw [ek] at hp
 have hp:Pst Θ A.frames h₀ L m (RV Θ) Q E φ news s (.ok (.ref H₂.length) (H₂ ++ [.list ws])):=hp
 have z:=S₂.adopt hm hf hpin rw_ ((sortV_len (A:=A) S rv ek).symm▸hl)
 exact⟨_,rfl,wpAny_pure ⟨_,rfl,hp g _ _ h'' tk (.ref D) T z.1 (X.trans z.2) (VRel.ref (p:=(D,D)) (by rw [<- S₂.rep.len];exact nth_append_self φ₂ _))⟩⟩
theorem VRels.permV {τ:Tabs}{bs bs':List Value} (p:bs'.Perm bs): ∀ {as:List V},VRels τ φ news as bs->∃as',VRels τ φ news as' bs'/\as'.Perm as:=λh=>All2.perm p h
theorem Stt.grow {lf:Option (List Env)} (S:Stt Θ lf h₀ L m φ H news h) {h':Heap} (k: ∀b o,h.get? b=some o->h'.get? b=some o):Stt Θ lf h₀ L m φ H news h':=
 ⟨S.fr.kept k,S.nw.grown k,S.nd,S.rep,S.gb,S.df⟩
theorem wp_sortedSet {vs:List V}{p:Value}{Q:Value->Shared->Prop} (st:Stat6 Θ) (hK: ∀p,SndK (Θ.pinned p) n) (r:Room A n Θ.P.hd) (hhd: ¬Θ.P.hd=true)
 (S:Stt Θ A.frames h₀ L m φ H news s.heap) (rv:VRel Θ.τ φ news (.set vs) p)
 (hp:Pst Θ A.frames h₀ L m (RV Θ) Q E φ news s ((if(vs.all isTupI && strictV (isortV vs) && vs.all (λv=>pge v v) && decide (vs.length<=63))=true then M.bind (alloc (.list (isortV vs))) λl=>pure (.ref l) else stuck:M V) H)) :
 wpAny Θ.M A (call (.builtin "sorted") [p]) Q E s:=Pst.ite hp λhc hp=>by
 have hh:A.handled=none:=r.hand (Bool.eq_false_iff.mpr hhd)
 have c1:=ba hc
 have c2:=ba c1.1
 have c3:=ba c2.1
 refine Calls.call_function_entry kind_sorted plain_sorted entry_sorted (args_sorted1 _) ?_
 unfold Builtin.«sorted»
 refine wpAny_bind (m:=checkCount "sorted" 1 1 _) (wpAny_pure ?_)
 refine(show VInv Θ.τ φ news (.set vs) p from rv.inv).elim λa h=>h.elim λes h=>h.elim λep h=>h.elim λt h=>h.elim λevs h=> ?_
 rw [h.1]
 have ok:=h.2.2.1
 refine wpAny_bind (wp_collect_set (A:=A.in1) hh (S.nw.get h.2.1) ok.tab ok.led ok.small λh' dr out hperm keep=> ?_)
 have S₁:=S.grow keep
 refine(VRels.permV hperm h.2.2.2).elim λus u=> ?_
 have pv:us.Perm vs:=u.2.trans ok.perm
 have lu:=pv.length_eq
 have e :sortV (run n Θ.P) Θ.P us H= .ok (isortV vs) H:=by
  refine sortV_strict c3.2 (pv.trans (isortV_perm vs).symm) ?_ (lu.symm▸dt c1.2) λv hv=> ?_
  ·exact List.all_eq_true.mpr λx hx=>List.all_eq_true.mp c3.1 x (pv.mem_iff.mp hx)
  ·have q:=List.all_eq_true.mp c2.2 v ((isortV_perm vs).mem_iff.mp hv)
   unfold pge at q
   cases z:pord false v v with
   | val b=>cases b with
    | false=>rfl
    | true=>rw [z] at q;exact Bool.noConfusion q
   | err=>rw [z] at q;exact Bool.noConfusion q
   | no=>rw [z] at q;exact Bool.noConfusion q
 refine wp_sortTail (A:=A.in1) (s:={s with heap:=h',drawn:=dr}) st hK r.in2 S₁ u.1 (lu.symm▸Nat.le_trans (dt c1.2) (by decide)) ?_
 unfold M.bind
 rw [e]
 exact λgn dr' g φ' news' h'' tk b T S' x r=>hp g φ' news' h'' tk b T S' x r
theorem wp_sortedOf {p:Value}{X:M (List V)}{Q:Value->Shared->Prop} (st:Stat6 Θ) (hK: ∀p,SndK (Θ.pinned p) n) (r:Room A n Θ.P.hd)
 (hc: ∀ {Q:List Value->Shared->Prop}{E:Value->Shared->Prop},Pst Θ A.frames h₀ L m (λ φ' news' vs ps=>VRels Θ.τ φ' news' vs ps/\vs.length<=2 ^ 20) Q E φ news s (X H)->wpAny Θ.M A.in1 (collect p) Q E s)
 (hp:Pst Θ A.frames h₀ L m (RV Θ) Q E φ news s (M.bind X (λvs=>M.bind (sortV (run n Θ.P) Θ.P vs) λws=>M.bind (alloc (.list ws)) λl=>pure (.ref l)) H)):wpAny Θ.M A (call (.builtin "sorted") [p]) Q E s:=by
 refine Calls.call_function_entry kind_sorted plain_sorted entry_sorted (args_sorted1 _) ?_
 unfold Builtin.«sorted»
 refine wpAny_bind (m:=checkCount "sorted" 1 1 _) (wpAny_pure ?_)
 exact wpAny_bind (hc (Pst.bind hp λg₁ φ₁ news₁ h₁ tk vs ps H₁ T₁ S₁ x₁ r₁ hp=>wp_sortTail (A:=A.in1) st hK r.in2 S₁ r₁.1 r₁.2 hp))
theorem wp_collect_list {l:Nat}{o:O}{vs:List V}{pa:Addr × Addr}{Q:List Value->Shared->Prop} (S:Stt Θ A.frames h₀ L m φ H news s.heap) (hl:φ[l]? =some pa) (ho:H[l]? =some o) (hv:oList o=some vs)
 (hp:Pst Θ A.frames h₀ L m (λ φ' news' vs ps=>VRels Θ.τ φ' news' vs ps/\vs.length<=2 ^ 20) Q E φ news s (.ok vs H)):wpAny Θ.M A.in1 (collect (.ref pa.1)) Q E s:=list_at S hl ho hv λits n1 d=>by
 have hL2:s.heap.IsList pa.1 its.toList.toArray:=by rw [Array.toArray_toList];exact d.at S
 refine collect_list hL2 ?_ (by rw [<- d.items.length,sizeLine_eq];have:=d.small;lia)
 have keep: ∀b o,s.heap.get? b=some o->((s.heap.push (seqObj "list" #[] 0)).update s.heap.objs.size (Obj.mapSeq (· ++ its.toList.toArray))).get? b=some o:=λb o q=>by
  have hlt:b < s.heap.objs.size:=Heap.lt_size q
  rw [Heap.get?_update_ne _ _ _ _ (Nat.ne_of_lt hlt),Heap.get?_push_ne _ _ _ (Nat.ne_of_lt hlt)]
  exact q
 exact hp _ _ _ _ s.toks _ .rfl (S.grow keep) (.refl _ _) ⟨d.items,d.small⟩
end
noncomputable abbrev NX {α:Type} (x:M α):Prop:=∀H H',x H= .ex H'->False
section
variable {α β:Type}
theorem NX.bind {x:M α}{f:α->M β} (hx:NX x) (hf: ∀a,NX (f a)):NX (M.bind x f):=λH H' h=>by
 unfold M.bind at h
 cases e:x H with
 | ok a h1=>rw [e] at h;exact hf a _ _ h
 | ex h1=>exact hx _ _ e
 | no=>rw [e] at h;injection h
theorem NX.pure {a:α}:NX (pure a:M α):=λH H' h=>by injection h
theorem NX.stuck:NX (stuck:M α):=λH H' h=>by injection h
theorem NX.ofO {o:Option α}:NX (Mini.ofO o):=by
 cases o with
 | none=>exact NX.stuck
 | some a=>exact NX.pure
theorem NX.getO {n:Nat}:NX (Mini.getO n):=λH H' h=>by
 unfold Mini.getO at h
 cases e:H[n]? with
 | none=>rw [e] at h;injection h
 | some o=>rw [e] at h;injection h
theorem NX.getLs {n:Nat}:NX (Mini.getLs n):=NX.bind NX.getO λ_=>NX.ofO
theorem NX.ite {c:Prop} [Decidable c] {a b:M α} (ha:NX a) (hb:NX b):NX (if c then a else b):=by
 by_cases h:c
 ·rw [if_pos h];exact ha
 ·rw [if_neg h];exact hb
theorem NX.om {δ:Type}{o:Option δ}{b:M β}{f:δ->M β} (hb:NX b) (hf: ∀a,NX (f a)):NX (Mini.om o b f):=by
 cases o with
 | none=>exact hb
 | some a=>exact hf a
theorem NX.noEx {x:M α}:NX (Mini.noEx x):=λH H' h=>noEx_ex h
end
theorem NX.run {n:Nat}{P:Prog}{k:Nat}{cs:List (Nat × Nat)}{args:List V}{kw:List (Str × V)}:NX (Mini.run n P k cs args kw):=by
 cases n with
 | zero=>exact NX.stuck
 | succ n=>exact NX.bind NX.ofO λ_=>NX.bind NX.ofO λ_=>NX.bind NX.ofO λ_=>NX.noEx
theorem NX.openIt {n:Nat}{P:Prog}{v:V}:NX (Mini.openIt (Mini.run n P) P v) :=
 NX.bind NX.ofO λ_=>NX.bind NX.getO λ_=>NX.om (NX.bind NX.ofO λ_=>NX.pure) λ_=>NX.bind NX.ofO λ_=>NX.bind NX.run λ_=>NX.ofO
theorem NX.iterOf {n:Nat}{P:Prog}{l:Nat}:NX (Mini.iterOf (Mini.run n P) P (.ref l)) :=
 NX.ite NX.stuck (NX.bind NX.openIt λ_=>NX.bind NX.getLs λ_=>NX.pure)
theorem NX.lenI {n:Nat}{P:Prog}{c l:Nat}:NX (Mini.lenI (Mini.run n P) P c l) :=
 NX.bind NX.ofO λ_=>NX.bind NX.run λ_=>NX.bind NX.ofO λ_=>NX.ite NX.pure NX.stuck
theorem Pst.bindP {α β γ δ:Type}{Θ Θ':Cx}{l l':Option (List Env)}{h₀ g₀:Gd}{L L':Addr}{m m':Str->Option Value}{R:Phi->Nws->α->β->Prop}{R':Phi->Nws->γ->δ->Prop}{Q:δ->Shared->Prop}{E E':Value->Shared->Prop}{φ φ':Phi}{news news':Nws}{s s':Shared}{mm:M α}{f:α->M γ}{H:Hp}{Q₁:β->Shared->Prop}
 (nx:NX mm) (hp:Pst Θ l h₀ L m R' Q E φ news s (M.bind mm f H))
 (k: ∀ {gn:Array GenState}{dr:Drawn} g φ₁ news₁ h₁ tk a b H₁,TurnG s'.gens gn g₀ g->Stt Θ' l' g L' m' φ₁ H₁ news₁ h₁->Ext φ' news' φ₁ news₁->R φ₁ news₁ a b->Pst Θ l h₀ L m R' Q E φ news s (f a H₁)->Q₁ b ⟨h₁,gn,dr,tk,s'.os⟩) :
 Pst Θ' l' g₀ L' m' R Q₁ E' φ' news' s' (mm H):=by
 unfold M.bind at hp
 cases hr:mm H with
 | ok a H₁=>rw [hr] at hp;exact λ_ _ g φ₁ news₁ h₁ tk b T S x r=>k g φ₁ news₁ h₁ tk a b H₁ T S x r hp
 | ex H₁=>exact(nx _ _ hr).elim
 | no=>rw [hr] at hp;exact hp.elim
section
variable {Θ:Cx}{n:Nat}{A:Around}{h₀:Gd}{h:Heap}{L:Addr}{m:Str->Option Value}{φ:Phi}{H:Hp}{news:Nws}{s:Shared}{E:Value->Shared->Prop}
theorem Stt.drop2 {lf:Option (List Env)}{p:List (Addr × Obj)} (S:Stt (Θ.pinned p) lf h₀ L m φ H news h) {a b:Addr}{oa ob:Obj}{h':Heap} (ha:(a,oa)∈news) (hb:(b,ob)∈news) (fa:frz0 oa=false) (fb:frz0 ob=false) (oa':offPhi φ a) (ob':offPhi φ b)
 (hs: ∀q∈Θ.pin,q∈p) (pa: ∀q∈Θ.pin,q.1≠a) (pb: ∀q∈Θ.pin,q.1≠b) (k: ∀c o,c≠a->c≠b->h.get? c=some o->h'.get? c=some o) :
 Stt Θ lf h₀ L m φ H (news.filter λq=>decide (q.1≠a) && decide (q.1≠b)) h'/\Ext0 φ news φ (news.filter λq=>decide (q.1≠a) && decide (q.1≠b)):=by
 have za:=S.nw _ ha
 have zb:=S.nw _ hb
 have mem: ∀q∈news,q.1≠a->q.1≠b->q∈news.filter λq=>decide (q.1≠a) && decide (q.1≠b):=λq hq h1 h2=>List.mem_filter.mpr ⟨hq,Bool.and_eq_true_iff.mpr ⟨decide_eq_true h1,decide_eq_true h2⟩⟩
 have no: ∀ {c:Addr}{oc:Obj},(c,oc)∈news->frz0 oc=false->∀q∈news,frz0 q.2=true->q.1≠c:=λhc fc q hq hf e=>
  Bool.noConfusion (fc.symm.trans (S.uniq hc (show(_,q.2)∈news from e▸hq)▸hf))
 have X:Ext0 φ news φ (news.filter λq=>decide (q.1≠a) && decide (q.1≠b)):=⟨λ_ _ e=>e,λq hq hf=>mem q hq (no ha fa q hq hf) (no hb fb q hq hf)⟩
 refine⟨⟨⟨S.fr.ns.at' λo' e'=>k L o' (Ne.symm za.2.1) (Ne.symm zb.2.1) e',λc o e'=>k c o (λq=>nos (za.2.2.symm.trans (q▸e'))) (λq=>nos (zb.2.2.symm.trans (q▸e'))) (S.fr.keep c o e'),S.fr.above⟩,λq hq=> ?_,S.nd.sublist (List.filter_sublist.map _),⟨S.rep.len,λl o pp h1 h2=> ?_,S.rep.sep⟩,S.gb.unpin,⟨λq hq=>⟨X.frz q (S.df.d q hq).1 (S.df.d q hq).2,(S.df.d q hq).2⟩,λq hq=>⟨mem q (S.df.p q (hs q hq)).1 (pa q hq) (pb q hq),(S.df.p q (hs q hq)).2⟩⟩⟩,X⟩
 ·have hq:=List.mem_filter.mp hq
  have h2:=ba hq.2
  have y:=S.nw q hq.1
  exact⟨k _ _ (dt h2.1) (dt h2.2) y.1,y.2⟩
 ·exact(S.rep.at_ l o pp h1 h2).mono0 X λq hq hk=>mem q hq (λe1=>hk.elim (λhk=>(oa' l pp h2).1 (hk.symm.trans e1)) λhk=>(oa' l pp h2).2 (hk.symm.trans e1)) λe1=>hk.elim (λhk=>(ob' l pp h2).1 (hk.symm.trans e1)) λhk=>(ob' l pp h2).2 (hk.symm.trans e1)
noncomputable abbrev RLen:Phi->Nws->Int->Value->Prop:=λ_ _ i p=>∃t,p= .int i t/\0<=i/\i < 2 ^ 20
theorem wp_lenI {l:Nat}{o:O}{q:Nat × List (Nat × V)}{pa:Addr × Addr}{Q:Value->Shared->Prop} (st:Stat Θ) (hC:SndC Θ n) (r:RoomC A.in1 n Θ.P.hd) (S:Stt Θ A.frames h₀ L m φ H news s.heap) (hl:φ[l]? =some pa) (ho:H[l]? =some o) (hi:oInst o=some q)
 (hp:Pst Θ A.frames h₀ L m RLen Q E φ news s (lenI (run n Θ.P) Θ.P q.1 l H)):wpAny Θ.M A (call (.builtin "len") [.ref pa.1]) Q E s:=
 Pst.ofO hp λf hf hp=>inst_at S hl ho hi λC es kk d=>(st.meth q.1 nLen f C "__len__" hf (st.spm q.1 nLen f hf (by decide)) d.ca (st.sp (nLen, "__len__") (by decide))).elim λa e=>by
  have hp:Pst Θ A.frames h₀ L m RLen Q E φ news s (M.bind (run n Θ.P f [] [.ref l] []) (λr=>M.bind (asInt r) λn=>if 0<=n/\n < 2 ^ 20 then pure n else stuck) H):=hp
  refine len_K S.fr S.top.k (d.at S) e.2.1 e.2.2.1 (hC r S e.1 (.cons (.ref hl) .nil) .nil (Pst.bind hp λ {gn₁ dr₁} g₁ φ₁ news₁ h₁ tk v1 p1 H₁ T₁ S₁ x₁ r₁ hp=>Pst.ofO hp λi hi hp=>Pst.ite hp λhz hp=> ?_))
  refine r₁.inv (λr₁=> ?_) λl e=>nos (e▸hi:vInt (.it l)=some i)
  exact r₁.intI (C:=λp=>W.LenBack Q p ⟨h₁,gn₁,dr₁,tk,s.os⟩) hi λt=>⟨⟨hz.1,by lia⟩,hp _ _ _ _ _ _ .rfl S₁ (.refl _ _) ⟨_,rfl,hz⟩⟩
theorem loop_list {D I pl:Addr}{its:Array Value}{h₂ h₃:Heap}{c:Nat}{R:Result->Shared->Prop} (hh:A.handled=none) (hDI:D≠I) (hpI:pl≠I) (hpD:pl≠D) (hz:its.toList.length<=2 ^ 20) (m1:h₂.IsListIter I pl 0) (hL:h₂.IsList pl its)
 (sb:Heap.SameBut D h₂ h₃) (hD₃:h₃.get? D=some (seqObj "list" #[] c))
 (hR: ∀ (h':Heap) (c':Nat),(∀b o,b≠D->b≠I->h₂.get? b=some o->h'.get? b=some o)->h'.get? D=some (seqObj "list" its.toList.toArray c')->R (.ok (.ret (.ref D))) {s with heap:=h'}) :
 codeAny Θ.M A (.builtin "list.extend.loop" ⟨[.ref D, .ref I, .ref D],[]⟩) R {s with heap:=h₃}:=by
 have keep3: ∀b o,b≠D->h₂.get? b=some o->h₃.get? b=some o:=λb o h e=>(sb.2 b h).trans e
 refine extend_loop (s:=s) (S:=D) (I:=I) (xs:=its.toList) (base:=h₂) (St:=λi hp=>hp.IsListIter I pl i/\hp.IsList pl its) hDI hz (λi hp x {Q E} hst hx hq=> ?_) (λhp {Q E} hst hq=> ?_) (λi hp h' ys c hst sb ho=> ?_) (λh' c keep' hS'=>hR h' c keep' hS') its.toList.length 0 h₃ c rfl ⟨?_, ?_⟩ (by rw [List.take_zero];exact hD₃) λb o h1 h2 e=>keep3 b o h1 e
 ·exact hst.2.elim λo2 g=>wpAny_pyNext_list_item (s:={s with heap:=hp}) hst.1 hst.2 (by rw [<- Array.getElem?_toList];exact hx) λh' q1 q2=>hq h' ⟨q1,o2,(q2.2 _ hpI).trans g.1,g.2⟩ q2
 ·exact wpAny_pyNext_list_end (s:={s with heap:=hp}) hh hst.1 hst.2 (by rw [Array.length_toList];exact Array.getElem?_eq_none_iff.mpr (Nat.le_refl _)) hq
 ·exact hst.1.elim λo1 g1=>hst.2.elim λo2 g2=>⟨⟨o1,(sb.2 _ hDI.symm).trans g1.1,g1.2⟩,o2,(sb.2 _ hpD).trans g2.1,g2.2⟩
 ·exact m1.elim λo1 g=>⟨o1,keep3 _ _ hDI.symm g.1,g.2⟩
 ·exact hL.elim λo2 g=>⟨o2,keep3 _ _ hpD g.1,g.2⟩
theorem wp_collect_inst {l:Nat}{o:O}{q:Nat × List (Nat × V)}{pa:Addr × Addr}{Q:List Value->Shared->Prop} (st:Stat6 Θ) (hK: ∀p,SndK (Θ.pinned p) n) (r:RoomC A.in1.in1 n Θ.P.hd) (rC1:RoomC A.in1 n Θ.P.hd) (hh:A.handled=none)
 (S:Stt Θ A.frames h₀ L m φ H news s.heap) (hl:φ[l]? =some pa) (ho:H[l]? =some o) (hi:oInst o=some q)
 (hp:Pst Θ A.frames h₀ L m (λ φ' news' vs ps=>VRels Θ.τ φ' news' vs ps/\vs.length<=2 ^ 20) Q E φ news s (M.bind (iterOf (run n Θ.P) Θ.P (.ref l)) (λkv=>M.bind (ofO kv.1) λk=>M.bind (getO l) λo=>M.bind (ofO (oInst o)) λq=>M.bind (lenI (run n Θ.P) Θ.P q.1 l) λ_=>M.bind (getLs k) λws=>if ws.length=kv.2.length then pure ws else stuck) H)) :
 wpAny Θ.M A (collect (.ref pa.1)) Q E s:=inst_at S hl ho hi λC es kx d0=>by
 have hpa:pa.1 < s.heap.objs.size:=Heap.lt_size (d0.at S).at_
 unfold collect
 refine wpAny_bind (wpAny_runValue (codeAny_builtin PySem.F.entry_proto_collect ?_))
 rw [Around.under_plainId PySem.F.plain_proto_collect _]
 show wpAny _ A.in1 (newList [] >>= λl=>again (.builtin "list.__iadd__" ⟨[l, .ref pa.1],[]⟩)) _ _ s
 refine wpAny_bind (wpAny_newObj_type ?_)
 refine wpAny_pure ⟨plainId_quiet PySem.F.plain_list_iadd _,codeAny_builtin PySem.F.entry_list_iadd ?_⟩
 rw [Around.under_plainId PySem.F.plain_list_iadd _]
 have S₁:Stt Θ A.frames h₀ L m φ H ((s.heap.objs.size,seqObj "list" #[] 0) :: news) (s.heap.push (seqObj "list" #[] 0)):=S.push _ rfl
 have ltD: ∀q∈news,q.1 < s.heap.objs.size:=λq hq=>Heap.lt_size (S.nw q hq).1
 have hnD:s.heap.objs.size≠pa.1:=Nat.ne_of_gt hpa
 generalize hSd:s.heap.objs.size=D at *
 have hD:offPhi φ D:=S.offNew ltD
 have hpinD: ∀q∈Θ.pin,q.1≠D:=λq hq=>Nat.ne_of_lt (ltD q (S.df.p q hq).1)
 have S₁p:=S₁.pin1 (.head _) hD
 have h1:Builtin.List.listSameRef (.ref D) (.ref pa.1)=false:=beq_false_of_ne hnD
 show wpAny _ A.in1 (Builtin.List.listExtendWith (.ref D) (.ref pa.1) (.ref D)) _ _ _
 unfold Builtin.List.listExtendWith
 refine inst_at S₁ hl ho hi λC' es' kx' d1=>wpAny_bind ((d1.at S₁).type.here ?_)
 have h2:(Value.ref C' == Value.type "list")=false:=rfl
 have h3:(Value.ref C' == Value.type "tuple")=false:=rfl
 refine wp_ifn (by rw [h1,h2,h3];exact nofun) ?_
 refine wpAny_bind (wp_iter (Θ:=Θ.pinned ((D,seqObj "list" #[] 0) :: Θ.pin)) (A:=A.in1) (s:=⟨s.heap.push (seqObj "list" #[] 0),s.gens,s.drawn,s.toks,s.os⟩) (st.pinned _).toStat5 (SndK.toC (hK _)) rC1 S₁p (.ref hl) (Pst.bindP NX.iterOf hp λ {gn₁ dr₁} g₁ φ₁ news₁ h₁ tk kv it H₁ T₁ S₂ x₁ r₁ hp=>Pst.ofO hp λkk hkk hp=>Pst.getO hp λo₁ ho₁ hp=>Pst.ofO hp λq₁ hq₁ hp=>r₁.elim λI r₁=>r₁.2.1.has.elim λoi hoi=> ?_))
 rw [r₁.1]
 have hitr:=hoi.2.itr
 have S₂p:Stt (Θ.pinned ((I,oi) :: (D,seqObj "list" #[] 0) :: Θ.pin)) A.frames g₁ L m φ₁ H₁ news₁ h₁:=S₂.pin1 hoi.1 (S₂.off hoi.1 (frz_itr hitr))
 refine wpAny_bind (wpAny_holding ?_)
 unfold Builtin.List.listLengthHint
 have hl₁:=x₁.pre _ _ hl
 have hf: ∃f,Θ.P.getM q₁.1 nLen=some f:=by
  cases z:Θ.P.getM q₁.1 nLen with
  | some f=>exact⟨f,rfl⟩
  | none=>unfold M.bind lenI at hp;rw [z] at hp;exact hp.elim
 refine inst_at S₂ hl₁ ho₁ hq₁ λC₂ es₂ kx₂ d₂=>hf.elim λf hf=>(st.meth q₁.1 nLen f C₂ "__len__" hf (st.spm q₁.1 nLen f hf (by decide)) d₂.ca (st.sp (nLen, "__len__") (by decide))).elim λa e=> ?_
 refine wpAny_bind (wpAny_bind ((d₂.at S₂).type.here ((looks_findIn (S₂.top.k.keeps S₂.fr.keep) e.2.1).here ?_)))
 refine wp_ifn (λhq=>Bool.noConfusion (show false=true from hq)) (wp_if rfl ?_)
 refine wpAny_bind (wpAny_rule (wpAny_bind (wpAny_attempt ?_)))
 refine wp_lenI (Θ:=Θ.pinned ((I,oi) :: (D,seqObj "list" #[] 0) :: Θ.pin)) (A:=A.in1) (s:=⟨h₁,gn₁,dr₁,tk,s.os⟩) (st.pinned _).toStat (SndK.toC (hK _)) r S₂p hl₁ ho₁ hq₁ (Pst.bindP NX.lenI hp λ {gn₂ dr₂} g₂ φ₂ news₂ h₂ tk₂ i b H₂ T₂ S₃ x₂ rb hp=>Pst.getLs hp λo₂ ws ho₂ hws hp=>Pst.ite hp λ_ hp=>rb.elim λtt rb=> ?_)
 rw [rb.1]
 have mI:=S₃.df.p (I,oi) (.head _)
 have mD:=S₃.df.p (D,seqObj "list" #[] 0) (.tail _ (.head _))
 refine(hkk▸hoi.2:ItO (Θ.pinned ((D,seqObj "list" #[] 0) :: Θ.pin)) φ₁ news₁ oi (some kk) kv.2 0).elim λp il=> ?_
 have hp₂:=x₂.pre _ _ il.at_
 refine list_at S₃ hp₂ ho₂ hws λits n1 d3=> ?_
 have hDI:D≠I:=λe=>by
  have z:oi=seqObj "list" #[] 0:=S₃.uniq mI.1 (show(I,seqObj "list" #[] 0)∈news₂ from e▸mD.1)
  exact absurd (z▸il.cls:(seqObj "list" #[] 0).cls= .type "list_iterator") (by decide)
 have hoD:=(S₃.nw _ mD.1).1
 have mIt:h₂.IsListIter I p.1 0:=⟨oi,(S₃.nw _ mI.1).1,il.cls,il.data⟩
 have fin: ∀ (h':Heap) (c':Nat),(∀b o,b≠D->b≠I->h₂.get? b=some o->h'.get? b=some o)->Q its.toList ⟨h',gn₂,dr₂,tk₂,s.os⟩:=λh' c' keep'=>by
  have S₄:=S₃.drop2 mD.1 mI.1 rfl (itr_frz0 hitr) mD.2 mI.2 (λq hq=> .tail _ (.tail _ hq)) hpinD (λq hq=>r₁.2.1.off q (.tail _ hq)) (h':=h') keep'
  refine hp g₂ φ₂ _ h' tk₂ its.toList (T₁.trans T₂) S₄.1 ⟨λk q e=>x₂.pre _ _ (x₁.pre _ _ e),λq hq hk=> ?_⟩ ⟨VRels.mono0 S₄.2 d3.items,d3.small⟩
  exact List.mem_filter.mpr ⟨x₂.frz q (x₁.frz q (.tail _ hq) hk) hk,Bool.and_eq_true_iff.mpr ⟨decide_eq_true (Nat.ne_of_lt (ltD q hq)),decide_eq_true (r₁.2.2 q (.tail _ hq) hk)⟩⟩
 refine wpAny_bind (wpAny_pure (wp_ifn (λhq=> ?_) (wpAny_pure ?_)))
 ·have hq':i.toNat > sizeLine:=of_decide_eq_true hq
  rw [sizeLine_eq] at hq'
  have:=rb.2
  lia
 have loop: ∀ (h₃:Heap) (c:Nat),Heap.SameBut D h₂ h₃->h₃.get? D=some (seqObj "list" #[] c)->codeAny Θ.M A (.builtin "list.extend.loop" ⟨[.ref D, .ref I, .ref D],[]⟩) (λr s'=>match r with
  | .ok (.ret v)=>wpAny Θ.M A (match v with
   | .ref a=>do
    match (<- load a).data with
    | .seq xs _=>pure xs.toList
    | _=>unsupported "internal:collect"
   | _=>unsupported "internal:collect") Q E s'
  | .ok _=>False
  | .error e=>E e s') ⟨h₃,gn₂,dr₂,tk₂,s.os⟩:=λh₃ c sb hc=>
  loop_list (Θ:=Θ) (A:=A) (s:=⟨h₂,gn₂,dr₂,tk₂,s.os⟩) hh hDI (mI.2 kk p hp₂).1 (mD.2 kk p hp₂).1 (d3.items.length▸d3.small) mIt (d3.at S₃) sb hc λh' c' keep' hS'=>wpAny_bind (wpAny_load hS' (wpAny_pure (fin h' c' keep')))
 refine wpAny_ite ?_
 split
 ·refine wpAny_bind (wpAny_rule (wpAny_bind ?_))
  show wpAny _ A.in1 (updateSeq D (·.push .none) >>= λ_=>updateSeq D (·.pop)) _ _ _
  refine wpAny_bind (wpAny_updateSeq hoD rfl ?_)
  refine(show∃c',(h₂.update D (Obj.mapSeq (·.push Value.none))).get? D=some (seqObj "list" ((#[]:Array Value).push .none) c') from⟨_,get?_update_seq hoD (·.push Value.none)⟩).elim λc3 hS₃=> ?_
  refine wpAny_updateSeq hS₃ rfl ?_
  refine(show∃c',((h₂.update D (Obj.mapSeq (·.push Value.none))).update D (Obj.mapSeq (·.pop))).get? D=some (seqObj "list" (((#[]:Array Value).push .none).pop) c') from⟨_,get?_update_seq hS₃ (·.pop)⟩).elim λc4 hS₄=> ?_
  exact wpAny_pure ⟨plainId_quiet PySem.F.plain_extend_loop _,loop _ c4 ((Heap.SameBut.update ..).trans (Heap.SameBut.update ..)) hS₄⟩
 ·exact wpAny_pure ⟨plainId_quiet PySem.F.plain_extend_loop _,loop _ 0 (Heap.SameBut.refl ..) hoD⟩
end
section
variable {Θ:Cx}{n:Nat}{A:Around}{h₀:Gd}{h:Heap}{L:Addr}{m:Str->Option Value}{φ:Phi}{H:Hp}{news:Nws}{s:Shared}{E:Value->Shared->Prop}
theorem Room.in3 {hd:Bool} (r:Room A n hd):RoomC A.in1.in1.in1 n hd:=
 r.down (i:=0) (j:=3) (A.in1.in1.in1_depth.trans (A.in1.in1_depth.trans A.in1_depth)) (A.in1.in1.in1_units.trans (congrArg (λx:Nat=>x + 1) (A.in1.in1_units.trans (congrArg (λx:Nat=>x + 1) A.in1_units)))) (rD (by decide)) (rD (by decide)) rfl
theorem wp_sorted {v:V}{p:Value}{Q:Value->Shared->Prop} (st:Stat6 Θ) (hK: ∀p,SndK (Θ.pinned p) n) (r:Room A n Θ.P.hd)
 (S:Stt Θ A.frames h₀ L m φ H news s.heap) (rv:VRel Θ.τ φ news v p)
 (hp:Pst Θ A.frames h₀ L m (RV Θ) Q E φ news s (bSorted (run n Θ.P) Θ.P v H)):wpAny Θ.M A (call (.builtin "sorted") [p]) Q E s:=by
 refine Pst.ite' hp λhhd hp=>Pst.om hp (λ_ hp=> ?_) λvs hv hp=> ?_
 ·have hp:Pst Θ A.frames h₀ L m (RV Θ) Q E φ news s (M.bind (collectV (run n Θ.P) Θ.P v) (λvs=>M.bind (sortV (run n Θ.P) Θ.P vs) λws=>M.bind (alloc (.list ws)) λl=>pure (.ref l)) H):=hp
  refine wp_sortedOf st hK r (X:=collectV (run n Θ.P) Θ.P v) (λ {Q E} hc=> ?_) hp
  refine Pst.ofO hc λl hl hc=>rv.refI (C:=λp=>wpAny Θ.M A.in1 (collect p) Q E s) hl λpa hpa=>Pst.getO hc λo ho hc=>Pst.om hc (λhi hc=> ?_) λq hi hc=> ?_
  ·exact Pst.ofO0 hc λvs hvs hc=>wp_collect_list S hpa ho hvs hc
  ·obtain rfl:=vRef_eq hl
   exact wp_collect_inst (A:=A.in1) st hK r.in3 r.in2 (r.hand (Bool.eq_false_iff.mpr hhd)) S hpa ho hi hc
 ·obtain rfl:=vSet_eq hv
  exact wp_sortedSet st hK r hhd S rv hp
theorem sndb (st:Stat6 Θ) (hK: ∀p,SndK (Θ.pinned p) n):SndB Θ n where
 sorted:=λr S rv hp=>wp_sorted st hK r S rv hp
 set:=λr S rv hp=>wp_setOf r S rv hp
theorem snd_fns {Θ:Cx} (st:Stat6 Θ) (te:nsIn Θ.K mainGlobals "TypeError" =some none) (hf:FnTr (Θ.pinned [])) (n:Nat):Hyp Θ n/\Hyp Θ.hdl n:=
 snd_all_pins st te hf (λ_ hK p=>sndb (st.pinned p) λp'=>hK p') n Θ.pin
end
noncomputable abbrev f1:Fn:={params:= ["self", "members"],pix:= [0,1],dflt:= [(.tup [])],nsl:=2,own:= [],body:= [.assign (.attr (.loc 0) 82) (.lst []), .expr (.meth (.loc 0) 95 [(.loc 1)] [] [])] }
noncomputable abbrev f2:Fn:={params:= ["self"],pix:= [0],dflt:= [],nsl:=2,own:= [],body:= [.retIter (.attr (.loc 0) 82)] }
noncomputable abbrev f3:Fn:={params:= ["self"],pix:= [0],dflt:= [],nsl:=2,own:= [],body:= [.ret (.call (.glob (.bi .len)) [(.attr (.loc 0) 82)] [] [])] }
noncomputable abbrev f4:Fn:={params:= ["self"],pix:= [0],dflt:= [],nsl:=2,own:= [],body:= [.ret (.cmp .Gt (.call (.glob (.bi .len)) [(.attr (.loc 0) 82)] [] []) (.int 0))] }
noncomputable abbrev f5:Fn:={params:= ["self", "member"],pix:= [0,1],dflt:= [],nsl:=3,own:= [],body:= [.for_ (.n 2) (.attr (.loc 0) 82) [.ite (.cmp .Eq (.loc 2) (.loc 1)) [.ret (.bool true)] []], .ret (.bool false)] }
noncomputable abbrev f7:Fn:={params:= ["self", "member"],pix:= [0,1],dflt:= [],nsl:=2,own:= [],body:= [.ite (.cmp .NotIn (.loc 1) (.loc 0)) [.assign (.attr (.loc 0) 82) (.bin .Add (.attr (.loc 0) 82) (.lst [(.loc 1)]))] []] }
noncomputable abbrev f8:Fn:={params:= ["self", "members"],pix:= [0,1],dflt:= [],nsl:=3,own:= [],body:= [.for_ (.n 2) (.loc 1) [.expr (.meth (.loc 0) 14 [(.loc 2)] [] [])]] }
noncomputable abbrev f9:Fn:={params:= ["self", "member"],pix:= [0,1],dflt:= [],nsl:=2,own:= [1],body:= [.assign (.attr (.loc 0) 82) (.comp 3 [(2,1)] (.loc 1) (.n 1) (.attr (.loc 0) 82) [(.not (.cmp .Eq (.loc 1) (.cel 2)))])] }
noncomputable abbrev f10:Fn:={params:= ["self", "member"],pix:= [0,1],dflt:= [],nsl:=3,own:= [],body:= [.ite (.cmp .NotIn (.loc 1) (.loc 0)) [.bad] [], .expr (.meth (.loc 0) 37 [(.loc 1)] [] [])] }
noncomputable abbrev f14:Fn:={params:= ["data"],pix:= [0],dflt:= [],nsl:=5,own:= [],body:= [.ite (.cmp .Is (.loc 0) .none) [.ret (.str "NoneType")] [], .ite (.truth (.call (.glob (.bi .isinstance)) [(.loc 0),(.glob (.bi .bool))] [] [])) [.ret (.str "bool")] [], .ite (.truth (.call (.glob (.bi .isinstance)) [(.loc 0),(.glob (.bi .int))] [] [])) [.ret (.str "int")] [], .ite (.truth (.call (.glob (.bi .isinstance)) [(.loc 0),(.glob (.bi .tstr))] [] [])) [.ret (.str "str")] [], .ret (.str "tuple")] }
noncomputable abbrev f15:Fn:={params:= ["self", "begin", "end", "data"],pix:= [0,1,2,3],dflt:= [.none],nsl:=4,own:= [],body:= [.assign (.attr (.loc 0) 21) (.loc 1), .assign (.attr (.loc 0) 41) (.loc 2), .assign (.attr (.loc 0) 33) (.loc 3)] }
noncomputable abbrev f18:Fn:={params:= ["self", "p"],pix:= [0,1],dflt:= [],nsl:=2,own:= [],body:= [.ret (.cmp2 (.attr (.loc 0) 21) .LtE (.loc 1) .Lt (.attr (.loc 0) 41))] }
noncomputable abbrev f22:Fn:={params:= ["self"],pix:= [0],dflt:= [],nsl:=1,own:= [],body:= [.ret (.cmp .GtE (.attr (.loc 0) 21) (.attr (.loc 0) 41))] }
noncomputable abbrev f24:Fn:={params:= ["self", "other"],pix:= [0,1],dflt:= [],nsl:=2,own:= [],body:= [.ret (.and (.cmp .Eq (.attr (.loc 0) 21) (.attr (.loc 1) 21)) (.and (.cmp .Eq (.attr (.loc 0) 41) (.attr (.loc 1) 41)) (.cmp .Eq (.attr (.loc 0) 33) (.attr (.loc 1) 33))))] }
noncomputable abbrev f25:Fn:={params:= ["self", "other"],pix:= [0,1],dflt:= [],nsl:=8,own:= [],body:= [.assign (.n 2) (.tup [(.attr (.loc 0) 21),(.attr (.loc 0) 41)]), .ite (.truth (.call (.glob (.bi .isinstance)) [(.loc 1),(.glob (.cls 1))] [] [])) [.assign (.n 3) (.tup [(.attr (.loc 1) 21),(.attr (.loc 1) 41)])] [.assign (.n 3) (.tup [(.loc 1)])], .ite (.cmp .NotEq (.loc 2) (.loc 3)) [.ret (.ite (.cmp .Lt (.loc 2) (.loc 3)) (.neg (.int 1)) (.int 1))] [], .tryTE (.cmp .Eq (.attr (.loc 0) 33) (.attr (.loc 1) 33)) (.int 0) (.ite (.cmp .Lt (.attr (.loc 0) 33) (.attr (.loc 1) 33)) (.neg (.int 1)) (.int 1)) [.assign (.n 2) (.call (.glob (.fn 14)) [(.attr (.loc 0) 33)] [] []), .assign (.n 3) (.call (.glob (.fn 14)) [(.attr (.loc 1) 33)] [] []), .ite (.cmp .Eq (.loc 2) (.loc 3)) [.ret (.int 0)] [], .ret (.ite (.cmp .Lt (.loc 2) (.loc 3)) (.neg (.int 1)) (.int 1))]] }
noncomputable abbrev f26:Fn:={params:= ["self", "other"],pix:= [0,1],dflt:= [],nsl:=2,own:= [],body:= [.ret (.cmp .Lt (.meth (.loc 0) 26 [(.loc 1)] [] []) (.int 0))] }
noncomputable abbrev f27:Fn:={params:= ["self", "other"],pix:= [0,1],dflt:= [],nsl:=2,own:= [],body:= [.ret (.cmp .Gt (.meth (.loc 0) 26 [(.loc 1)] [] []) (.int 0))] }
noncomputable abbrev f34:Fn:={params:= ["self", "x_center", "s_center", "left_node", "right_node"],pix:= [0,1,2,3,4],dflt:= [.none,(.tup []), .none, .none],nsl:=6,own:= [],body:= [.assign (.attr (.loc 0) 97) (.loc 1), .assign (.attr (.loc 0) 83) (.call (.glob (.cls 0)) [(.loc 2)] [] []), .assign (.attr (.loc 0) 58) (.loc 3), .assign (.attr (.loc 0) 80) (.loc 4), .assign (.attr (.loc 0) 34) (.int 0), .assign (.attr (.loc 0) 20) (.int 0), .expr (.meth (.loc 0) 81 [] [] [])] }
noncomputable abbrev f35:Fn:={params:= ["cls", "interval"],pix:= [0,1],dflt:= [],nsl:=4,own:= [],body:= [.assign (.n 2) (.attr (.loc 1) 21), .ret (.call (.glob (.cls 2)) [(.loc 2),(.lst [(.loc 1)])] [] [])] }
noncomputable abbrev f36:Fn:={params:= ["cls", "intervals"],pix:= [0,1],dflt:= [],nsl:=4,own:= [],body:= [.ite (.not (.truth (.loc 1))) [.ret .none] [], .ret (.meth (.glob (.cls 2)) 45 [(.call (.glob (.bi .sorted)) [(.loc 1)] [] [])] [] [])] }
noncomputable abbrev f37:Fn:={params:= ["cls", "intervals"],pix:= [0,1],dflt:= [],nsl:=4,own:= [],body:= [.ite (.not (.truth (.loc 1))) [.ret .none] [], .assign (.n 2) (.call (.glob (.cls 2)) [] [] []), .assign (.n 2) (.meth (.loc 2) 50 [(.loc 1)] [] []), .ret (.loc 2)] }
noncomputable abbrev f38:Fn:={params:= ["self", "intervals"],pix:= [0,1],dflt:= [],nsl:=9,own:= [],body:= [.assign (.n 2) (.sub (.loc 1) (.bin .FloorDiv (.call (.glob (.bi .len)) [(.loc 1)] [] []) (.int 2))), .assign (.attr (.loc 0) 97) (.attr (.loc 2) 21), .assign (.attr (.loc 0) 83) (.call (.glob (.cls 0)) [] [] []), .assign (.n 3) (.lst []), .assign (.n 4) (.lst []), .for_ (.n 5) (.loc 1) [.ite (.cmp .LtE (.attr (.loc 5) 41) (.attr (.loc 0) 97)) [.expr (.meth (.loc 3) 10 [(.loc 5)] [] [])] [.ite (.cmp .Gt (.attr (.loc 5) 21) (.attr (.loc 0) 97)) [.expr (.meth (.loc 4) 10 [(.loc 5)] [] [])] [.expr (.meth (.attr (.loc 0) 83) 14 [(.loc 5)] [] [])]]], .assign (.attr (.loc 0) 58) (.meth (.glob (.cls 2)) 45 [(.loc 3)] [] []), .assign (.attr (.loc 0) 80) (.meth (.glob (.cls 2)) 45 [(.loc 4)] [] []), .ret (.meth (.loc 0) 81 [] [] [])] }
noncomputable abbrev f39:Fn:={params:= ["self", "interval"],pix:= [0,1],dflt:= [],nsl:=2,own:= [],body:= [.ret (.meth (.loc 1) 29 [(.attr (.loc 0) 97)] [] [])] }
noncomputable abbrev f40:Fn:={params:= ["self", "interval"],pix:= [0,1],dflt:= [],nsl:=2,own:= [],body:= [.ret (.cmp .Gt (.attr (.loc 1) 21) (.attr (.loc 0) 97))] }
noncomputable abbrev f41:Fn:={params:= ["self"],pix:= [0],dflt:= [],nsl:=4,own:= [],body:= [.assign (.n 1) (.ite (.truth (.attr (.loc 0) 58)) (.attr (.attr (.loc 0) 58) 34) (.int 0)), .assign (.n 2) (.ite (.truth (.attr (.loc 0) 80)) (.attr (.attr (.loc 0) 80) 34) (.int 0)), .assign (.attr (.loc 0) 34) (.bin .Add (.int 1) (.call (.glob (.bi .max)) [(.loc 1),(.loc 2)] [] [])), .assign (.attr (.loc 0) 20) (.bin .Sub (.loc 2) (.loc 1))] }
noncomputable abbrev f43:Fn:={params:= ["self"],pix:= [0],dflt:= [],nsl:=4,own:= [],body:= [.expr (.meth (.loc 0) 74 [] [] []), .ite (.cmp .Lt (.call (.glob (.bi .abs)) [(.attr (.loc 0) 20)] [] []) (.int 2)) [.ret (.loc 0)] [], .assign (.n 1) (.cmp .Gt (.attr (.loc 0) 20) (.int 0)), .assign (.n 2) (.cmp .Gt (.attr (.sub (.loc 0) (.loc 1)) 20) (.int 0)), .ite (.or (.cmp .Eq (.loc 1) (.loc 2)) (.cmp .Eq (.attr (.sub (.loc 0) (.loc 1)) 20) (.int 0))) [.ret (.meth (.loc 0) 90 [] [] [])] [.ret (.meth (.loc 0) 40 [] [] [])]] }
noncomputable abbrev f44:Fn:={params:= ["self"],pix:= [0],dflt:= [],nsl:=6,own:= [3],body:= [.assign (.n 1) (.cmp .Gt (.attr (.loc 0) 20) (.int 0)), .assign (.n 2) (.not (.loc 1)), .assign (.c 3) (.sub (.loc 0) (.loc 1)), .assign (.sub (.loc 0) (.loc 1)) (.sub (.cel 3) (.loc 2)), .assign (.sub (.cel 3) (.loc 2)) (.meth (.loc 0) 81 [] [] []), .assign (.n 5) (.comp 3 [(2,3)] (.loc 1) (.n 1) (.attr (.sub (.cel 3) (.loc 2)) 83) [(.truth (.meth (.cel 2) 23 [(.loc 1)] [] []))]), .ite (.truth (.loc 5)) [.for_ (.n 4) (.loc 5) [.assign (.sub (.cel 3) (.loc 2)) (.meth (.sub (.cel 3) (.loc 2)) 75 [(.loc 4)] [] [])], .expr (.meth (.attr (.cel 3) 83) 95 [(.loc 5)] [] [])] [], .expr (.meth (.cel 3) 74 [] [] []), .ret (.cel 3)] }
noncomputable abbrev f45:Fn:={params:= ["self"],pix:= [0],dflt:= [],nsl:=3,own:= [],body:= [.assign (.n 1) (.cmp .Gt (.attr (.loc 0) 20) (.int 0)), .assign (.sub (.loc 0) (.loc 1)) (.meth (.sub (.loc 0) (.loc 1)) 90 [] [] []), .expr (.meth (.loc 0) 74 [] [] []), .assign (.n 2) (.meth (.loc 0) 90 [] [] []), .ret (.loc 2)] }
noncomputable abbrev f47:Fn:={params:= ["self", "interval"],pix:= [0,1],dflt:= [],nsl:=3,own:= [],body:= [.assign (.n 2) (.lst []), .ret (.meth (.loc 0) 77 [(.loc 1),(.loc 2)] ["should_raise_error"] [(.bool true)])] }
noncomputable abbrev f49:Fn:={params:= ["self", "interval", "done", "should_raise_error"],pix:= [0,1,2,3],dflt:= [],nsl:=6,own:= [],body:= [.ite (.truth (.meth (.loc 0) 23 [(.loc 1)] [] [])) [.ite (.and (.not (.truth (.loc 3))) (.cmp .NotIn (.loc 1) (.attr (.loc 0) 83))) [.expr (.meth (.loc 2) 10 [(.int 1)] [] []), .ret (.loc 0)] [], .expr (.meth (.attr (.loc 0) 83) 75 [(.loc 1)] [] []), .ite (.truth (.attr (.loc 0) 83)) [.expr (.meth (.loc 2) 10 [(.int 1)] [] []), .ret (.loc 0)] [], .ret (.meth (.loc 0) 71 [] [] [])] [.assign (.n 4) (.meth (.loc 0) 49 [(.loc 1)] [] []), .ite (.not (.truth (.sub (.loc 0) (.loc 4)))) [.ite (.truth (.loc 3)) [.bad] [], .expr (.meth (.loc 2) 10 [(.int 1)] [] []), .ret (.loc 0)] [], .assign (.sub (.loc 0) (.loc 4)) (.meth (.sub (.loc 0) (.loc 4)) 77 [(.loc 1),(.loc 2),(.loc 3)] [] []), .ite (.not (.truth (.loc 2))) [.ret (.meth (.loc 0) 81 [] [] [])] [], .ret (.loc 0)]] }
noncomputable abbrev f52:Fn:={params:= ["self"],pix:= [0],dflt:= [],nsl:=4,own:= [],body:= [.ite (.or (.not (.truth (.sub (.loc 0) (.int 0)))) (.not (.truth (.sub (.loc 0) (.int 1))))) [.assign (.n 1) (.not (.sub (.loc 0) (.int 0))), .assign (.n 2) (.sub (.loc 0) (.loc 1)), .ret (.loc 2)] [.bad, .bad, .expr (.meth (.loc 3) 74 [] [] []), .assign (.n 3) (.meth (.loc 3) 81 [] [] []), .ret (.loc 3)]] }
noncomputable abbrev f58:Fn:={params:= ["self", "index"],pix:= [0,1],dflt:= [],nsl:=2,own:= [],body:= [.ite (.truth (.loc 1)) [.ret (.attr (.loc 0) 80)] [.ret (.attr (.loc 0) 58)]] }
noncomputable abbrev f59:Fn:={params:= ["self", "key", "value"],pix:= [0,1,2],dflt:= [],nsl:=3,own:= [],body:= [.ite (.truth (.loc 1)) [.assign (.attr (.loc 0) 80) (.loc 2)] [.assign (.attr (.loc 0) 58) (.loc 2)]] }
noncomputable abbrev f62:Fn:={params:= ["self", "intervals"],pix:= [0,1],dflt:= [.none],nsl:=2,own:= [],body:= [.expr (.meth (.loc 0) 86 [(.loc 1)] [] [])] }
noncomputable abbrev f63:Fn:={params:= ["self", "intervals"],pix:= [0,1],dflt:= [.none],nsl:=6,own:= [],body:= [.assign (.n 1) (.ite (.cmp .IsNot (.loc 1) .none) (.call (.glob (.cls 0)) [(.loc 1)] [] []) (.call (.glob (.cls 0)) [] [] [])), .for_ (.n 2) (.loc 1) [.ite (.truth (.meth (.loc 2) 54 [] [] [])) [.bad] []], .assign (.attr (.loc 0) 18) (.loc 1), .assign (.attr (.loc 0) 93) (.meth (.glob (.cls 2)) 44 [(.attr (.loc 0) 18)] [] []), .assign (.attr (.loc 0) 22) .dict0, .for_ (.n 2) (.attr (.loc 0) 18) [.expr (.meth (.loc 0) 11 [(.loc 2)] [] [])]] }
noncomputable abbrev f65:Fn:={params:= ["self", "interval"],pix:= [0,1],dflt:= [],nsl:=4,own:= [],body:= [.assign (.n 2) (.attr (.loc 1) 21), .assign (.n 3) (.attr (.loc 1) 41), .ite (.cmp .In (.loc 2) (.attr (.loc 0) 22)) [.augSub (.attr (.loc 0) 22) (.loc 2) .Add (.int 1)] [.assign (.sub (.attr (.loc 0) 22) (.loc 2)) (.int 1)], .ite (.cmp .In (.loc 3) (.attr (.loc 0) 22)) [.augSub (.attr (.loc 0) 22) (.loc 3) .Add (.int 1)] [.assign (.sub (.attr (.loc 0) 22) (.loc 3)) (.int 1)]] }
noncomputable abbrev f106:Fn:={params:= ["self"],pix:= [0],dflt:= [],nsl:=2,own:= [],body:= [.retIter (.attr (.loc 0) 18)] }
noncomputable abbrev f109:Fn:={params:= ["script", "k"],pix:= [0,1],dflt:= [],nsl:=3,own:= [],body:= [.ret (.ite (.cmp .Lt (.loc 1) (.call (.glob (.bi .len)) [(.loc 0)] [] [])) (.sub (.loc 0) (.loc 1)) (.bin .Add (.bin .Mult (.int 7) (.loc 1)) (.int 3)))] }
noncomputable abbrev f110:Fn:={params:= ["row"],pix:= [0],dflt:= [],nsl:=3,own:= [],body:= [.ite (.cmp .Is (.sub (.loc 0) (.int 2)) .none) [.ret (.tup [(.sub (.loc 0) (.int 0)),(.sub (.loc 0) (.int 1)),(.int 0),(.int 0),(.str "")])] [], .ite (.truth (.call (.glob (.bi .isinstance)) [(.sub (.loc 0) (.int 2)),(.glob (.bi .int))] [] [])) [.ret (.tup [(.sub (.loc 0) (.int 0)),(.sub (.loc 0) (.int 1)),(.int 1),(.sub (.loc 0) (.int 2)),(.str "")])] [], .ret (.tup [(.sub (.loc 0) (.int 0)),(.sub (.loc 0) (.int 1)),(.int 2),(.int 0),(.sub (.loc 0) (.int 2))])] }
noncomputable abbrev f111:Fn:={params:= ["script", "k"],pix:= [0,1],dflt:= [],nsl:=5,own:= [],body:= [.assign (.n 2) (.bin .Mod (.call (.glob (.fn 109)) [(.loc 0),(.loc 1)] [] []) (.int 4)), .assign (.n 3) (.sub (.lst [.none,(.call (.glob (.fn 109)) [(.loc 0),(.bin .Add (.loc 1) (.int 3))] [] []),(.sub (.lst [(.str ""),(.str "b"),(.str "ab"),(.str "c"),(.str "aab")]) (.bin .Mod (.call (.glob (.fn 109)) [(.loc 0),(.bin .Add (.loc 1) (.int 3))] [] []) (.int 5)))]) (.bin .Mod (.call (.glob (.fn 109)) [(.loc 0),(.bin .Add (.loc 1) (.int 2))] [] []) (.int 3))), .ret (.tup [(.loc 2),(.bin .Add (.bin .Add (.loc 2) (.int 1)) (.bin .Mod (.call (.glob (.fn 109)) [(.loc 0),(.bin .Add (.loc 1) (.int 1))] [] []) (.int 3))),(.loc 3)])] }
noncomputable abbrev f112:Fn:={params:= ["script"],pix:= [0],dflt:= [],nsl:=18,own:= [0],body:= [.assign (.n 2) (.comp 4 [(3,0)] (.call (.glob (.fn 111)) [(.cel 3),(.bin .Add (.int 1) (.bin .Mult (.int 4) (.loc 1)))] [] []) (.n 1) (.call (.glob (.bi .range)) [(.bin .Add (.int 2) (.bin .Mod (.call (.glob (.fn 109)) [(.cel 0),(.int 0)] [] []) (.int 6)))] [] []) []), .assign (.n 3) (.comp 5 [] (.call (.glob (.cls 1)) [(.loc 1),(.loc 2),(.loc 3)] [] []) (.t [1,2,3]) (.loc 2) []), .for_ (.n 1) (.call (.glob (.bi .range)) [(.call (.glob (.bi .len)) [(.loc 2)] [] [])] [] []) [.for_ (.n 4) (.call (.glob (.bi .range)) [(.call (.glob (.bi .len)) [(.loc 2)] [] [])] [] []) [.unpack [5,6] (.tup [(.call (.glob (.fn 110)) [(.sub (.loc 2) (.loc 1))] [] []),(.call (.glob (.fn 110)) [(.sub (.loc 2) (.loc 4))] [] [])]), .assign (.n 7) (.bin .Sub (.call (.glob (.bi .int)) [(.cmp .Gt (.loc 5) (.loc 6))] [] []) (.call (.glob (.bi .int)) [(.cmp .Lt (.loc 5) (.loc 6))] [] [])), .ite (.or (.cmp .NotEq (.meth (.sub (.loc 3) (.loc 1)) 26 [(.sub (.loc 3) (.loc 4))] [] []) (.loc 7)) (.cmp .NotEq (.cmp .Eq (.sub (.loc 3) (.loc 1)) (.sub (.loc 3) (.loc 4))) (.cmp .Eq (.loc 7) (.int 0)))) [.ret (.bool false)] [], .ite (.or (.cmp .NotEq (.cmp .Lt (.sub (.loc 3) (.loc 1)) (.sub (.loc 3) (.loc 4))) (.cmp .Lt (.loc 7) (.int 0))) (.cmp .NotEq (.cmp .Gt (.sub (.loc 3) (.loc 1)) (.sub (.loc 3) (.loc 4))) (.cmp .Gt (.loc 7) (.int 0)))) [.ret (.bool false)] []]], .assign (.n 8) (.comp 3 [] (.call (.glob (.fn 110)) [(.tup [(.attr (.loc 1) 21),(.attr (.loc 1) 41),(.attr (.loc 1) 33)])] [] []) (.n 1) (.call (.glob (.bi .sorted)) [(.loc 3)] [] []) []), .ite (.cmp .NotEq (.loc 8) (.call (.glob (.bi .sorted)) [(.comp 3 [] (.call (.glob (.fn 110)) [(.loc 1)] [] []) (.n 1) (.loc 2) [])] [] [])) [.ret (.bool false)] [], .ite (.cmp .NotEq (.call (.glob (.bi .sorted)) [(.comp 3 [] (.call (.glob (.fn 110)) [(.tup [(.attr (.loc 1) 21),(.attr (.loc 1) 41),(.attr (.loc 1) 33)])] [] []) (.n 1) (.call (.glob (.cls 3)) [(.loc 3)] [] []) [])] [] []) (.call (.glob (.bi .sorted)) [(.call (.glob (.bi .set)) [(.loc 8)] [] [])] [] [])) [.ret (.bool false)] [], .assign (.n 9) (.bin .Mod (.call (.glob (.fn 109)) [(.cel 0),(.int 2)] [] []) (.int 6)), .for_ (.n 5) (.loc 3) [.ite (.or (.cmp .NotEq (.meth (.loc 5) 26 [(.loc 9)] [] []) (.ite (.cmp .Lt (.attr (.loc 5) 21) (.loc 9)) (.neg (.int 1)) (.int 1))) (.cmp .NotEq (.cmp .Lt (.loc 5) (.loc 9)) (.cmp .Lt (.attr (.loc 5) 21) (.loc 9)))) [.ret (.bool false)] [], .ite (.cmp .NotEq (.cmp .Gt (.loc 5) (.loc 9)) (.cmp .GtE (.attr (.loc 5) 21) (.loc 9))) [.ret (.bool false)] []], .ret (.bool true)] }
noncomputable def P09:Prog:={fns:= [none,some f1,some f2,some f3,some f4,some f5,none,some f7,some f8,some f9,some f10,none,none,none,some f14,some f15,none,none,some f18,none,none,none,some f22,none,some f24,some f25,some f26,some f27,none,none,none,none,none,none,some f34,some f35,some f36,some f37,some f38,some f39,some f40,some f41,none,some f43,some f44,some f45,none,some f47,none,some f49,none,none,some f52,none,none,none,none,none,some f58,some f59,none,none,some f62,some f63,none,some f65,none,none,none,none,none,none,none,none,none,none,none,none,none,none,none,none,none,none,none,none,none,none,none,none,none,none,none,none,none,none,none,none,none,none,none,none,none,none,none,none,some f106,none,none,some f109,some f110,some f111,some f112],meth:= [[(0,1),(1,2),(2,3),(3,4),(4,5),(14,7),(95,8),(37,9),(75,10),(5,6)],[(0,15),(29,18),(54,22),(5,24),(26,25),(6,26),(7,27)],[(0,34),(43,35),(44,36),(45,37),(50,38),(23,39),(49,40),(74,41),(81,43),(90,44),(40,45),(75,47),(77,49),(71,52),(8,58),(9,59)],[(0,62),(86,63),(11,65),(1,106),(2,107),(4,104),(5,108),(8,103)]],cms:= [35,36,37],ats:= [[82],[21,41,33],[97,83,58,80,34,20],[18,93,22]] }
noncomputable abbrev P9 (is:List Int):Prog:={P09 with scr:=is}
noncomputable abbrev pw:Program:=PySem.Challenge.pw_ji0043_09
noncomputable def topLooks (q:Program) (loose:List Str) (Xt:Shared->Bool) (h0:Heap) (s₁:Shared) :=
 ((staticsOk (importedModules pw.main.body) h0 s₁.heap && namesBound pw s₁.heap && gensDone s₁ && laidKept h0 s₁.heap),openSeen q loose (importedModules pw.main.body) Xt true s₁)
theorem left_mine {q:Program}{loose:List Str}{Xt:Shared->Bool}{α:Type}{Yf:Shared->α}{Ya:World->α}{N M m₀:Nat}{ann:Option Value}{H₀:Params->Heap}{d₀:Drawn}{k₀:Nat}
 (op: ∀w:World,(fencedOpening treeTable pw w N).map (λs=>(s.heap,s.gens,s.drawn,s.toks))=some (H₀ w.params,#[],d₀,k₀))
 (size: ∀w:World,((H₀ w.params).isNs mainGlobals,(H₀ w.params).objs.size,(H₀ w.params).nsMap mainGlobals "__annotations__")=(true,m₀,ann))
 (le:Nat.ble M N=true)
 (run: ∀ (w:World) (os:OsState),∃s₁,topRun treeTable pw w m₀ ann M ⟨H₀ w.params,#[],d₀,k₀,os⟩ (topStub pw)=some s₁/\topLooks q loose Xt (H₀ w.params) s₁=(true,openGood q loose)/\Yf s₁=Ya w) :
 LeftO pw q loose Xt Yf Ya N:=λw=>by
 obtain⟨⟨h,gs,d,k,os⟩,e,e'⟩:=Option.map_eq_some_iff.mp (op w)
 have e1:h=H₀ w.params:=congrArg (λx=>x.1) e'
 have e2:gs= #[]:=congrArg (λx=>x.2.1) e'
 have e3:d=d₀:=congrArg (λx=>x.2.2.1) e'
 have e4:k=k₀:=congrArg (λx=>x.2.2.2) e'
 subst e1 e2 e3 e4
 have z1:(H₀ w.params).isNs mainGlobals=true:=congrArg (λx=>x.1) (size w)
 have z2:(H₀ w.params).objs.size=m₀:=congrArg (λx=>x.2.1) (size w)
 have z3:(H₀ w.params).nsMap mainGlobals "__annotations__" =ann:=congrArg (λx=>x.2.2) (size w)
 obtain⟨s₁,r,l,y⟩:=run w os
 have r:=topRun_mono (N - M) _ _ _ _ r
 have hM:=Nat.le_of_ble_eq_true le
 rw [Nat.add_sub_of_le hM] at r
 have l1:=congrArg Prod.fst l
 have l2:=congrArg Prod.snd l
 have t:topFrom treeTable pw w N ⟨H₀ w.params,#[],d,k,os⟩=some s₁:=by
  unfold topFrom
  have c:((H₀ w.params).isNs mainGlobals && (#[]:Array GenState).size == 0)=true:=by rw [z1];rfl
  dsimp only at c ⊢
  rw [c,z2,z3,r]
  dsimp only [topLooks] at l1
  show(match _ with | true=>some s₁ | false=>none)=_
  rw [l1]
 unfold openEnds
 rw [e]
 show(topFrom treeTable pw w N _).map _=_
 rw [t]
 exact congrArg some (Prod.ext l2 y)
noncomputable def bT:List Stmt:=behindTheImports pw
noncomputable def envT:Env:={scope:=pw.main.scope,locals:=mainNs,globals:=mainNs,cells:= [],code:=Value.ref 13,frame:=some 14}
noncomputable def cT:Code:= .body bT envT
noncomputable def z0:Pos:={line:=0,col:=0,endLine:=0,endCol:=0}
noncomputable def b11:Obj:={cls:=Value.type "tuple",data:=Data.seq (Array.mk []) }
noncomputable def b12:Obj:={cls:=Value.none,data:=Data.fields (Array.mk []) }
noncomputable def b13:Obj:={cls:=Value.type "code",data:=Data.fields (Array.mk [Value.str (Str.ofString "<module>") 182,Value.str (Str.ofString "<module>") 183,
 Value.str (Str.ofString "/claim/cut.py") 184,Value.int 1 0,Value.int 0 0,Value.int 0 0,Value.int 0 0,
 Value.int 0 0,Value.ref 11,Value.bool false,Value.int 181 0,Value.ref 12,Value.none,Value.none,
 Value.none,Value.none,Value.int 185 0,Value.int 1 0,Value.str (Str.ofString "/claim/cut.py") 186]) }
noncomputable def b14:Obj:={cls:=Value.type "frame",slots:=(Array.mk [some (Value.ref 13),some (Value.ref 3),some (Value.ref 3),none,some (Value.str (Str.ofString "__main__") 164),none,some (Value.ref 0)]) }
noncomputable def hpA (P:Params):Heap:={objs:={toList:= [boot_o_0 P,boot_o_1 P,boot_o_2 P,boot_o_3 P,boot_o_4 P,boot_o_5 P,boot_o_6 P,boot_o_7 P,boot_o_8 P,boot_o_9 P,boot_o_10 P,b11,b12,b13,b14] } }
noncomputable def trA (P:Params):BT:=
 BT.node (boot_o_0 P)
  (BT.node (boot_o_1 P)
   (BT.node (boot_o_3 P) (BT.node (boot_o_7 P) BT.nil BT.nil) (BT.node b11 BT.nil BT.nil))
   (BT.node (boot_o_5 P) (BT.node (boot_o_9 P) BT.nil BT.nil) (BT.node b13 BT.nil BT.nil)))
  (BT.node (boot_o_2 P)
   (BT.node (boot_o_4 P) (BT.node (boot_o_8 P) BT.nil BT.nil) (BT.node b12 BT.nil BT.nil))
   (BT.node (boot_o_6 P) (BT.node (boot_o_10 P) BT.nil BT.nil) (BT.node b14 BT.nil BT.nil)))
noncomputable def sS (w:World) (os:OsState):Shared:=⟨boot_heap w.params,#[],boot_drawn,boot_toks,os⟩
noncomputable def sA (w:World) (os:OsState):Shared:={heap:=hpA w.params,gens:= #[],drawn:={},toks:=187,os:=os}
noncomputable def sB (w:World) (os:OsState):SharedT:={tree:=trA w.params,n:=15,life:={},gens:= #[],drawn:={},toks:=187,os:=os}
noncomputable abbrev ann6:Option Value:=some (Value.ref 6)
theorem preT (w:World) (os:OsState):topGo treeTable pw w 11 ann6 12 (sS w os) (topStub pw)=some (sA w os,⟨denote treeTable cT,cT,z0,[topFrame z0]⟩):=by kernel_rfl
theorem blockT (w:World) (os:OsState):segRun treeTable pw w 11 ann6 1 1 (sA w os) (blockOf bT envT cT z0 [topFrame z0])=some (.next,(sB w os).abs,cT,z0):=by kernel_rfl
set_option backward.match.sparseCases false
noncomputable def nm09:List Str:=(["__init__", "__iter__", "__len__", "__bool__", "__contains__", "__eq__", "__lt__", "__gt__", "__getitem__", "__setitem__", "append", "_add_boundaries", "_raise_if_null", "_remove_boundaries", "add", "addi", "all_children", "all_children_helper", "all_intervals", "at", "balance", "begin", "boundary_table", "center_hit", "chop", "clear", "compare", "compute_depth", "contains_interval", "contains_point", "containsi", "copy", "count_nodes", "data", "depth", "difference", "difference_update", "discard", "discardi", "distance_to", "drotate", "end", "envelop", "from_interval", "from_intervals", "from_sorted_intervals", "from_tuples", "ge", "gt", "hit_branch", "init_from_sorted", "intersection", "intersection_update", "is_empty", "is_null", "items", "keys", "le", "left_node", "length", "lt", "merge_equals", "merge_neighbors", "merge_overlaps", "overlap", "overlap_size", "overlaps", "overlaps_point", "overlaps_range", "pop", "pop_greatest_child", "prune", "range", "range_matches", "refresh_balance", "remove", "remove_envelop", "remove_interval_helper", "remove_overlap", "removei", "right_node", "rotate", "rows", "s_center", "search_overlap", "search_point", "set_up", "slice", "span", "split_overlaps", "srotate", "symmetric_difference", "symmetric_difference_update", "top_node", "union", "update", "verify", "x_center"]:List String).map Str.ofString
noncomputable def gl09:List (Str × G):= [("Members", .cls 0),("Interval", .cls 1),("Node", .cls 2),("IntervalTree", .cls 3),("kind_name", .fn 14),("_law_at", .fn 109),("_law_key", .fn 110),("_law_row", .fn 111),("len", .bi .len),("range", .bi .range),("sorted", .bi .sorted),("set", .bi .set),("int", .bi .int),("isinstance", .bi .isinstance),("max", .bi .max),("abs", .bi .abs),("iter", .bi .iter),("bool", .bi .bool),("str", .bi .tstr)]
noncomputable def fn09:List (Nat × Option Nat × Str):=([(1,some 0, "__init__"),(2,some 0, "__iter__"),(3,some 0, "__len__"),(4,some 0, "__bool__"),(5,some 0, "__contains__"),(7,some 0, "add"),(8,some 0, "update"),(9,some 0, "discard"),(10,some 0, "remove"),(14,none, "kind_name"),(15,some 1, "__init__"),(18,some 1, "contains_point"),(22,some 1, "is_null"),(24,some 1, "__eq__"),(25,some 1, "compare"),(26,some 1, "__lt__"),(27,some 1, "__gt__"),(34,some 2, "__init__"),(35,some 2, "from_interval"),(36,some 2, "from_intervals"),(37,some 2, "from_sorted_intervals"),(38,some 2, "init_from_sorted"),(39,some 2, "center_hit"),(40,some 2, "hit_branch"),(41,some 2, "refresh_balance"),(43,some 2, "rotate"),(44,some 2, "srotate"),(45,some 2, "drotate"),(47,some 2, "remove"),(49,some 2, "remove_interval_helper"),(52,some 2, "prune"),(58,some 2, "__getitem__"),(59,some 2, "__setitem__"),(62,some 3, "__init__"),(63,some 3, "set_up"),(65,some 3, "_add_boundaries"),(106,some 3, "__iter__"),(109,none, "_law_at"),(110,none, "_law_key"),(111,none, "_law_row"),(112,none, "law"),(6,some 0, "__eq__"),(107,some 3, "__len__"),(104,some 3, "__contains__"),(108,some 3, "__eq__"),(103,some 3, "__getitem__")]:List (Nat × Option Nat × String)).map λp=>(p.1,p.2.1,Str.ofString p.2.2)
noncomputable def cl09:List Str:= ["Members", "Interval", "Node", "IntervalTree"]
noncomputable def keepO (o:Obj):Bool:=match o.data with
 | .dict _ _=>true
 | .func _=>true
 | .cls _=>true
 | .fields _=>true
 | .seq its _=>decide (0 < its.size) && o.cls == .type "tuple"
 | _=>false
noncomputable def kFrom:Nat->List Obj->Frag
 | _,[]=> []
 | a,o :: r=>if keepO o then(a,o) :: kFrom (a + 1) r else kFrom (a + 1) r
noncomputable def K9 (h:Heap):Frag:=kFrom 0 h.objs.toList
noncomputable def refV:Value->Option Addr
 | .ref a=>some a
 | _=>none
noncomputable def refIn:Option (Option Value)->Option Addr
 | some (some (.ref a))=>some a
 | _=>none
noncomputable def ca9 (K:Frag) (k:Nat):Option Addr:=(cl09[k]?).bind λnm=>refIn (nsIn K mainGlobals nm)
noncomputable def refHd:Option (List Value)->Option Addr
 | some (v :: _)=>refV v
 | _=>none
noncomputable def seqV (o:Obj):Option (Array Value):=match o.data with
 | .seq its _=>some its
 | _=>none
noncomputable def isT0:V->Bool
 | .tup vs=>vs.isEmpty
 | _=>false
noncomputable def fnOf (f:Nat):Option Fn:=(P09.fns[f]?).bind id
noncomputable def cmOf (K:Frag) (a:Addr):Option Addr:=refHd (recIn K a "classmethod")
noncomputable def fa9 (K:Frag) (f:Nat):Option Addr:=(fn09.find? λq=>q.1 == f).bind λq=>match q.2.1 with
 | none=>refIn (nsIn K mainGlobals q.2.2)
 | some c=>(ca9 K c).bind λC=>(refIn (findIn K (.ref C) q.2.2)).bind λa=>if isFn K (.ref a) then some a else cmOf K a
noncomputable def funcAt (K:Frag) (a:Addr):Option FuncData:=match K.lookup a with
 | some ⟨_,_, .func fd,_⟩=>some fd
 | _=>none
noncomputable def bodyOf (fd:FuncData):Option (Arguments × Scope × List Stmt):=match fd.body with
 | .stmts b=>some (fd.params,fd.scope,b)
 | _=>none
noncomputable def bodies (K:Frag):List (Option (Arguments × Scope × List Stmt)):=fn09.map λq=>(fa9 K q.1).bind λa=>(funcAt K a).bind bodyOf
noncomputable def srcFns (b:List Stmt):List (Option Str × Str × Arguments × Scope × List Stmt):=b.flatMap λs=>match s with
 | .FunctionDef n a body _ _ _ sc _ _ _=> [(none,n,a,sc,body)]
 | .ClassDef cn _ _ body _ _ _ _ _ _ _=>body.filterMap λt=>match t with
  | .FunctionDef n a b2 _ _ _ sc _ _ _=>some (some cn,n,a,sc,b2)
  | _=>none
 | _=> []
noncomputable def srcBodies (b:List Stmt):List (Option (Arguments × Scope × List Stmt)):=fn09.map λq=>((srcFns b).find? λp=>decide (p.2.1=q.2.2) && decide (p.1=q.2.1.bind λc=>cl09[c]?)).map λp=>(p.2.2.1,p.2.2.2.1,p.2.2.2.2)
noncomputable def getC:CFound->Option (Value × Value × Value × Value)
 | .get a b c d=>some (a,b,c,d)
 | _=>none
noncomputable def chkCm (K:Frag) (C:Addr) (name:Str) (a:Addr):Bool:=specialIn K (.ref C) "__getattribute__" == some (some (.builtin "type.__getattribute__")) && (typeIn K (.ref C)).any λmc=>readsIn K C mc &&
 (findCls K (.ref C) mc name).any λr=>(getC r).any λq=>q.1 == .builtin "classmethod.__get__" && q.2.2.1 == .none && q.2.2.2 == .ref C && (refV q.2.1).any λp=>(refHd (recIn K p "classmethod")).any λb=>b == a
noncomputable def chkM (K:Frag) (C:Addr) (p:Nat × Nat):Bool:=(nm09[p.1]?).any λname=>(fa9 K p.2).any λa=>
 if P09.cms.contains p.2 then chkCm K C name a else findIn K (.ref C) name == some (some (.ref a)) && isFn K (.ref a) && fnIn K a
noncomputable def chkC1 (K:Frag) (c:Nat) (C:Addr):Bool:=plainGet K C "" && hasDictIn K C && plainOver K C && findIn K (.ref C) "__setattr__" == some (some (.builtin "object.__setattr__")) && makesIn K C &&
 ((P09.getM c nBool).isSome || findIn K (.ref C) "__bool__" == some none) && ((P09.getM c nLen).isSome || findIn K (.ref C) "__len__" == some none)
noncomputable def chkC2 (K:Frag) (c:Nat) (C:Addr):Bool:=((P09.ats[c]?).getD []).all λa=>(nm09[a]?).any λname=>findIn K (.ref C) name == some none && takerIn K C name == some none
noncomputable def chkC3 (K:Frag) (c:Nat) (C:Addr):Bool:=W.notFirst K C (.type "int") && noSeq K C && kitOne K (.type "int") (.ref C) == some false && findIn K (.ref C) "__class__" == some (some (.builtin "object.__class__")) && mroIn K C (.type "object") == some true && keepIn K (.ref C) &&
 (List.range 4).all λk=>(ca9 K k).any λD=>kitOne K (.ref C) (.ref D) == some (c == k)
noncomputable def chkC (K:Frag) (c:Nat):Bool:=(ca9 K c).any λC=>chkC1 K c C && chkC2 K c C && chkC3 K c C && ((P09.meth[c]?).getD []).all (chkM K C)
noncomputable def tupE (o:Obj):Bool:=o.cls == .type "tuple" && o.dict.isNone && (seqV o).any (·.isEmpty) && o.slots.isEmpty
noncomputable def chkD1 (h:Heap) (v:V) (x:Value):Bool:=if isNone v then x == .none else isT0 v && (refV x).any λD=>(h.get? D).any tupE
noncomputable def chkD (h:Heap) (K:Frag) (ds:List V) (dV:Value):Bool:=if ds.isEmpty then dV == .none else
 (refV dV).any λT=>(K.lookup T).any λo=>(seqV o).any λits=>decide (its.toList.length=ds.length) && (ds.zip its.toList).all λp=>chkD1 h p.1 p.2
noncomputable def chkFn (h:Heap) (K:Frag) (f:Nat):Bool:=(fa9 K f).any λa=>keepIn K (.ref a) && fnIn K a && (funcAt K a).any λfd=>fd.globals == mainGlobals && fd.closure.isEmpty && fd.builtins == builtinsNs && codeIn K fd.code fd.qualname &&
 (fnOf f).all λfn=>chkD h K fn.dflt fd.defaults
noncomputable def gv (K:Frag):G->Option Value
 | .cls k=>(ca9 K k).map .ref
 | .fn k=>(fa9 K k).map .ref
 | .bi b=>some (bval b)
noncomputable def isBi9:G->Bool
 | .bi _=>true
 | _=>false
noncomputable def chkG9 (K:Frag) (p:Str × G):Bool:=if isBi9 p.2 then nsIn K mainGlobals p.1 == some none else(gv K p.2).any λv=>nsIn K mainGlobals p.1 == some (some v)
noncomputable def chkI (K:Frag) (b:B):Bool:=kitOne K (.type "int") (bval b) == some (decide (b= .int)) && kitOne K (.type "str") (bval b) == some (decide (b= .tstr))
noncomputable def stK (h:Heap) (K:Frag):Bool:=(List.range 4).all (chkC K) && fn09.all (λq=>chkFn h K q.1) && gl09.all (chkG9 K) && [B.int, .bool, .tstr].all (chkI K) &&
 specialIn K (.builtin "object.__class__") "__get__" == some (some (.builtin "getset_descriptor.__get__")) && takesIn K (.builtin "object.__class__") == some true && nsIn K mainGlobals "TypeError" == some none
noncomputable def stB (h:Heap):Bool:=stK h (K9 h)
set_option backward.match.sparseCases true
theorem kFrom_in (l:List Obj): ∀ (n:Nat) (a:Addr) (o:Obj),(kFrom n l).lookup a=some o->n<=a/\l[a - n]? =some o/\keepO o=true:=by
 induction l with
 | nil=>intro n a o h;exact nos h
 | cons x r ih=>
  intro n a o h
  have step:(kFrom (n + 1) r).lookup a=some o->n<=a/\(x :: r)[a - n]? =some o/\keepO o=true:=λh=>by
   have q:=ih (n + 1) a o h
   refine⟨Nat.le_of_succ_le q.1, ?_,q.2.2⟩
   have e:a - n=(a - (n + 1)) + 1:=by rw [<- Nat.sub_sub];exact(Nat.sub_add_cancel (Nat.sub_pos_of_lt q.1)).symm
   rw [e]
   exact q.2.1
  unfold kFrom at h
  by_cases hk:keepO x=true
  ·rw [if_pos hk,List.lookup_cons] at h
   by_cases e:a=n
   ·rw [e,beq_self_eq_true] at h
    have e2:x=o:=Option.some.inj h
    refine⟨Nat.le_of_eq e.symm, ?_,e2▸hk⟩
    rw [e,Nat.sub_self, <- e2]
    rfl
   ·rw [beq_false_of_ne e] at h
    exact step h
  ·rw [if_neg hk] at h
   exact step h
theorem K9_in (h:Heap):(K9 h).In h:=λa o e=>by
 have q:=kFrom_in h.objs.toList 0 a o e
 have g:h.objs[a]? =some o:=by rw [<- Array.getElem?_toList];exact q.2.1
 have k:=q.2.2
 unfold Heap.get?
 rw [g]
 obtain⟨c,d,dt,sl⟩:=o
 cases dt <;> first | rfl | exact Bool.noConfusion k
theorem funcAt_obj {K:Frag}{a:Addr}{fd:FuncData} (h:funcAt K a=some fd): ∃o,K.lookup a=some o/\o.data= .func fd:=by
 unfold funcAt at h
 cases e:K.lookup a with
 | none=>rw [e] at h;exact nos h
 | some o=>
  rw [e] at h
  obtain⟨c,d,dt,sl⟩:=o
  cases dt with
  | func f=>exact⟨_,rfl,congrArg Data.func (Option.some.inj h)⟩
  | _=>exact nos h
section
variable {h:Heap}{K:Frag}
theorem stK_parts (st:stK h K=true):(List.range 4).all (chkC K)=true/\fn09.all (λq=>chkFn h K q.1)=true/\gl09.all (chkG9 K)=true/\ [B.int, .bool, .tstr].all (chkI K)=true/\
 specialIn K (.builtin "object.__class__") "__get__" =some (some (.builtin "getset_descriptor.__get__"))/\takesIn K (.builtin "object.__class__")=some true/\nsIn K mainGlobals "TypeError" =some none:=
 have h1:=ba st
 have h2:=ba h1.1
 have h3:=ba h2.1
 have h4:=ba h3.1
 have h5:=ba h4.1
 have h6:=ba h5.1
 ⟨h6.1,h6.2,h5.2,h4.2,eq_of_beq h3.2,eq_of_beq h2.2,eq_of_beq h1.2⟩
theorem cls_chk (st:stK h K=true) {c:Nat}{C:Addr} (e:ca9 K c=some C):c < 4/\chkC1 K c C=true/\chkC2 K c C=true/\chkC3 K c C=true/\((P09.meth[c]?).getD []).all (chkM K C)=true:=by
 have hc:c < 4:=by
  unfold ca9 at e
  cases q:cl09[c]? with
  | none=>rw [q] at e;exact nos e
  | some nm=>exact(List.getElem?_eq_some_iff.mp q).1
 have k:=List.all_eq_true.mp (stK_parts st).1 c (List.mem_range.mpr hc)
 unfold chkC at k
 rw [e] at k
 have h1:=ba (k:(chkC1 K c C && chkC2 K c C && chkC3 K c C && ((P09.meth[c]?).getD []).all (chkM K C))=true)
 have h2:=ba h1.1
 have h3:=ba h2.1
 exact⟨hc,h3.1,h3.2,h2.2,h1.2⟩
noncomputable abbrev cx9 (K:Frag) (p:Program) (w:World) (pr:Program) (lo:List Str) (mg mb:Str->Option Value) (d:List (Addr × Obj)) (is:List Int) (T:Addr):Cx:=
 {K:=K,τ:={prog:=p,w:=w,ca:=ca9 K,fa:=fa9 K,sa:=some T,nm:=nm09},pr:=pr,loose:=lo,mg:=mg,mb:=mb,P:=P9 is,gl:=gl09,dfl:=d,pin:= [] }
theorem lookup_mem {α:Type}{l:List (Nat × α)}{i:Nat}{v:α} (h:l.lookup i=some v):(i,v)∈l:=by
 induction l with
 | nil=>exact nos h
 | cons p r ih=>
  rw [List.lookup_cons] at h
  cases hb:i == p.1 with
  | true=>rw [hb] at h;rw [eq_of_beq hb, <- Option.some.inj h];exact .head _
  | false=>rw [hb] at h;exact .tail _ (ih h)
theorem getM_mem {P:Prog}{c m f:Nat} (h:P.getM c m=some f): ∃l,P.meth[c]? =some l/\(m,f)∈l:=by
 unfold Prog.getM at h
 cases e:P.meth[c]? with
 | none=>rw [e] at h;exact nos h
 | some l=>rw [e] at h;exact⟨l,rfl,lookup_mem h⟩
theorem meth_chk (st:stK h K=true) {c m f:Nat}{C:Addr}{name:Str} (g:P09.getM c m=some f) (e:ca9 K c=some C) (en:nm09[m]? =some name) :
 ∃a,fa9 K f=some a/\(if P09.cms.contains f then chkCm K C name a else findIn K (.ref C) name == some (some (.ref a)) && isFn K (.ref a) && fnIn K a)=true:=by
 refine(getM_mem g).elim λl hl=> ?_
 have k:=(cls_chk st e).2.2.2.2
 rw [hl.1] at k
 have k:=List.all_eq_true.mp k (m,f) hl.2
 unfold chkM at k
 dsimp only at k
 rw [en] at k
 have k:(fa9 K f).any (λa=>if P09.cms.contains f then chkCm K C name a else findIn K (.ref C) name == some (some (.ref a)) && isFn K (.ref a) && fnIn K a)=true:=k
 exact anyS k
theorem spm9: ∀l∈P09.meth,∀q∈l,q.1 < 10->P09.cms.contains q.2=false:=by decide +kernel
theorem nmnd9:nm09.Nodup:=by decide +kernel
theorem sp9: ∀p∈specials,nm09[p.1]? =some p.2:=by decide +kernel
structure C1 (K:Frag) (c:Nat) (C:Addr):Prop where
 get:plainGet K C "" =true
 dict:hasDictIn K C=true
 over:plainOver K C=true
 set:findIn K (.ref C) "__setattr__" =some (some (.builtin "object.__setattr__"))
 makes:makesIn K C=true
 noB:P09.getM c nBool=none->findIn K (.ref C) "__bool__" =some none
 noL:P09.getM c nLen=none->findIn K (.ref C) "__len__" =some none
theorem c1_of {c:Nat}{C:Addr} (k:chkC1 K c C=true):C1 K c C:=
 have h1:=ba k
 have h2:=ba h1.1
 have h3:=ba h2.1
 have h4:=ba h3.1
 have h5:=ba h4.1
 have h6:=ba h5.1
 ⟨h6.1,h6.2,h5.2,eq_of_beq h4.2,h3.2,λn=>(Bool.or_eq_true_iff.mp h2.2).elim (λq=>by rw [n] at q;exact Bool.noConfusion q) eq_of_beq,λn=>(Bool.or_eq_true_iff.mp h1.2).elim (λq=>by rw [n] at q;exact Bool.noConfusion q) eq_of_beq⟩
theorem c2_of {c a:Nat}{C:Addr}{name:Str} (k:chkC2 K c C=true) (g:P09.isAt c a=true) (en:nm09[a]? =some name):findIn K (.ref C) name=some none/\takerIn K C name=some none:=by
 unfold Prog.isAt at g
 unfold chkC2 at k
 cases e:P09.ats[c]? with
 | none=>rw [e] at g;exact Bool.noConfusion g
 | some l=>
  rw [e] at g k
  have k:=List.all_eq_true.mp k a (List.contains_iff_mem.mp g)
  rw [en] at k
  have k:(findIn K (.ref C) name == some none && takerIn K C name == some none)=true:=k
  exact⟨eq_of_beq (ba k).1,eq_of_beq (ba k).2⟩
structure C3 (K:Frag) (c:Nat) (C:Addr):Prop where
 intF:W.notFirst K C (.type "int")=true
 seq:noSeq K C=true
 isi1:kitOne K (.type "int") (.ref C)=some false
 own1:findIn K (.ref C) "__class__" =some (some (.builtin "object.__class__"))
 own2:mroIn K C (.type "object")=some true
 keep:keepIn K (.ref C)=true
 isi3: ∀k D,k < 4->ca9 K k=some D->kitOne K (.ref C) (.ref D)=some (c == k)
theorem c3_of {c:Nat}{C:Addr} (k:chkC3 K c C=true):C3 K c C:=
 have h1:=ba k
 have h2:=ba h1.1
 have h3:=ba h2.1
 have h4:=ba h3.1
 have h5:=ba h4.1
 have h6:=ba h5.1
 ⟨h6.1,h6.2,eq_of_beq h5.2,eq_of_beq h4.2,eq_of_beq h3.2,h2.2,λk D hk e=>by
  have q:=List.all_eq_true.mp h1.2 k (List.mem_range.mpr hk)
  rw [e] at q
  exact eq_of_beq (q:(kitOne K (.ref C) (.ref D) == some (c == k))=true)⟩
theorem refV_eq {v:Value}{a:Addr} (h:refV v=some a):v= .ref a:=by cases v <;> first | exact congrArg Value.ref (Option.some.inj h) | exact nos h
theorem refHd_eq {o:Option (List Value)}{b:Addr} (h:refHd o=some b): ∃rest,o=some (.ref b :: rest):=by
 cases o with
 | none=>exact nos h
 | some l=>cases l with
  | nil=>exact nos h
  | cons v r=>exact⟨r,by rw [refV_eq (v:=v) h]⟩
theorem getC_eq {r:CFound}{q:Value × Value × Value × Value} (h:getC r=some q):r= .get q.1 q.2.1 q.2.2.1 q.2.2.2:=by
 cases r with
 | get a b c d=>rw [<- Option.some.inj h]
 | val v=>exact nos h
theorem seqV_eq {o:Obj}{its:Array Value} (h:seqV o=some its): ∃n,o.data= .seq its n:=by
 unfold seqV at h
 cases e:o.data with
 | seq i n=>rw [e] at h;exact⟨n,by rw [Option.some.inj h]⟩
 | _=>rw [e] at h;exact nos h
theorem cm_of {C a:Addr}{name:Str} (k:chkCm K C name a=true): ∃mc p rest,specialIn K (.ref C) "__getattribute__" =some (some (.builtin "type.__getattribute__"))/\typeIn K (.ref C)=some mc/\readsIn K C mc=true/\
 findCls K (.ref C) mc name=some (.get (.builtin "classmethod.__get__") (.ref p) .none (.ref C))/\recIn K p "classmethod" =some (.ref a :: rest):=by
 have h1:=ba k
 refine(anyS h1.2).elim λmc q=> ?_
 have h2:=ba q.2
 refine(anyS h2.2).elim λr h3=>(anyS h3.2).elim λg h4=> ?_
 have h5:=ba h4.2
 have h6:=ba h5.1
 have h7:=ba h6.1
 refine(anyS h5.2).elim λp h8=>(anyS h8.2).elim λb h9=>(refHd_eq h9.1).elim λrest e=>⟨mc,p,rest,eq_of_beq h1.1,q.1,h2.1, ?_,eq_of_beq h9.2▸e⟩
 rw [h3.1,getC_eq h4.1,eq_of_beq h7.1,refV_eq h8.1,eq_of_beq h7.2,eq_of_beq h6.2]
theorem fn_chk (st:stK h K=true) {f:Nat}{a:Addr} (e:fa9 K f=some a):keepIn K (.ref a)=true/\fnIn K a=true:=by
 have e0:=e
 unfold fa9 at e
 refine(Option.bind_eq_some_iff.mp e).elim λq hq=> ?_
 have hf0:=List.find?_some (p:=λq:Nat × Option Nat × Str=>q.1 == f) hq.1
 have hf:q.1=f:=eq_of_beq hf0
 have k:chkFn h K q.1=true:=List.all_eq_true.mp (stK_parts st).2.1 q (List.mem_of_find?_eq_some hq.1)
 rw [hf] at k
 refine(anyS k).elim λa' z=> ?_
 obtain rfl:a'=a:=Option.some.inj (z.1.symm.trans e0)
 exact ba (ba z.2).1
noncomputable def bbOk (p:Str × G):Bool:=match p.2 with
 | .bi b=>bootBuiltins p.1 == some (bval b) && !(p.1 == ("__name__" :Str))
 | _=>true
theorem bb9:gl09.all bbOk=true:=by kernel_rfl
theorem gl_mem {α:Type}{l:List (Str × α)}{x:Str}{v:α} (h:l.lookup x=some v):(x,v)∈l:=by
 induction l with
 | nil=>exact nos h
 | cons p r ih=>
  rw [List.lookup_cons] at h
  cases hb:x == p.1 with
  | true=>rw [hb] at h;rw [eq_of_beq hb, <- Option.some.inj h];exact .head _
  | false=>rw [hb] at h;exact .tail _ (ih h)
theorem ap9:nm09[nAppend]? =some ("append" :Str):=by decide +kernel
theorem stat9 {p:Program}{w:World}{pr:Program}{lo:List Str}{mg mb:Str->Option Value}{d:List (Addr × Obj)}{is:List Int}{T:Addr} (st:stK h K=true):Stat6 (cx9 K p w pr lo mg mb d is T) where
 nmnd:=nmnd9
 sp:=sp9
 meth:=λc m f C name g nc e en=>(meth_chk st g e en).elim λa q=>by
  have q2:=q.2
  rw [if_neg (by rw [show P09.cms.contains f=false from nc];exact nofun)] at q2
  exact⟨a,q.1,eq_of_beq (ba (ba q2).1).1,(ba (ba q2).1).2,(ba q2).2⟩
 spm:=λc m f g hm=>(getM_mem g).elim λl hl=>spm9 l (List.mem_of_getElem? hl.1) (m,f) hl.2 hm
 noB:=λc C e n=>(c1_of (cls_chk st e).2.1).noB n
 noL:=λc C e n=>(c1_of (cls_chk st e).2.1).noL n
 cls:=λc C e=>(c1_of (cls_chk st e).2.1).get
 clsD:=λc C e=>(c1_of (cls_chk st e).2.1).dict
 clsO:=λc C e=>(c1_of (cls_chk st e).2.1).over
 clsS:=λc C e=>(c1_of (cls_chk st e).2.1).set
 clsM:=λc C e=>(c1_of (cls_chk st e).2.1).makes
 attr:=λc a C name e g en=>(c2_of (cls_chk st e).2.2.1 g en).1
 attrT:=λc a C name e g en=>(c2_of (cls_chk st e).2.2.1 g en).2
 err:=sndErr _
 intF:=λc C e=>(c3_of (cls_chk st e).2.2.2.1).intF
 seq:=λc C e=>(c3_of (cls_chk st e).2.2.2.1).seq
 isi1:=λk C e=>(c3_of (cls_chk st e).2.2.2.1).isi1
 isi2:=λb hb=>by
  have k:=List.all_eq_true.mp (stK_parts st).2.2.2.1 b (by rcases hb with rfl | rfl | rfl <;> decide)
  exact⟨eq_of_beq (ba k).1,eq_of_beq (ba k).2⟩
 isi3:=λc k C D e e'=>(c3_of (cls_chk st e).2.2.2.1).isi3 k D (cls_chk st e').1 e'
 own:=λc C e=>⟨(c3_of (cls_chk st e).2.2.2.1).own1,(c3_of (cls_chk st e).2.2.2.1).own2⟩
 own2:=⟨(stK_parts st).2.2.2.2.1,(stK_parts st).2.2.2.2.2.1⟩
 gl := λx g hg=>by
  have hm:=gl_mem hg
  have k:=List.all_eq_true.mp (stK_parts st).2.2.1 (x,g) hm
  have b:=List.all_eq_true.mp bb9 (x,g) hm
  cases g with
  | bi b'=>
   have b:=ba b
   exact⟨bval b',rfl, .inr ⟨eq_of_beq k,eq_of_beq b.1,λe=>by
    have z:=bn b.2
    rw [show((x,G.bi b').1:Str)=x from rfl,e,beq_self_eq_true] at z
    exact Bool.noConfusion z⟩⟩
  | cls c=>
   refine(anyS (k:((ca9 K c).map Value.ref).any (λv=>nsIn K mainGlobals x == some (some v))=true)).elim λv q=>⟨v,q.1, .inl (eq_of_beq q.2)⟩
  | fn c=>
   refine(anyS (k:((fa9 K c).map Value.ref).any (λv=>nsIn K mainGlobals x == some (some v))=true)).elim λv q=>⟨v,q.1, .inl (eq_of_beq q.2)⟩
 keepC:=λk C e=>(c3_of (cls_chk st e).2.2.2.1).keep
 keepF:=λk a e=>fn_chk st e
 cm :=λc m f C name g nc e en=>(meth_chk st g e en).elim λa q=>by
  have q2:=q.2
  rw [if_pos (show P09.cms.contains f=true from nc)] at q2
  exact(cm_of q2).elim λmc z=>z.elim λp z=>z.elim λrest z=>⟨a,mc,p,rest,q.1,z⟩
 plain:=λc C name e=>(c1_of (cls_chk st e).2.1).get
 ap:=ap9
end
noncomputable def ckI (i:Nat):Bool:=((srcBodies pw.main.body)[i]?).any λo=>o.any λr=>(fn09[i]?).any λq=>(fnOf q.1).all λfn=>ckB ⟨r.2.1.names,gl09,nm09⟩ fn.body r.2.2
theorem ckAll:(List.range fn09.length).all ckI=true:=by kernel_rfl
noncomputable def dOf (fd:FuncData) (body:List Stmt):FnData:=
 {name:=fd.name,qual:=fd.qualname,params:=fd.params,body:=body,scope:=fd.scope,dV:=fd.defaults,kV:=fd.kwdefaults,doc:=fd.doc,pm:=fd.pyModule,cdv:=fd.code,ct:=fd.closureTuple,an:=fd.annotations}
theorem dOf_fd {fd:FuncData}{body:List Stmt} (b:fd.body= .stmts body) (g:fd.globals=mainGlobals) (cl:fd.closure= []) (bl:fd.builtins=builtinsNs):(dOf fd body).fd=fd:=by
 obtain⟨n1,n2,ps,bd,sc,gl,cs,d1,d2,dc,pm,an,cd,ct,bs⟩:=fd
 dsimp only at b g cl bl
 subst b g cl bl
 rfl
noncomputable def plB (ps:Arguments) (sc:Scope) (f:Fn):Bool:=
 ps.posonlyargs.isEmpty && decide (ps.args.map (·.arg)=f.params) && ps.vararg.isNone && ps.kwonlyargs.isEmpty && ps.kwarg.isNone && decide f.params.Nodup &&
 !sc.isCoroutine && !sc.isGenerator && decide (sc.kind= .function) && decide (sc.names.map (·.1)).Nodup && sc.names.all (λx=>decide (x.2≠ .free)) &&
 (f.params.zip f.pix).all (λp=>(sc.names[p.2]?).any λq=>decide (q.1=p.1) && (decide (q.2= .local) || decide (q.2= .cell))) &&
 decide (f.pix.length=f.params.length) && decide (f.own=ownOf' 0 sc.names) && decide (f.nsl=sc.names.length) && decide (f.dflt.length<=f.params.length)
noncomputable def plI (i:Nat):Bool:=((srcBodies pw.main.body)[i]?).any λo=>o.any λr=>(fn09[i]?).any λq=>(fnOf q.1).all λfn=>plB r.1 r.2.1 fn
theorem plAll:(List.range fn09.length).all plI=true:=by kernel_rfl
structure PlB (ps:Arguments) (sc:Scope) (f:Fn):Prop where
 po:ps.posonlyargs= []
 ar:ps.args.map (·.arg)=f.params
 va:ps.vararg=none
 ko:ps.kwonlyargs= []
 ka:ps.kwarg=none
 nd0:f.params.Nodup
 co:sc.isCoroutine=false
 gen:sc.isGenerator=false
 kind:sc.kind= .function
 nd:(sc.names.map (·.1)).Nodup
 nofree: ∀x∈sc.names,x.2≠ .free
 pix: ∀ (j:Nat) (x:Str),f.params[j]? =some x->∃ (i:Nat) (k:NameKind),f.pix[j]? =some i/\sc.names[i]? =some (x,k)/\(k= .local\/k= .cell)
 pixl:f.pix.length=f.params.length
 own:f.own=ownOf' 0 sc.names
 nsl:f.nsl=sc.names.length
 dfl:f.dflt.length<=f.params.length
theorem none_of {α:Type}{o:Option α} (h:o.isNone=true):o=none:=by cases o with | none=>rfl | some _=>exact Bool.noConfusion h
theorem plB_ok {ps:Arguments}{sc:Scope}{f:Fn} (h:plB ps sc f=true):PlB ps sc f:=
 have h1:=ba h
 have h2:=ba h1.1
 have h3:=ba h2.1
 have h4:=ba h3.1
 have h5:=ba h4.1
 have h6:=ba h5.1
 have h7:=ba h6.1
 have h8:=ba h7.1
 have h9:=ba h8.1
 have h10:=ba h9.1
 have h11:=ba h10.1
 have h12:=ba h11.1
 have h13:=ba h12.1
 have h14:=ba h13.1
 have h15:=ba h14.1
 ⟨nil_of h15.1,dt h15.2,none_of h14.2,nil_of h13.2,none_of h12.2,dt h11.2,bn h10.2,bn h9.2,dt h8.2,dt h7.2,λx hx=>dt (List.all_eq_true.mp h6.2 x hx),λj x hx=>by
  have hj:j < f.pix.length:=(show f.pix.length=f.params.length from dt h4.2)▸(List.getElem?_eq_some_iff.mp hx).1
  have hi:=List.getElem?_eq_getElem hj
  have hm:(x,f.pix[j])∈f.params.zip f.pix:=List.mem_of_getElem? (i:=j) (List.getElem?_zip_eq_some.mpr ⟨hx,hi⟩)
  refine(anyS (List.all_eq_true.mp h5.2 _ hm)).elim λq hq=> ?_
  have z:=ba hq.2
  refine⟨f.pix[j],q.2,hi,hq.1.trans (congrArg some (Prod.ext (dt z.1) rfl)),(Bool.or_eq_true_iff.mp z.2).imp dt dt⟩,dt h4.2,dt h3.2,dt h2.2,dt h1.2⟩
noncomputable def objAt (h:Heap) (v:V) (x:Value):List (Addr × Obj):=if isT0 v then((refV x).bind λD=>(h.get? D).map λo=> [(D,o)]).getD [] else []
noncomputable def dflF (h:Heap) (K:Frag) (ds:List V) (dV:Value):List (Addr × Obj):=((refV dV).bind λT=>(K.lookup T).bind λo=>(seqV o).map λits=>(ds.zip its.toList).flatMap λp=>objAt h p.1 p.2).getD []
noncomputable def dfl9 (h:Heap) (K:Frag):List (Addr × Obj):=fn09.flatMap λq=>((fnOf q.1).bind λfn=>(fa9 K q.1).bind λa=>(funcAt K a).map λfd=>dflF h K fn.dflt fd.defaults).getD []
theorem T0_eq {v:V} (h:isT0 v=true):v= .tup []:=by
 cases v with
 | tup vs=>rw [nil_of (l:=vs) h]
 | _=>exact Bool.noConfusion h
theorem isNone_eq {v:V} (h:isNone v=true):v= .none:=by cases v <;> first | rfl | exact Bool.noConfusion h
theorem tupE_eq {o:Obj} (h:tupE o=true): ∃n,o=tupO #[] n:=by
 have h1:=ba h
 have h2:=ba h1.1
 have h3:=ba h2.1
 refine(anyS h2.2).elim λits z=>(seqV_eq z.1).elim λn e=>⟨n, ?_⟩
 obtain⟨c,d,dt,sl⟩:=o
 have e:dt= .seq its n:=e
 rw [e,show c= .type "tuple" from eq_of_beq h3.1,none_of (o:=d) h3.2,Array.isEmpty_iff.mp z.2,show sl= #[] from Array.isEmpty_iff.mp h1.2]
theorem chkD1_ok {h:Heap}{v:V}{x:Value} (c:chkD1 h v x=true):(v= .none/\x= .none)\/∃D n,v= .tup []/\x= .ref D/\h.get? D=some (tupO #[] n):=by
 unfold chkD1 at c
 by_cases hv:isNone v=true
 ·rw [if_pos hv] at c
  exact .inl ⟨isNone_eq hv,eq_of_beq c⟩
 ·rw [if_neg hv] at c
  have c:=ba c
  exact .inr ((anyS c.2).elim λD z=>(anyS z.2).elim λo y=>(tupE_eq y.2).elim λn e=>⟨D,n,T0_eq c.1,refV_eq z.1,e▸y.1⟩)
theorem objAt_eq {h:Heap}{D:Addr}{o:Obj} (e:h.get? D=some o):objAt h (.tup []) (.ref D)= [(D,o)]:=by
 show((h.get? D).map λo=> [(D,o)]).getD []=_
 rw [e];rfl
theorem dflF_eq {h:Heap}{K:Frag}{ds:List V}{dV:Value}{T:Addr}{o:Obj}{its:Array Value} (e1:refV dV=some T) (e2:K.lookup T=some o) (e3:seqV o=some its):dflF h K ds dV=(ds.zip its.toList).flatMap λp=>objAt h p.1 p.2:=by
 unfold dflF
 rw [e1]
 show((K.lookup T).bind _).getD []=_
 rw [e2]
 show((seqV o).map _).getD []=_
 rw [e3];rfl
section
variable {h:Heap}{K:Frag}{p:Program}{w:World}{pr:Program}{lo:List Str}{mg mb:Str->Option Value}{is:List Int}{T:Addr}
theorem chkD_ok {ds:List V}{dV:Value} (c:chkD h K ds dV=true):(dV= .none/\ds= [])\/∃T o its n,dV= .ref T/\K.lookup T=some o/\o.data= .seq its n/\its.toList.length=ds.length/\(∀q∈ds.zip its.toList,chkD1 h q.1 q.2=true)/\∀v x,(v,x)∈ds.zip its.toList->∀z∈objAt h v x,z∈dflF h K ds dV:=by
 unfold chkD at c
 by_cases hd:ds.isEmpty=true
 ·rw [if_pos hd] at c
  exact .inl ⟨eq_of_beq c,nil_of hd⟩
 ·rw [if_neg hd] at c
  refine .inr ((anyS c).elim λT y=>(anyS y.2).elim λo y2=>(anyS y2.2).elim λits y3=>(seqV_eq y3.1).elim λn e=>⟨T,o,its,n,refV_eq y.1,y2.1,e,dt (ba y3.2).1,λq hq=>List.all_eq_true.mp (ba y3.2).2 q hq,λv x hv z hz=> ?_⟩)
  rw [dflF_eq y.1 y2.1 y3.1]
  exact List.mem_flatMap.mpr ⟨_,hv,hz⟩
theorem bodyOf_eq {fd:FuncData}{r:Arguments × Scope × List Stmt} (h:bodyOf fd=some r): ∃b,fd.body= .stmts b/\r=(fd.params,fd.scope,b):=by
 unfold bodyOf at h
 cases e:fd.body with
 | stmts b=>rw [e] at h;exact⟨b,rfl,(Option.some.inj h).symm⟩
 | _=>rw [e] at h;exact nos h
theorem ck_at {i:Nat}{r:Arguments × Scope × List Stmt}{q:Nat × Option Nat × Str}{fn:Fn} (h:ckI i=true) (e1:(srcBodies pw.main.body)[i]? =some (some r)) (e2:fn09[i]? =some q) (e3:fnOf q.1=some fn):ckB ⟨r.2.1.names,gl09,nm09⟩ fn.body r.2.2=true:=by
 unfold ckI at h
 rw [e1,e2] at h
 have h:(fnOf q.1).all _=true:=h
 rw [e3] at h
 exact h
theorem fn9 (st:stK h K=true) (hb:bodies K=srcBodies pw.main.body):FnTr ((cx9 K p w pr lo mg mb (dfl9 h K) is T).pinned []):=λf fn a hf ha=>by
 have ha':fa9 K f=some a:=ha
 have hf':P09.fns[f]? =some (some fn):=hf
 have e:=ha'
 unfold fa9 at e
 refine(Option.bind_eq_some_iff.mp e).elim λq hq=> ?_
 have hf0:=List.find?_some (p:=λq:Nat × Option Nat × Str=>q.1 == f) hq.1
 have hqf:q.1=f:=eq_of_beq hf0
 have hm:=List.mem_of_find?_eq_some hq.1
 have k:chkFn h K q.1=true:=List.all_eq_true.mp (stK_parts st).2.1 q hm
 rw [hqf] at k
 refine(anyS k).elim λa' z=> ?_
 obtain rfl:a'=a:=Option.some.inj (z.1.symm.trans ha')
 refine(anyS (ba z.2).2).elim λfd y=> ?_
 have y1:=ba y.2
 have y2:=ba y1.1
 have y3:=ba y2.1
 have y4:=ba y3.1
 refine(List.mem_iff_getElem?.mp hm).elim λi hi=> ?_
 have hlt:=(List.getElem?_eq_some_iff.mp hi).1
 have p1:=List.all_eq_true.mp plAll i (List.mem_range.mpr hlt)
 have p2:=List.all_eq_true.mp ckAll i (List.mem_range.mpr hlt)
 refine(anyS p1).elim λob p1=>(anyS p1.2).elim λr p3=>(anyS p3.2).elim λq' p4=> ?_
 have hq':q'=q:=Option.some.inj (p4.1.symm.trans hi)
 have hfn:fnOf f=some fn:=by unfold fnOf;rw [hf'];rfl
 have hB:ob=(bodyOf fd):=Option.some.inj (p1.1.symm.trans (by
  rw [<- hb]
  unfold bodies
  rw [List.getElem?_map,hi]
  show some ((fa9 K q.1).bind _)=_
  rw [hqf,ha']
  show some ((funcAt K a').bind _)=_
  rw [y.1]
  rfl))
 refine(bodyOf_eq (hB▸p3.1)).elim λb hbd=> ?_
 have P:PlB fd.params fd.scope fn:=by
  have z:=p4.2
  rw [hq',hqf,hfn,hbd.2] at z
  exact plB_ok z
 have p2:=ck_at p2 (show(srcBodies pw.main.body)[i]? =some (some r) by rw [p1.1,p3.1]) hi (hqf.symm▸hfn)
 rw [hbd.2] at p2
 have hbd:=hbd.1
 ·skip
  have efd:(dOf fd b).fd=fd:=dOf_fd hbd (eq_of_beq y4.1) (nil_of y4.2) (eq_of_beq y3.2)
  have hd:=y1.2
  rw [hfn] at hd
  refine⟨dOf fd b,⟨(funcAt_obj y.1).imp λo ho=>⟨ho.1,efd.symm▸ho.2⟩,y2.2,⟨efd.symm▸P.po,efd.symm▸P.ar,efd.symm▸P.va,efd.symm▸P.ko,efd.symm▸P.ka,P.nd0⟩,P.co,P.gen,P.kind,P.nd,P.nofree,P.pix,P.pixl,P.own,P.nsl,P.dfl, ?_⟩,p2⟩
  refine(chkD_ok hd).imp id λh=>h.imp λT h=>h.imp λo h=>h.imp λits h=>h.imp λn h=>⟨h.1,h.2.1,h.2.2.1,λ φ news D=> .of_get h.2.2.2.1.symm λj v x e1 e2=> ?_⟩
  have hz:(v,x)∈fn.dflt.zip its.toList:=List.mem_of_getElem? (i:=j) (List.getElem?_zip_eq_some.mpr ⟨e1,e2⟩)
  have h2:(v= .none/\x= .none)\/∃D n,v= .tup []/\x= .ref D/\_=some (tupO #[] n):=chkD1_ok (h.2.2.2.2.1 _ hz)
  refine h2.elim (λe=>by rw [e.1,e.2];exact .none) λe=>e.elim λDa e=>e.elim λm e=> ?_
  have hmem:=h.2.2.2.2.2 v x hz (Da,tupO #[] m) (by
   rw [e.1,e.2.1,objAt_eq e.2.2]
   exact .head _)
  rw [e.1,e.2.1]
  refine .tup (D.d (Da,tupO #[] m) (List.mem_flatMap.mpr ⟨q,hm, ?_⟩)).1 .nil
  rw [hqf,hfn,ha']
  show(Da,tupO #[] m)∈((funcAt K a').map λfd=>dflF _ K fn.dflt fd.defaults).getD []
  rw [y.1]
  exact hmem
theorem dfl9_obj (st:stK h K=true) {q:Addr × Obj} (hq:q∈dfl9 h K):h.get? q.1=some q.2/\∃n,q.2=tupO #[] n:=by
 refine(List.mem_flatMap.mp hq).elim λr hr=> ?_
 have k:chkFn h K r.1=true:=List.all_eq_true.mp (stK_parts st).2.1 r hr.1
 refine(anyS k).elim λa z=> ?_
 refine(anyS (ba z.2).2).elim λfd y=> ?_
 have hr2:=hr.2
 have hd:=(ba y.2).2
 cases hf:fnOf r.1 with
 | none=>rw [hf] at hr2;exact nomatch hr2
 | some fn=>
  rw [hf,z.1] at hr2
  rw [hf] at hd
  have hr2:q∈((funcAt K a).map λfd=>dflF h K fn.dflt fd.defaults).getD []:=hr2
  rw [y.1] at hr2
  have hr2:q∈dflF h K fn.dflt fd.defaults:=hr2
  refine(chkD_ok hd).elim (λe=> ?_) λe=>e.elim λT e=>e.elim λo e=>e.elim λits e=>e.elim λn e=> ?_
  ·rw [e.1] at hr2;exact nomatch hr2
  ·rw [e.1,dflF_eq (T:=T) rfl e.2.1 (by unfold seqV;rw [e.2.2.1])] at hr2
   refine(List.mem_flatMap.mp hr2).elim λvx hv=>(chkD1_ok (e.2.2.2.2.1 _ hv.1)).elim (λc=> ?_) λc=>c.elim λD c=>c.elim λm c=> ?_
   ·have h2:=hv.2
    rw [c.1] at h2;exact nomatch h2
   ·have h2:=hv.2
    rw [c.1,c.2.1,objAt_eq c.2.2] at h2
    exact(List.mem_singleton.mp h2)▸⟨c.2.2,m,rfl⟩
end
noncomputable def runX {α:Type} (f:Heap->Shared->α) (w:World) (os:OsState):Option (Code × α) :=
 match segRunT treeTable pw w 11 ann6 1 5100 (sB w os) (piecesOf bT envT cT z0 [topFrame z0]) with
 | some (.next,s',c,p)=>(topRun treeTable pw w 11 ann6 2 s'.abs ⟨doneF .next,c,p,[topFrame z0]⟩).map λs₁=>(c,f (boot_heap w.params) s₁)
 | _=>none
theorem runX_top {α:Type}{f:Heap->Shared->α}{w:World}{os:OsState}{r:α} (h:runX f w os=some (cT,r)) :
 ∃s₁,topRun treeTable pw w 11 ann6 (12 + (1 + (5100 + 2))) (sS w os) (topStub pw)=some s₁/\f (boot_heap w.params) s₁=r:=by
 unfold runX at h
 cases hs:segRunT treeTable pw w 11 ann6 1 5100 (sB w os) (piecesOf bT envT cT z0 [topFrame z0]) with
 | none=>rw [hs] at h;exact nos h
 | some q=>
  rw [hs] at h
  obtain⟨f,s',c,p⟩:=q
  cases f with
  | next=>
   obtain⟨s₁,h1,h2⟩:=Option.map_eq_some_iff.mp h
   obtain⟨h2,h3⟩:=Prod.mk.inj h2
   subst h2
   refine⟨s₁,go_top (preT w os) (piece_block (blockT w os) ?_),h3⟩
   have:=piece_app (rest:= []) (segRun_of hs) (piece_nil h1)
   rw [List.append_nil] at this
   exact this
  | _=>exact nos h
noncomputable def qv:Program:=view pw [13]
noncomputable def loose9:List Str:= [Str.ofString "_wall",Str.ofString "Members",Str.ofString "kind_name",Str.ofString "Interval",Str.ofString "Node",Str.ofString "IntervalTree",Str.ofString "_law_at",Str.ofString "_law_key",Str.ofString "_law_row"]
noncomputable abbrev row9:=PySem.Challenge.rw_ji0043_09.row
noncomputable def lookF (h0:Heap) (s:Shared):=topLooks qv loose9 (λs=>xlAt qv [] s && recOk (RowW.records row9.toRowW) s) h0 s
noncomputable def obsF (h0:Heap) (s:Shared):=(lookF h0 s,stB s.heap,bodies (K9 s.heap))
noncomputable def GX (w:World) (os:OsState):=runX obsF w os
noncomputable def GY (_:World) (_:OsState):=some (cT,(true,openGood qv loose9),true,srcBodies pw.main.body)
noncomputable def konst {β:Type} (_ _:World->OsState->β):Bool:=true
noncomputable def twins.tw9582888551417452512:Program:=PySem.Challenge.pw_ji0043_09
theorem twins.te9582888551417452512:PySem.Challenge.pw_ji0043_09=twins.tw9582888551417452512:=rfl
noncomputable def twins.tw1697896691836703435:=@pw
theorem twins.te1697896691836703435:@pw=twins.tw1697896691836703435:=rfl
noncomputable def twins.tw4208967969353725209:=@ann6
theorem twins.te4208967969353725209:@ann6=twins.tw4208967969353725209:=rfl
noncomputable def twins.tw1878164113307326236:=@sB
theorem twins.te1878164113307326236:@sB=twins.tw1878164113307326236:=rfl
noncomputable def twins.tw7324618402245772688:=@bT
theorem twins.te7324618402245772688:@bT=twins.tw7324618402245772688:=rfl
noncomputable def twins.tw7376247480623600842:=@envT
theorem twins.te7376247480623600842:@envT=twins.tw7376247480623600842:=rfl
noncomputable def twins.tw18400283056454002259:=@cT
theorem twins.te18400283056454002259:@cT=twins.tw18400283056454002259:=rfl
noncomputable def twins.tw560896445460411579:=@z0
theorem twins.te560896445460411579:@z0=twins.tw560896445460411579:=rfl
noncomputable def twins.tw9807010923073962754:=@stB
theorem twins.te9807010923073962754:@stB=twins.tw9807010923073962754:=rfl
noncomputable def twins.tw14602825679307952563:=@bodies
theorem twins.te14602825679307952563:@bodies=twins.tw14602825679307952563:=rfl
noncomputable def twins.tw11659399143603397962:=@K9
theorem twins.te11659399143603397962:@K9=twins.tw11659399143603397962:=rfl
noncomputable def twins.tw4761900498754484221:=@topLooks
theorem twins.te4761900498754484221:@topLooks=twins.tw4761900498754484221:=rfl
noncomputable def twins.tw7426735657593904560:=@srcBodies
theorem twins.te7426735657593904560:@srcBodies=twins.tw7426735657593904560:=rfl
set_option Elab.async true in
theorem twins:(konst GX GY && ((chainsOk qv && opensWell row9.prog && (frees row9.toRowW && row9.within.isEmpty)) && PySem.Challenge.rw_ji0043_09.wellSaid))=true:=by k_qdec
theorem bigT (w:World) (os:OsState):twins.tw14925049552306915712 w os=twins.tw10670983971455339231 w os:=by kernel_rfl
theorem big (w:World) (os:OsState):GX w os=GY w os:=
 (congrFun (congrFun twins.te14925049552306915712 w) os).trans ((bigT w os).trans (congrFun (congrFun twins.te10670983971455339231 w) os).symm)
noncomputable def once:List (Addr × Obj)->List (Addr × Obj)
 | []=> []
 | q :: r=>if r.any (λp=>p.1 == q.1) then once r else q :: once r
theorem once_sub {q:Addr × Obj} (l:List (Addr × Obj)):q∈once l->q∈l:=by
 induction l with
 | nil=>exact id
 | cons p r ih=>
  unfold once
  intro h
  by_cases c:r.any (λz=>z.1 == p.1)=true
  ·rw [if_pos c] at h;exact .tail _ (ih h)
  ·rw [if_neg c] at h;exact(List.mem_cons.mp h).elim (λe=>e▸ .head _) λh=> .tail _ (ih h)
theorem once_all (l:List (Addr × Obj)):(∀p∈l,∀q∈l,p.1=q.1->p=q)->∀q∈l,q∈once l:=by
 induction l with
 | nil=>intro _ q h;exact h
 | cons p r ih=>
  intro hf q hq
  have ih:=ih λa ha b hb=>hf a (.tail _ ha) b (.tail _ hb)
  unfold once
  by_cases c:r.any (λz=>z.1 == p.1)=true
  ·rw [if_pos c]
   rcases List.mem_cons.mp hq with rfl | hq
   ·refine(List.any_eq_true.mp c).elim λz hz=> ?_
    rw [hf q (.head _) z (.tail _ hz.1) (eq_of_beq hz.2).symm]
    exact ih z hz.1
   ·exact ih q hq
  ·rw [if_neg c]
   exact(List.mem_cons.mp hq).elim (λe=>e▸ .head _) λhq=> .tail _ (ih q hq)
theorem once_nd (l:List (Addr × Obj)):((once l).map (·.1)).Nodup:=by
 induction l with
 | nil=>exact List.nodup_nil
 | cons p r ih=>
  unfold once
  by_cases c:r.any (λz=>z.1 == p.1)=true
  ·rw [if_pos c];exact ih
  ·rw [if_neg c,List.map_cons,List.nodup_cons]
   refine⟨λhm=>(List.mem_map.mp hm).elim λq hq=>c (List.any_eq_true.mpr ⟨q,once_sub r hq.1,beq_iff_eq.mpr hq.2⟩),ih⟩
noncomputable def def9:DefRec × List (Str × Expr):=((defOf qv (Str.ofString "law")).getD (⟨Str.ofString "",⟨[],[],none,[],[],none,[]⟩,[],default,default⟩,[]))
noncomputable def YP9 (_:World) (h:Heap):Prop:=∃h0,stB h0=true/\bodies (K9 h0)=srcBodies pw.main.body/\∀b o,h0.get? b=some o->h.get? b=some o
theorem name9:def9.1.name=Str.ofString "law" :=by kernel_rfl
theorem find9:fn09.find? (λq=>q.1 == 112)=some (112,none,Str.ofString "law"):=by kernel_rfl
theorem mem9:(112,none,Str.ofString "law")∈fn09:=List.mem_of_find?_eq_some find9
section
variable {h h0:Heap}
noncomputable abbrev hid9 (h h0:Heap):Heap:=hideAll h ((dfl9 h0 (K9 h0)).map (·.1))
theorem hid_get (st:stB h0=true) (kp: ∀b o,h0.get? b=some o->h.get? b=some o) {b:Addr}{o:Obj} (e:h.get? b=some o) (hn: ∀n,o≠tupO #[] n):(hid9 h h0).get? b=some o:=
 hideAll_get _ e λm=>(List.mem_map.mp m).elim λq hq=>(dfl9_obj (h:=h0) (K:=K9 h0) st hq.1).2.elim λn hn'=>hn n (by
  have z:=kp _ _ (dfl9_obj (h:=h0) (K:=K9 h0) st hq.1).1
  rw [hq.2,e] at z
  exact(Option.some.inj z).trans hn')
theorem hid_ns (st:stB h0=true) (kp: ∀b o,h0.get? b=some o->h.get? b=some o) {a:Addr}{mm:Str->Option Value} (x:h.Ns a mm):(hid9 h h0).Ns a mm:=
 let ⟨o,es,ep,e,hd,r⟩:=x;⟨o,es,ep,hid_get st kp e (λn q=>by rw [q] at hd;cases hd),hd,r⟩
theorem hid_K (st:stB h0=true) (kp: ∀b o,h0.get? b=some o->h.get? b=some o):(K9 h0).In (hid9 h h0):=λa o e=>hid_get st kp (kp _ _ (K9_in h0 a o e)) λn q=>by
 have k:=(kFrom_in h0.objs.toList 0 a o e).2.2
 rw [q] at k
 exact Bool.noConfusion k
end
theorem noR {α:Type}{a:α}{h:Hp} (e:Res.no= .ok a h):False:=nomatch e
noncomputable def Main9:Prop:=∀is:List Int,is.length<=63->∃n H',n<=40/\run (n + 1) (P9 is) 112 [] [.scr] [] []= .ok (.bool true) H'
theorem ints_rel {xs:List Value}{is:List Int} (h:IntsAre xs is):All2 (λi v=>∃t,v=Value.int i t) is xs:=by
 induction h with
 | nil=>exact .nil
 | cons _ _ _ ih=>exact .cons ⟨_,rfl⟩ ih
theorem post9 (is:List Int):row9.claim.post [ofPy (PyData.list (List.map PyData.int is))] (WData.bool true) [ofPy (PyData.list (List.map PyData.int is))]=true:=by
 kernel_rfl
set_option tactic.hygienic true in
theorem walk9 (main:Main9):WalkO qv loose9 (XL qv []) YP9 row9.toRowW def9.1 def9.2 λf vs=>PySem.call f vs:=by
 intro w s₀ s₁ mg mb G Y a o pm cd doc dV kV ho hd hcd hD hmg hg args vals as hpre hlay hrd hwl hlo
 wrow_args hpre hlay hrd hwl hlo
 rename_i is _ _ _ _ _ _ _ T xs _ hL _ _ _ hI _ hlen _
 refine enter_call ?_
 refine Ground.open G ?_
 intro TT B D TE TW
 obtain⟨h0,st,hb,kp⟩:=Y
 have hlen:is.length<=63:=by lia
 obtain⟨n,H2,hn,hrun⟩:=main is hlen
 have K1:(K9 h0).In s₁.heap:=λa o e=>kp _ _ (K9_in h0 a o e)
 have hfa:fa9 (K9 h0) 112=some a:=by
  refine(anyS (List.all_eq_true.mp (stK_parts (h:=h0) st).2.1 _ mem9:chkFn h0 (K9 h0) 112=true)).elim λa' z=> ?_
  have e:=z.1
  unfold fa9 at e
  rw [find9] at e
  have e:refIn (nsIn (K9 h0) mainGlobals (Str.ofString "law"))=some a':=e
  have e2:nsIn (K9 h0) mainGlobals (Str.ofString "law")=some (some (.ref a')):=by
   cases q:nsIn (K9 h0) mainGlobals (Str.ofString "law") with
   | none=>rw [q] at e;exact nos e
   | some v=>cases v with
    | none=>rw [q] at e;exact nos e
    | some v=>cases v <;> first | (rw [q] at e;exact nos e) | (rw [q] at e;rw [Option.some.inj e])
  have e3:=mg_of K1 TT.g e2
  rw [name9,e3] at hmg
  rw [z.1]
  exact congrArg some (Value.ref.inj (Option.some.inj hmg))
 let Θ:Cx:=cx9 (K9 h0) pw w qv (looseW qv loose9) mg mb (dfl9 h0 (K9 h0)) is T
 have st6:Stat6 Θ:=stat9 (h:=h0) st
 have hfn:FnTr (Θ.pinned []):=fn9 (h:=h0) st hb
 have hyp:=snd_fns (Θ:=Θ) st6 (stK_parts (h:=h0) st).2.2.2.2.2.2 hfn n
 obtain⟨d,ok,hck⟩:=hfn 112 f112 a rfl hfa
 have tr:=topRead_of TT
 have top:TopIn Θ (hid9 s₁.heap h0):=⟨hid_K st kp,λa' e=>by
  obtain rfl:T=a':=Option.some.inj e
  refine⟨xs.toArray,hL.imp λo h=>⟨hid_get st kp h.1 (λn q=> ?_),h.2⟩,ints_rel hI, ?_⟩
  ·have:=h.2.1
   rw [q] at this
   exact absurd (Value.type.inj this) (by decide)
  ·have:=(ints_rel hI).length
   rw [List.size_toArray]
   lia,hid_ns st kp tr.g,hid_ns st kp tr.b,let ⟨mc,a,r⟩:=tr.nolimit;⟨mc,hid_ns st kp a,r⟩,tr.builtins,tr.free⟩
 have hsub: ∀ {q:Addr × Obj},q∈once (dfl9 h0 (K9 h0))->q∈dfl9 h0 (K9 h0):=λ {q}=>once_sub _
 have hobj: ∀q∈dfl9 h0 (K9 h0),s₁.heap.get? q.1=some q.2/\frz0 q.2=true:=λq hq=>(dfl9_obj (h:=h0) (K:=K9 h0) st hq).2.elim λm e=>⟨kp _ _ (dfl9_obj (h:=h0) (K:=K9 h0) st hq).1,by rw [e];rfl⟩
 have hall:=once_all (dfl9 h0 (K9 h0)) λp hp q hq e=>Prod.ext e (Option.some.inj ((hobj p hp).1.symm.trans (e▸(hobj q hq).1)))
 have in0:In0 Θ [] [] (once (dfl9 h0 (K9 h0))) s₁.heap:=⟨K1,tr.nolimit,λq hq=>(hobj q (hsub hq)).1,once_nd _,⟨rfl,λl o p e=>(nomatch e),λl l' p p' e=>(nomatch e)⟩,⟨λq hq=>⟨hall q hq,(hobj q hq).2⟩,λq hq=>nomatch hq⟩⟩
 have grd:Grd0 Θ callerA (once (dfl9 h0 (K9 h0))) s₁.heap ⟨hid9 s₁.heap h0,[]⟩ (hid9 s₁.heap h0) [] :=
  ⟨below_caller _,rfl,rfl,top,hideAll_size _ _,λb o e=>of_hideAll _ e,λq hq=>hideAll_none _ (List.mem_map_of_mem (hsub hq))⟩
 have room:RoomC callerA (n + 1) Θ.P.hd:=⟨by
  have:callerA.depth + 253 < recursionLimit:=by decide +kernel
  lia,by
  have:callerA.units + 1915 < cLine:=by decide +kernel
  lia,λ_=>rfl⟩
 refine call_core (Θ:=Θ) (fn:=f112) (args:= [.scr]) (vs:= [.scr]) (kw:= []) ok room in0 grd (.cons (.scr rfl) .nil) ⟨rfl, .nil⟩ rfl λ ρ H' φ' news' m' s' hent pre sub eg eo at_=> ?_
 refine(ckB_ok hyp.1 hyp.2 (env_of ok _) hck).1 at_ ?_
 have hrun:noEx (M.bind (enter f112 [] [.scr]) λ ρ=>M.bind (exs (run n (P9 is)) (run n (hP (P9 is))) (P9 is) f112.body ρ) λr=>pure (flV r.1)) []= .ok (.bool true) H2:=hrun
 unfold noEx M.bind at hrun
 rw [hent] at hrun
 dsimp only at hrun
 have keep: ∀ {gn':Array GenState}{g':Gd}{L':Addr}{m2:Str->Option Value}{φ2:Phi}{H3:Hp}{news2:Nws}{h2:Heap}{A:Option (List Env)},TurnG s'.gens gn' ⟨hid9 s₁.heap h0,[]⟩ g'->Stt Θ A g' L' m2 φ2 H3 news2 h2->Ext φ' news' φ2 news2->∀b o,s₁.heap.get? b=some o->h2.get? b=some o:=λ {gn' g' L' m2 φ2 H3 news2 h2 A} T' S' x' b o e=>by
  by_cases hb:b∈(dfl9 h0 (K9 h0)).map (·.1)
  ·refine(List.mem_map.mp hb).elim λq hq=> ?_
   have z:=(S'.nw q (x'.frz q (sub q (hall q hq.1)) (by unfold kept;rw [(hobj q hq.1).2];rfl))).1
   rw [hq.2] at z
   rw [z, <- e, <- hq.2,(hobj q hq.1).1]
  ·exact S'.fr.keep _ _ (T'.t.2.other b o (hideAll_get _ e hb) (λh=>nomatch h))
 cases hr:exs (run n (P9 is)) (run n (hP (P9 is))) (P9 is) f112.body ρ H' with
 | no=>rw [hr] at hrun;exact(noR hrun).elim
 | ex H''=>rw [hr] at hrun;exact(noR hrun).elim
 | ok r H''=>
  rw [hr] at hrun
  obtain⟨fl,ρ'⟩:=r
  intro gn' dr' g' m2 φ'' news'' h'' tk'' flow T' S' x' r'
  cases fl with
  | nx=>exact V.noConfusion (Res.okI hrun).1
  | rt v=>
   obtain rfl:v= .bool true:=(Res.okI hrun).1
   refine(show∃p,flow= .ret p/\RI Θ φ'' news'' (.bool true) p from r'.1).elim λp e=> ?_
   have ep:p= .bool true:=e.2.inv (λr=>r.inv) λl e=>V.noConfusion e
   rw [e.1,ep]
   exact⟨.inl ⟨.bool true, .bool true,[],rfl,λ_=>rfl, .bool true,post9 is,λ_=>⟨.nil,λ_ h=>nomatch h⟩⟩, .of_keep (keep T' S' x'),eo,T'.b (by rw [eg,hg];exact .empty)⟩
noncomputable abbrev Yf9 (s:Shared):=(stB s.heap,bodies (K9 s.heap))
noncomputable abbrev Ya9 (_:World):=(true,srcBodies pw.main.body)
theorem left9:LeftO pw qv loose9 (λs=>xlAt qv [] s && recOk (RowW.records row9.toRowW) s) Yf9 Ya9 5115:=by
 refine left_mine (M:=12 + (1 + (5100 + 2))) (m₀:=11) (ann:=ann6) (boot_open (p:=pw) (by kernel_rfl) (by kernel_rfl) (λs=>by kernel_rfl)) (λw=>by kernel_rfl) (by kernel_rfl) (λw os=> ?_)
 obtain⟨s₁,h1,h2⟩:=runX_top (f:=obsF) (big w os)
 exact⟨s₁,h1,congrArg Prod.fst h2,congrArg Prod.snd h2⟩
theorem hdef9:defOf qv row9.name=some (def9.1,def9.2):=by kernel_rfl
theorem hp9:row9.prog.theDef row9.name=some (def9.1.params,def9.1.body,def9.1.scope):=by kernel_rfl
theorem hk9:kwWritten? def9.1.params.kwonlyargs def9.1.params.kw_defaults=some def9.2:=by kernel_rfl
theorem ok9:(chainsOk qv && opensWell row9.prog && (frees row9.toRowW && row9.within.isEmpty))=true:=(Bool.and_eq_true_iff.mp (Bool.and_eq_true_iff.mp twins).2).1
theorem bare9:row9.prog.bare:=⟨by kernel_rfl,by kernel_rfl,by kernel_rfl,by kernel_rfl,by kernel_rfl,by decide +kernel⟩
theorem prom9:PySem.Challenge.rw_ji0043_09.row.toRowW.promised:=by w_witness2
theorem row_law9:PySem.Challenge.rw_ji0043_09.wellSaid=true:=(Bool.and_eq_true_iff.mp (Bool.and_eq_true_iff.mp twins).2).2
theorem said9:row9.wellSaid=true:=row_said row_law9
theorem head9 (walk:WalkO qv loose9 (XL qv []) YP9 row9.toRowW def9.1 def9.2 λf vs=>PySem.call f vs):row9.Holds:=by
 refine holds_open left9 (λw s e=>⟨s.heap,congrArg Prod.fst e,congrArg Prod.snd e,λ_ _ e=>e⟩) (λw h h' y k=>y.imp λh0 y=>⟨y.1,y.2.1,λb o e=>k _ _ (y.2.2 b o e)⟩) (λs e=>xl_of s (Bool.and_eq_true_iff.mp e).1) XL.keeps hdef9 hp9 hk9 (λs e=>recFacts_of (Bool.and_eq_true_iff.mp e).2) (by kernel_rfl) said9 ok9 bare9 prom9 walk
theorem law9 (main:Main9):PySem.Challenge.rw_ji0043_09.Holds:=holds_law (row_law9) λ_=>head9 (walk9 main)
noncomputable def wq {α:Type} (m:M α) (H:Hp) (Q:α->Hp->Prop):Prop:=match m H with
 | .ok a H'=>Q a H'
 | _=>False
theorem exR {α:Type}{a:α}{h g:Hp} (e:Res.ex g= .ok a h):False:=nomatch e
theorem qB {α β:Type}{H:Hp}{Q:β->Hp->Prop}{m:M α}{f:α->M β} (h:wq m H λa H'=>wq (f a) H' Q):wq (m >>= f) H Q:=by
 unfold wq at h ⊢
 show(match M.bind m f H with | .ok a H'=>Q a H' | _=>False)
 unfold M.bind
 cases e:m H with
 | ok a H'=>rw [e] at h;exact h
 | ex H'=>rw [e] at h;exact h
 | no=>rw [e] at h;exact h
theorem qUB {α β:Type}{H:Hp}{Q:β->Hp->Prop}{m:M α}{f:α->M β} (h:wq (m >>= f) H Q):wq m H λa H'=>wq (f a) H' Q:=by
 have h:(match M.bind m f H with | .ok a H'=>Q a H' | _=>False):=h
 unfold M.bind at h
 unfold wq
 cases e:m H with
 | ok a H'=>rw [e] at h;exact h
 | ex H'=>rw [e] at h;exact h
 | no=>rw [e] at h;exact h
theorem qMono {α:Type}{H:Hp}{Q Q':α->Hp->Prop}{m:M α} (h:wq m H Q) (k: ∀a H',Q a H'->Q' a H'):wq m H Q':=by
 unfold wq at h ⊢
 cases e:m H with
 | ok a H'=>rw [e] at h;exact k _ _ h
 | ex H'=>rw [e] at h;exact h
 | no=>rw [e] at h;exact h
theorem wqQ {α:Type}{H:Hp}{Q0:α->Hp->Prop}{m:M α} (h: ∀Q:α->Hp->Prop,(∀v H',Q0 v H'->Q v H')->wq m H Q):wq m H Q0:=h Q0 λ_ _ h=>h
theorem qNoEx {α:Type}{H:Hp}{Q:α->Hp->Prop}{m:M α} (h:wq m H Q):wq (noEx m) H Q:=by
 unfold wq noEx at *
 cases e:m H with
 | ok a H'=>rw [e] at h;exact h
 | ex H'=>rw [e] at h;exact h
 | no=>rw [e] at h;exact h
theorem qOk {α:Type}{H:Hp}{Q:α->Hp->Prop}{m:M α}{a:α}{H':Hp} (e:m H= .ok a H') (k:Q a H'):wq m H Q:=by unfold wq;rw [e];exact k
theorem qEx {α:Type}{H:Hp}{Q:α->Hp->Prop}{m:M α} (h:wq m H Q): ∃a H',m H= .ok a H'/\Q a H':=by
 unfold wq at h
 cases e:m H with
 | ok a H'=>rw [e] at h;exact⟨a,H',rfl,h⟩
 | ex H'=>rw [e] at h;exact h.elim
 | no=>rw [e] at h;exact h.elim
theorem qGet {β:Type}{l:Nat}{o:O}{f:O->M β}{H:Hp}{Q:β->Hp->Prop} (g:H[l]? =some o) (k:wq (f o) H Q):wq (getO l >>= f) H Q:=qB (qOk (by unfold getO;rw [g]) k)
theorem qO {α β:Type}{o:Option α}{a:α}{f:α->M β}{H:Hp}{Q:β->Hp->Prop} (e:o=some a) (k:wq (f a) H Q):wq (ofO o >>= f) H Q:=by rw [e];exact k
theorem qPur {α:Type}{m:M α}{H:Hp}{a:α} (h:wq m H λb H'=>b=a/\H'=H):m H= .ok a H:=by
 obtain⟨b,H',e,rfl,rfl⟩:=qEx h
 exact e
theorem qChk {m:M V}{H:Hp}{Q:V->Hp->Prop} (h:wq m H λr H2=>vIt r=none/\Q r H2):wq (m >>= chkIt) H Q:=qB (qMono h λr H1 h=>by unfold chkIt;rw [h.1];exact h.2)
structure Kx where
 C:CallT
 P:Prog
 ρ:Lo
 H:Hp
theorem okB {α β:Type}{m:M α}{f:α->M β}{H H1:Hp}{a:α}{r:Res β} (h:m H= .ok a H1) (k:f a H1=r):(m >>= f) H=r:=by
 show M.bind m f H=r
 unfold M.bind;rw [h];exact k
theorem okG {β:Type}{l:Nat}{o:O}{f:O->M β}{H:Hp}{r:Res β} (g:H[l]? =some o) (k:f o H=r):(getO l >>= f) H=r:=okB (by unfold getO;rw [g]) k
noncomputable def attrOf (P:Prog) (c a:Nat) (l:List (Nat × V)):Option V:=if P.isAt c a then l.lookup a else none
noncomputable def methP (P:Prog) (c m:Nat) (l:List (Nat × V)):Option Nat:=(P.getM c m).bind λf=>if P.cms.contains f || (l.lookup m).isSome then none else some f
noncomputable def PC (op:CmpOp) (x y:V) (b:Bool):Prop:=∀ (C:CallT) (P:Prog) (H:Hp),cmpOp C P op x y H= .ok (.bool b) H
inductive JJ where
 | e (x:X) (v:V) | l (xs:List X) (vs:List V) | t (x:X) (b:Bool) | r (v:V) (b:Bool) | c (op:CmpOp) (x y:V) (b:Bool)
noncomputable def JJ.Says (K:Kx):JJ->Prop
 | .e x v=>ev K.C K.P x K.ρ K.H= .ok v K.H
 | .l xs vs=>evs K.C K.P xs K.ρ K.H= .ok vs K.H
 | .t x b=>evT K.C K.P x K.ρ K.H= .ok b K.H
 | .r v b=>truthy K.C K.P v K.H= .ok b K.H
 | .c op x y b=>PC op x y b
noncomputable def Pi (K:Kx) (j:JJ):Prop:=j.Says K
theorem Pi.ok {K:Kx}{j:JJ} (h:Pi K j):j.Says K:=h
section
variable {K:Kx}{x y v:V}{r q:Bool}
theorem peqI (a b:Int):peq (.int a) (.int b)=some (decide (a=b)):=rfl
theorem cEq (hx:vRef x=none) (h:peq x y=some r):PC .Eq x y r:=λC P H=>by
 unfold cmpOp eqv clsOf
 rw [hx,h];rfl
theorem cNe (hx:vRef x=none) (h:peq x y=some r):PC .NotEq x y (!r):=λC P H=>by
 unfold cmpOp eqv clsOf
 rw [hx,h];rfl
theorem cLG (g:Bool) (hx:vRef x=none) (hy:vRef y=none) (h:pord g x y= .val r):PC (if g then .Gt else .Lt) x y r:=λC P H=>by
 have z:ltv g C P x y H= .ok r H:=by
  unfold ltv clsOf
  rw [hx,hy]
  show ofLtR P (pord g x y) H=_
  rw [h];rfl
 cases g <;> exact okB z rfl
theorem cLt (hx:vRef x=none) (hy:vRef y=none) (h:pord false x y= .val r):PC .Lt x y r:=cLG false hx hy h
theorem cGt (hx:vRef x=none) (hy:vRef y=none) (h:pord true x y= .val r):PC .Gt x y r:=cLG true hx hy h
theorem methP_ok {P:Prog}{c m f:Nat}{l:List (Nat × V)}{H:Hp}{o:Nat} (g:H[o]? =some (.inst c l)) (h:methP P c m l=some f):methOf P (.ref o) m H= .ok (.fn f (.ref o)) H:=by
 refine okG g (show(ofO (P.getM c m) >>= λf=>if(P.cms.contains f || (l.lookup m).isSome)=true then stuck else pure (Mt.fn f (.ref o)):M Mt) H=_ from ?_)
 refine(Option.bind_eq_some_iff.mp h).elim λf' e=> ?_
 have e2:=e.2
 refine okB (a:=f') (by rw [e.1];rfl) ?_
 by_cases z:(P.cms.contains f' || (l.lookup m).isSome)=true
 ·rw [if_pos z] at e2;exact nos e2
 ·rw [if_neg z] at e2
  show(if(P.cms.contains f' || (l.lookup m).isSome)=true then stuck else pure (Mt.fn f' (.ref o)):M Mt) H=_
  rw [if_neg z,Option.some.inj e2];rfl
theorem oB {o:Option V} (h:o=some v):ofO o K.H= .ok v K.H:=by rw [h];rfl
theorem chkN {m:M V} (z:m K.H= .ok v K.H) (zi:vIt v=none):(m >>= chkIt) K.H= .ok v K.H:=okB z (by unfold chkIt;rw [zi];rfl)
theorem callK {g:G}{es:List X}{vs:List V} (ha:evs K.C K.P es K.ρ K.H= .ok vs K.H) (z:callV K.C K.P (.g g) vs [] K.H= .ok v K.H) (zi:vIt v=none):ev K.C K.P (.call (.glob g) es [] []) K.ρ K.H= .ok v K.H:=
 okB (a:=V.g g) rfl (okB ha (okB (a:= []) rfl (chkN z zi)))
theorem two {a b:X} (h:ev K.C K.P a K.ρ K.H= .ok x K.H) (k:ev K.C K.P b K.ρ K.H= .ok y K.H):evs K.C K.P [a,b] K.ρ K.H= .ok [x,y] K.H:=okB h (okB (okB k rfl) rfl)
theorem p1  :Pi K (.e .none .none):=rfl
theorem p2 {r:Bool}  :Pi K (.e (.bool r) (.bool r)):=rfl
theorem p3 {n:Int}  :Pi K (.e (.int n) (.int n)):=rfl
theorem p4 {s:Str}  :Pi K (.e (.str s) (.str s)):=rfl
theorem p5 {g:G}  :Pi K (.e (.glob g) (.g g)):=rfl
theorem p6 {n:Nat}{v:V} (h:K.ρ.loc[n]? =some (some v)):Pi K (.e (.loc n) v):=okB (a:=some _) (by rw [h];rfl) rfl
theorem p7 {n l:Nat}{v:V} (h:K.ρ.cel[n]? =some (some l)) (g:K.H[l]? =some (.cell (some v))):Pi K (.e (.cel n) v):=okB (a:=some _) (by rw [h];rfl) (okB (a:=_) rfl (okG (f:=λo=>ofO (oCell o) >>= λc=>ofO c) g rfl))
theorem p8 {e:X}{n l k:Nat}{at_:List (Nat × V)}{v:V} (h:Pi K (.e e (.ref l))) (g:K.H[l]? =some (.inst k at_)) (h1:attrOf K.P k n at_=some v):Pi K (.e (.attr e n) v):=okB h (okG g (show(if _ then _ else stuck) _=_ by
 unfold attrOf at h1
 split at h1
 ·rename_i z;rw [if_pos z];exact oB h1
 ·exact nos h1))
theorem p9 {es:List X}{vs:List V} (h:Pi K (.l es vs)):Pi K (.e (.tup es) (.tup vs)):=okB h rfl
theorem p10 {a b:X}{m n:Int} (h:Pi K (.e a (.int m))) (k:Pi K (.e b (.int n))):Pi K (.e (.bin .Add a b) (.int (m + n))):=okB h (okB k rfl)
theorem p11 {a b:X}{m n:Int} (h:Pi K (.e a (.int m))) (k:Pi K (.e b (.int n))):Pi K (.e (.bin .Sub a b) (.int (m - n))):=okB h (okB k rfl)
theorem p12 {a b:X}{m n:Int} (h:Pi K (.e a (.int m))) (k:Pi K (.e b (.int n))) (hn:n≠0):Pi K (.e (.bin .Mod a b) (.int (m.fmod n))):=okB h (okB k (show(if _=(0:Int) then stuck else pure (V.int _):M V) K.H=_ by rw [if_neg hn];rfl))
theorem p13 {n:Int}  :Pi K (.e (.neg (.int n)) (.int (-n))):=rfl
theorem p14 {a:X}{v:V}{r:Bool} (h:Pi K (.e a v)) (k:Pi K (.r v r)):Pi K (.e (.not a) (.bool (!r))):=okB h (okB k rfl)
theorem p15 {op:CmpOp}{a b:X}{x y:V}{r:Bool} (h:Pi K (.e a x)) (k:Pi K (.e b y)) (z:Pi K (.c op x y r)):Pi K (.e (.cmp op a b) (.bool r)):=okB h (okB k (z _ _ _))
theorem p16 {o1 o2:CmpOp}{a b c:X}{x y z:V}{r q:Bool} (h:Pi K (.e a x)) (k:Pi K (.e b y)) (z1:Pi K (.c o1 x y r)) (h3:Pi K (.e c z)) (z2:Pi K (.c o2 y z q)):Pi K (.e (.cmp2 a o1 b o2 c) (.bool (r && q))):=okB h (okB k (okB (z1 _ _ _) (okB (a:=r) rfl (by cases r;rfl;exact okB h3 (z2 _ _ _)))))
theorem p17 {c a b:X}{r:Bool}{v:V} (h:Pi K (.t c r)) (k:Pi K (.e (if r=true then a else b) v)):Pi K (.e (.ite c a b) v):=okB h (by cases r <;> exact k)
theorem p18 {a b:X}{r:Bool}{v:V} (h:Pi K (.e a (.bool r))) (k:Pi K (.e (if r=true then b else .bool false) v)):Pi K (.e (.and a b) v):=okB h (okB (a:=r) rfl (by cases r <;> exact k))
theorem p19 {a b:X}{l k f:Nat}{at_:List (Nat × V)}{x v:V} (h:Pi K (.e a (.ref l))) (h2:Pi K (.e b x)) (g:K.H[l]? =some (.inst k at_)) (h1:K.P.getM k nGetitem=some f) (z:K.C f [] [.ref l,x] [] K.H= .ok v K.H) (zi:vIt v=none):Pi K (.e (.sub a b) v):=okB h (okB h2 (okG g (okB (a:=_) (by rw [h1];rfl) (chkN z zi))))
theorem p20 {a b:X}{l:Nat}{ws:List V}{n:Int}{v:V} (h:Pi K (.e a (.ref l))) (k:Pi K (.e b (.int n))) (g:K.H[l]? =some (.list ws)) (z:lidx ws n=some v):Pi K (.e (.sub a b) v):=okB h (okB k (okG g (oB z)))
theorem p21 {a b:X}{ws:List V}{n:Int}{v:V} (h:Pi K (.e a (.tup ws))) (k:Pi K (.e b (.int n))) (z:(if ws.length<=2 ^ 20 then lidx ws n else none)=some v):Pi K (.e (.sub a b) v):=okB h (okB k (show(if ws.length<=2 ^ 20 then ofO (lidx ws n) else stuck) K.H=_ by
 by_cases c:ws.length<=2 ^ 20
 ·rw [if_pos c] at z ⊢;exact oB z
 ·rw [if_neg c] at z;exact nos z))
theorem p22 {a b:X}{n:Int}{v:V} (h:Pi K (.e a .scr)) (k:Pi K (.e b (.int n))) (z:lidx (K.P.scr.map .int) n=some v):Pi K (.e (.sub a b) v):=okB h (okB k (oB z))
theorem p23 {e:X}{l k f m:Nat}{at_:List (Nat × V)}{es:List X}{vs:List V}{v:V} (h:Pi K (.e e (.ref l))) (g:K.H[l]? =some (.inst k at_)) (h1:methP K.P k m at_=some f) (ha:Pi K (.l es vs)) (z:K.C f [] (.ref l :: vs) [] K.H= .ok v K.H) (zi:vIt v=none):Pi K (.e (.meth e m es [] []) v):=okB h (okB (methP_ok g h1) (okB ha (okB (a:= []) rfl (chkN z zi))))
theorem p24 {f:Nat}{es:List X}{vs:List V}{v:V} (ha:Pi K (.l es vs)) (z:K.C f [] vs [] K.H= .ok v K.H) (zi:vIt v=none):Pi K (.e (.call (.glob (.fn f)) es [] []) v):=callK ha z zi
theorem p25 {e:X} (h:Pi K (.e e .scr)):Pi K (.e (.call (.glob (.bi .len)) [e] [] []) (.int K.P.scr.length)):=callK (okB h rfl) rfl rfl
theorem p26 {e:X}{l:Nat}{ws:List V} (h:Pi K (.e e (.ref l))) (g:K.H[l]? =some (.list ws)):Pi K (.e (.call (.glob (.bi .len)) [e] [] []) (.int ws.length)):=callK (okB h rfl) (show(getLs l >>= λws=>pure (V.int ws.length)) K.H=_ from okB (show getLs l K.H= .ok ws K.H from okG g rfl) rfl) rfl
theorem p27 {e:X}{l k n:Nat}{at_:List (Nat × V)} (h:Pi K (.e e (.ref l))) (g:K.H[l]? =some (.inst k at_)):Pi K (.e (.call (.glob (.bi .isinstance)) [e, .glob (.cls n)] [] []) (.bool (k == n))):=callK (two h rfl) (okG (f:=λo=>ofO (oInst o) >>= λq=>pure (V.bool (q.1 == n))) g rfl) rfl
theorem p28 {e:X}{n:Nat}{m:Int} (h:Pi K (.e e (.int m))):Pi K (.e (.call (.glob (.bi .isinstance)) [e, .glob (.cls n)] [] []) (.bool false)):=callK (two h rfl) rfl rfl
theorem p29 {e:X}{v:V}{b:B} (h:Pi K (.e e v)) (hb:(if b= .int\/b= .bool\/b= .tstr then kd v=2\/kd v=3 else False)):Pi K (.e (.call (.glob (.bi .isinstance)) [e, .glob (.bi b)] [] []) (.bool (if kd v=2 then decide (b= .int) else decide (b= .tstr)))):=by
 by_cases hb1:b= .int\/b= .bool\/b= .tstr
 ·rw [if_pos hb1] at hb
  refine callK (two h rfl) (show(if b= .int\/b= .bool\/b= .tstr then isB b v else stuck) K.H=_ from ?_) rfl
  rw [if_pos hb1]
  unfold isB
  rcases hb with e | e
  ·rw [if_pos e,if_pos e];rfl
  ·have ne: ¬kd v=2:=by rw [e];decide
   rw [if_neg ne,if_neg ne,if_pos e];rfl
 ·rw [if_neg hb1] at hb;exact hb.elim
theorem p30 {a b:X}{m n:Int} (h:Pi K (.e a (.int m))) (k:Pi K (.e b (.int n))) (hd:K.P.hd=false):Pi K (.e (.call (.glob (.bi .max)) [a,b] [] []) (.int (if n > m then n else m))):=callK (two h k) (show(if K.P.hd=true then stuck else pure (V.int (if n > m then n else m)):M V) K.H=_ by rw [hd];rfl) rfl
theorem p31 {a:X}{m:Int} (h:Pi K (.e a (.int m))):Pi K (.e (.call (.glob (.bi .abs)) [a] [] []) (.int m.natAbs)):=callK (okB h rfl) rfl rfl
theorem p32 {a:X}{r:Bool} (h:Pi K (.e a (.bool r))):Pi K (.e (.call (.glob (.bi .int)) [a] [] []) (.int (if r then 1 else 0))):=callK (okB h rfl) rfl rfl
theorem p33  :Pi K (.l [] []):=rfl
theorem p34 {e:X}{es:List X}{v:V}{vs:List V} (h:Pi K (.e e v)) (k:Pi K (.l es vs)):Pi K (.l (e :: es) (v :: vs)):=okB h (okB k rfl)
theorem p35 {e:X}{v:V}{r:Bool} (h:Pi K (.e e v)) (k:Pi K (.r v r)):Pi K (.t (.truth e) r):=okB h k
theorem p36 {a:X}{r:Bool} (h:Pi K (.t a r)):Pi K (.t (.not a) (!r)):=okB h rfl
theorem p37 {op:CmpOp}{a b:X}{x y:V}{r:Bool} (h:Pi K (.e a x)) (k:Pi K (.e b y)) (z:Pi K (.c op x y r)):Pi K (.t (.cmp op a b) r):=okB h (okB k (okB (z _ _ _) rfl))
theorem p38 {a b:X}{r q:Bool} (h:Pi K (.t a r)) (k:Pi K (.t b q)):Pi K (.t (.or a b) (r || q)):=okB h (by cases r;exact k;rfl)
theorem p39 {a b:X}{r q:Bool} (h:Pi K (.t a r)) (k:Pi K (.t b q)):Pi K (.t (.and a b) (r && q)):=okB h (by cases r;rfl;exact k)
theorem p40 {r:Bool}  :Pi K (.r (.bool r) r):=rfl
theorem p41  :Pi K (.r .none false):=rfl
theorem p42 {l:Nat}{ws:List V} (g:K.H[l]? =some (.list ws)):Pi K (.r (.ref l) (!ws.isEmpty)):=okG g rfl
theorem p43 {l k:Nat}{at_:List (Nat × V)} (g:K.H[l]? =some (.inst k at_)) (h1:K.P.getM k nBool=none) (h2:K.P.getM k nLen=none):Pi K (.r (.ref l) true):=okG g (show om (K.P.getM _ nBool) (if(K.P.getM _ nLen).isSome then stuck else pure true) _ K.H=_ by rw [h1,h2];rfl)
theorem p44 {l k f:Nat}{at_:List (Nat × V)}{r:Bool} (g:K.H[l]? =some (.inst k at_)) (h:K.P.getM k nBool=some f) (z:K.C f [] [.ref l] [] K.H= .ok (.bool r) K.H):Pi K (.r (.ref l) r):=okG g (show om (K.P.getM _ nBool) _ (λf=>K.C f [] [.ref _] [] >>= asBool) K.H=_ by rw [h];exact okB z rfl)
theorem p45 {m n:Int}  :Pi K (.c .Lt (.int m) (.int n) (decide (m < n))):=λC P H=>rfl
theorem p46 {m n:Int}  :Pi K (.c .Gt (.int m) (.int n) (decide (m > n))):=λC P H=>rfl
theorem p47 {m n:Int}  :Pi K (.c .LtE (.int m) (.int n) (decide (m<=n))):=λC P H=>rfl
theorem p48 {m n:Int}  :Pi K (.c .GtE (.int m) (.int n) (decide (n<=m))):=λC P H=>rfl
theorem p49 {m n:Int}  :Pi K (.c .Eq (.int m) (.int n) (decide (m=n))):=cEq rfl (peqI _ _)
theorem p50 {m n:Int}  :Pi K (.c .NotEq (.int m) (.int n) (!decide (m=n))):=cNe rfl (peqI _ _)
theorem p51 {m n:Bool}  :Pi K (.c .Eq (.bool m) (.bool n) (m == n)):=cEq rfl (show peq (.bool m) (.bool n)=some (m == n) from rfl)
theorem p52 {m n:Bool}  :Pi K (.c .NotEq (.bool m) (.bool n) (!(m == n))):=cNe rfl (show peq (.bool m) (.bool n)=some (m == n) from rfl)
theorem p53 {x:V} (h:isBi x=false):Pi K (.c .Is x .none (isNone x)):=λC P H=>(show(if(isNone .none && !isBi x)=true then pure (V.bool (isNone x)) else stuck:M V) _=_ by rw [h];rfl)
theorem p54 {x:V} (h:isBi x=false):Pi K (.c .IsNot x .none (!isNone x)):=λC P H=>(show(if(isNone .none && !isBi x)=true then pure (V.bool (!isNone x)) else stuck:M V) _=_ by rw [h];rfl)
theorem p55 {op:CmpOp}{x y:V}{r:Bool} (h:PC op x y r):Pi K (.c op x y r):=h
theorem pIfB {c a b:X} (h:Pi K (.t c r)) (k1:Pi K (.e a x)) (k2:Pi K (.e b y)):Pi K (.e (.ite c a b) (if r then x else y)):=p17 h (by cases r;exact k2;exact k1)
end
theorem pAndT {K:Kx}{a b:X}{v:V} (h:Pi K (.e a (.bool true))) (k:Pi K (.e b v)):Pi K (.e (.and a b) v):=p18 h k
theorem pAndF {K:Kx}{a b:X} (h:Pi K (.e a (.bool false))):Pi K (.e (.and a b) (.bool false)):=p18 h p2
theorem pIfT {K:Kx}{c a b:X}{v:V} (h:Pi K (.t c true)) (k:Pi K (.e a v)):Pi K (.e (.ite c a b) v):=p17 h k
theorem pIfF {K:Kx}{c a b:X}{v:V} (h:Pi K (.t c false)) (k:Pi K (.e b v)):Pi K (.e (.ite c a b) v):=p17 h k
theorem pIsi2 {K:Kx}{e:X}{v:V}{b:B} (h:Pi K (.e e v)) (hv:kd v=2) (hb:b= .int\/b= .bool\/b= .tstr):Pi K (.e (.call (.glob (.bi .isinstance)) [e, .glob (.bi b)] [] []) (.bool (decide (b= .int)))):=by
 have z:=p29 (b:=b) h (by rw [if_pos hb];exact .inl hv)
 rwa [if_pos hv] at z
theorem pIsi3 {K:Kx}{e:X}{v:V}{b:B} (h:Pi K (.e e v)) (hv:kd v=3) (hb:b= .int\/b= .bool\/b= .tstr):Pi K (.e (.call (.glob (.bi .isinstance)) [e, .glob (.bi b)] [] []) (.bool (decide (b= .tstr)))):=by
 have z:=p29 (b:=b) h (by rw [if_pos hb];exact .inr hv)
 rwa [if_neg (by rw [hv];decide)] at z
section
variable {C D:CallT}{P:Prog}{ρ:Lo}{H:Hp}{Q:V->Hp->Prop}{es:List X}{vs:List V}{e a:X}{l k f m:Nat}{at_:List (Nat × V)}
theorem eP {v:V} (h:Pi ⟨C,P,ρ,H⟩ (.e e v)) (z:Q v H):wq (ev C P e ρ) H Q:=qOk h.ok z
theorem eFn (ha:Pi ⟨C,P,ρ,H⟩ (.l es vs)) (z:wq (C f [] vs []) H λr H1=>vIt r=none/\Q r H1):wq (ev C P (.call (.glob (.fn f)) es [] []) ρ) H Q:=
 qB (qOk (a:=V.g (.fn f)) rfl (qB (qOk ha.ok (qB (qOk (a:= []) rfl (qChk z))))))
theorem eMake (ha:Pi ⟨C,P,ρ,H⟩ (.l es vs)) (h1:P.getM k nInit=some f) (z:wq (C f [] (.ref H.length :: vs) []) (H ++ [.inst k []]) λr H2=>r= .none/\Q (.ref H.length) H2):wq (ev C P (.call (.glob (.cls k)) es [] []) ρ) H Q:=
 qB (qOk (a:=V.g (.cls k)) rfl (qB (qOk ha.ok (qB (qOk (a:= []) rfl (qChk (show wq (ofO (P.getM k nInit) >>= λf=>C f [] (.ref H.length :: vs) [] >>= λr=>if isNone r then pure (V.ref H.length) else stuck:M V) (H ++ [.inst k []]) _ from
  qO h1 (qB (qMono z λr H2 h=>by rw [h.1];exact⟨rfl,h.2⟩)))))))))
theorem eMeth (h:Pi ⟨C,P,ρ,H⟩ (.e e (.ref l))) (g:H[l]? =some (.inst k at_)) (h1:methP P k m at_=some f) (ha:Pi ⟨C,P,ρ,H⟩ (.l es vs)) (z:wq (C f [] (.ref l :: vs) []) H λr H1=>vIt r=none/\Q r H1):wq (ev C P (.meth e m es [] []) ρ) H Q:=
 qB (qOk h.ok (qB (qOk (methP_ok g h1) (qB (qOk ha.ok (qB (qOk (a:= []) rfl (qChk z))))))))
theorem eMethW {kn:List Str}{kv:List X}{ks:List V} (h:Pi ⟨C,P,ρ,H⟩ (.e e (.ref l))) (g:H[l]? =some (.inst k at_)) (h1:methP P k m at_=some f) (ha:Pi ⟨C,P,ρ,H⟩ (.l es vs)) (hk:Pi ⟨C,P,ρ,H⟩ (.l kv ks)) (z:wq (C f [] (.ref l :: vs) (kn.zip ks)) H λr H1=>vIt r=none/\Q r H1):wq (ev C P (.meth e m es kn kv) ρ) H Q:=
 qB (qOk h.ok (qB (qOk (methP_ok g h1) (qB (qOk ha.ok (qB (qOk hk.ok (qChk z))))))))
theorem eMethC (h1:P.getM k m=some f) (h2:P.cms.contains f=true) (ha:Pi ⟨C,P,ρ,H⟩ (.l es vs)) (z:wq (C f [] (.g (.cls k) :: vs) []) H λr H1=>vIt r=none/\Q r H1):wq (ev C P (.meth (.glob (.cls k)) m es [] []) ρ) H Q:=
 qB (qOk (a:=V.g (.cls k)) rfl (qB (qOk (a:=Mt.fn f (.g (.cls k))) (show(ofO (P.getM k m) >>= λf=>if P.cms.contains f=true then pure (Mt.fn f (.g (.cls k))) else stuck:M Mt) H=_ from okB (a:=f) (by rw [h1];rfl) (by rw [if_pos h2];rfl)) (qB (qOk ha.ok (qB (qOk (a:= []) rfl (qChk z))))))))
theorem appL {ws:List V}{x:V} (g:H[l]? =some (.list ws)) (hs:ws.length < 2 ^ 19):appendL l x H= .ok .none (H.set l (.list (ws ++ [x]))):=by
 refine okB (show getLs l H= .ok ws H from okG g rfl) ?_
 rw [if_pos hs];rfl
theorem eApp {ws:List V}{x:V} (h:Pi ⟨C,P,ρ,H⟩ (.e e (.ref l))) (g:H[l]? =some (.list ws)) (ha:Pi ⟨C,P,ρ,H⟩ (.e a x)) (hs:ws.length < 2 ^ 19) (z:Q .none (H.set l (.list (ws ++ [x])))):wq (ev C P (.meth e nAppend [a] [] []) ρ) H Q:=
 qB (qOk h.ok (qB (qOk (a:=Mt.app l) (okG g rfl) (qB (qOk (p34 ha p33).ok (qB (qOk (a:= []) rfl (qChk (qOk (appL g hs) ⟨rfl,z⟩)))))))))
theorem eLst (ha:Pi ⟨C,P,ρ,H⟩ (.l es vs)) (z:Q (.ref H.length) (H ++ [.list vs])):wq (ev C P (.lst es) ρ) H Q:=qB (qOk ha.ok (qB z))
theorem eDict (z:Q (.ref H.length) (H ++ [.dict []])):wq (ev C P .dict0 ρ) H Q:=z
theorem eComp {n:Nat}{free:List (Nat × Nat)}{elt it:X}{tgt:NT}{ifs:List X} (h:wq (ev C P it ρ >>= iterOf C P) H λli H1=>wq (compLoop (λ σ=>ev C P elt σ) (λ σ=>evTests C P ifs σ) tgt li.1 li.2 li.2.length 0 H1.length (compEnv n free ρ)) (H1 ++ [.list []]) λ_ H2=>Q (.ref H1.length) H2):wq (ev C P (.comp n free elt tgt it ifs) ρ) H Q:=by
 obtain⟨v,H1,e1,h⟩:=qEx (qUB h)
 exact qB (qB (qOk e1 (qB (qMono h λli H2 h=>qB (show wq (alloc (.list [])) H2 _ from qB (qNoEx (qMono h λ_ H3 h=>h)))))))
end
section
variable {C D:CallT}{P:Prog}{ρ:Lo}{H:Hp}{Q:Fl × Lo->Hp->Prop}{r:List S}
noncomputable abbrev cont (C D:CallT) (P:Prog) (r:List S) (Q:Fl × Lo->Hp->Prop) (q:Fl × Lo) (H:Hp):Prop:=match q.1 with
 | .nx=>wq (exs C D P r q.2) H Q
 | .rt v=>Q (.rt v,q.2) H
theorem sNil (k:Q (.nx,ρ) H):wq (exs C D P [] ρ) H Q:=k
theorem sStep {s:S} (h:wq (exe C D P s ρ) H (cont C D P r Q)):wq (exs C D P (s :: r) ρ) H Q:=
 qB (qMono h λq H1 h=>by obtain⟨f,ρ'⟩:=q;cases f <;> exact h)
theorem sExpr {e:X} (h:wq (ev C P e ρ) H λ_ H1=>wq (exs C D P r ρ) H1 Q):wq (exs C D P (.expr e :: r) ρ) H Q:=sStep (qB h)
theorem sAsg {e:X}{i:Nat} (h:wq (ev C P e ρ) H λv H1=>wq (exs C D P r ⟨ρ.loc.set i (some v),ρ.cel⟩) H1 Q):wq (exs C D P (.assign (.n i) e :: r) ρ) H Q:=sStep (qB (qMono h λv H1 h=>h))
theorem sAsgN {e:X}{i:Nat}{v:V} (h:Pi ⟨C,P,ρ,H⟩ (.e e v)) (z:wq (exs C D P r ⟨ρ.loc.set i (some v),ρ.cel⟩) H Q):wq (exs C D P (.assign (.n i) e :: r) ρ) H Q:=sAsg (qOk h.ok z)
theorem sRet {e:X} (h:wq (ev C P e ρ) H λv H1=>Q (.rt v,ρ) H1):wq (exs C D P (.ret e :: r) ρ) H Q:=sStep (qB h)
theorem sRetP {e:X}{v:V} (h:Pi ⟨C,P,ρ,H⟩ (.e e v)) (z:Q (.rt v,ρ) H):wq (exs C D P (.ret e :: r) ρ) H Q:=sRet (qOk h.ok z)
theorem sRetIt {e:X} (h:wq (ev C P e ρ >>= openIt C P) H λk H1=>Q (.rt (.it k),ρ) H1):wq (exs C D P (.retIter e :: r) ρ) H Q:=sStep (qB (qMono (qUB h) λv H1 h=>qB h))
noncomputable def atOk (P:Prog) (k a:Nat) (at_:List (Nat × V)):Bool:=P.isAt k a && decide (at_.length<=800)
noncomputable def AtP (C D:CallT) (P:Prog) (ρ:Lo) (r:List S) (Q:Fl × Lo->Hp->Prop) (o:X) (a l k:Nat) (at_:List (Nat × V)) (v:V) (H:Hp):Prop:=
 Pi ⟨C,P,ρ,H⟩ (.e o (.ref l))/\H[l]? =some (.inst k at_)/\atOk P k a at_=true/\wq (exs C D P r ρ) (H.set l (.inst k (putA a v at_))) Q
theorem atI {o:X}{a l k:Nat}{at_:List (Nat × V)}{v:V} (h1:Pi ⟨C,P,ρ,H⟩ (.e o (.ref l))) (g:H[l]? =some (.inst k at_)) (h2:atOk P k a at_=true) (z:wq (exs C D P r ρ) (H.set l (.inst k (putA a v at_))) Q):AtP C D P ρ r Q o a l k at_ v H:=⟨h1,g,h2,z⟩
theorem sAttr {e o:X}{a l k:Nat}{at_:List (Nat × V)} (h:wq (ev C P e ρ) H (AtP C D P ρ r Q o a l k at_)):wq (exs C D P (.assign (.attr o a) e :: r) ρ) H Q:=
 sStep (qB (qMono h λv H1 h=>qB (qB (qOk h.1.ok (qB (qOk (a:=()) (okG h.2.1 (show(if P.isAt k a=true/\at_.length<=800 then setO l (.inst k (putA a v at_)) else stuck) H1=_ by rw [if_pos ⟨(Bool.and_eq_true_iff.mp h.2.2.1).1,of_decide_eq_true (Bool.and_eq_true_iff.mp h.2.2.1).2⟩];rfl)) h.2.2.2))))))
theorem sAttrP {e o:X}{a l k:Nat}{at_:List (Nat × V)}{v:V} (h:Pi ⟨C,P,ρ,H⟩ (.e e v)) (h1:Pi ⟨C,P,ρ,H⟩ (.e o (.ref l))) (g:H[l]? =some (.inst k at_)) (h2:atOk P k a at_=true) (z:wq (exs C D P r ρ) (H.set l (.inst k (putA a v at_))) Q):wq (exs C D P (.assign (.attr o a) e :: r) ρ) H Q:=sAttr (qOk h.ok (atI h1 g h2 z))
noncomputable def ItP (C D:CallT) (P:Prog) (ρ:Lo) (r:List S) (Q:Fl × Lo->Hp->Prop) (o i:X) (l k f:Nat) (at_:List (Nat × V)) (x:V) (v:V) (H:Hp):Prop:=
 Pi ⟨C,P,ρ,H⟩ (.e o (.ref l))/\Pi ⟨C,P,ρ,H⟩ (.e i x)/\H[l]? =some (.inst k at_)/\P.getM k nSetitem=some f/\wq (C f [] [.ref l,x,v] []) H λr' H2=>r'= .none/\wq (exs C D P r ρ) H2 Q
theorem itI {o i:X}{l k f:Nat}{at_:List (Nat × V)}{x v:V} (h1:Pi ⟨C,P,ρ,H⟩ (.e o (.ref l))) (h2:Pi ⟨C,P,ρ,H⟩ (.e i x)) (g:H[l]? =some (.inst k at_)) (m:P.getM k nSetitem=some f) (z:wq (C f [] [.ref l,x,v] []) H λr' H2=>r'= .none/\wq (exs C D P r ρ) H2 Q):ItP C D P ρ r Q o i l k f at_ x v H:=⟨h1,h2,g,m,z⟩
theorem sItem {e o i:X}{l k f:Nat}{at_:List (Nat × V)}{x:V} (h:wq (ev C P e ρ) H (ItP C D P ρ r Q o i l k f at_ x)):wq (exs C D P (.assign (.sub o i) e :: r) ρ) H Q:=by
 refine sStep (qB (qMono h λv H1 h=>qB (qB (qOk h.1.ok (qB (qOk h.2.1.ok (qB (qGet h.2.2.1 ?_))))))))
 show wq (ofO (P.getM k nSetitem) >>= λf=>C f [] [.ref l,x,v] [] >>= λr=>if isNone r then pure () else stuck) H1 _
 exact qO h.2.2.2.1 (qB (qMono h.2.2.2.2 λr' H2 h=>by rw [h.1];exact h.2))
theorem sCel {e:X}{i l:Nat}{w:Option V}{v:V} (h:Pi ⟨C,P,ρ,H⟩ (.e e v)) (h1:ρ.cel[i]? =some (some l)) (g:H[l]? =some (.cell w)) (z:wq (exs C D P r ρ) (H.set l (.cell (some v))) Q):wq (exs C D P (.assign (.c i) e :: r) ρ) H Q:=
 sStep (qB (qOk h.ok (qB (show wq (ofO ρ.cel[i]? >>= λx=>ofO x >>= λl=>getO l >>= λo=>ofO (oCell o) >>= λ_=>setO l (.cell (some v)) >>= λ_=>pure ρ) H _ by
  rw [h1]
  exact qGet (f:=λo=>ofO (oCell o) >>= λ_=>setO l (.cell (some v)) >>= λ_=>pure ρ) g z))))
theorem sCat {a b:List S} (h:wq (exs C D P (a ++ b) ρ) H Q):wq (exs C D P a ρ) H (cont C D P b Q):=by
 induction a generalizing ρ H with
 | nil=>exact h
 | cons s a ih=>
  have h2:wq (exe C D P s ρ >>= λq=>match q.1 with | .nx=>exs C D P (a ++ b) q.2 | .rt v=>pure (.rt v,q.2)) H Q:=by
   unfold wq at h ⊢
   have e:exs C D P (s :: a ++ b) ρ H=(exe C D P s ρ >>= λq=>match q.1 with | .nx=>exs C D P (a ++ b) q.2 | .rt v=>pure (.rt v,q.2)) H:=by
    show M.bind _ _ H=M.bind _ _ H
    unfold M.bind
    cases exe C D P s ρ H with
    | ok q H'=>obtain⟨f,ρ'⟩:=q;cases f <;> rfl
    | ex _=>rfl
    | no=>rfl
   rw [<- e];exact h
  refine sStep (qMono (qUB h2) λq H1 h=> ?_)
  obtain⟨f,ρ'⟩:=q
  cases f with
  | nx=>exact ih h
  | rt v=>exact h
theorem sIf {t:X}{a b:List S}{c:Bool} (h:Pi ⟨C,P,ρ,H⟩ (.t t c)) (k1:c=true->wq (exs C D P (a ++ r) ρ) H Q) (k2:c=false->wq (exs C D P (b ++ r) ρ) H Q):wq (exs C D P (.ite t a b :: r) ρ) H Q:=
 sStep (qB (qOk h.ok (by cases c;exact sCat (k2 rfl);exact sCat (k1 rfl))))
theorem sIfT {t:X}{a b:List S} (h:Pi ⟨C,P,ρ,H⟩ (.t t true)) (k:wq (exs C D P (a ++ r) ρ) H Q):wq (exs C D P (.ite t a b :: r) ρ) H Q:=sIf h (λ_=>k) λe=>Bool.noConfusion e
theorem sIfF {t:X}{a b:List S} (h:Pi ⟨C,P,ρ,H⟩ (.t t false)) (k:wq (exs C D P (b ++ r) ρ) H Q):wq (exs C D P (.ite t a b :: r) ρ) H Q:=sIf h (λe=>Bool.noConfusion e) λ_=>k
theorem sCat0 (h:wq (exs C D P r ρ) H Q):wq (exs C D P ([] ++ r) ρ) H Q:=h
theorem sCat1 {s:S}{l:List S} (h:wq (exs C D P (s :: (l ++ r)) ρ) H Q):wq (exs C D P ((s :: l) ++ r) ρ) H Q:=h
theorem sFor {t:NT}{e:X}{b:List S} (h:wq (ev C P e ρ >>= iterOf C P) H λli H1=>wq (forLoop (λ σ=>exs C D P b σ) t li.1 li.2 li.2.length 0 ρ) H1 (cont C D P r Q)):wq (exs C D P (.for_ t e b :: r) ρ) H Q:=
 sStep (qB (qMono (qUB h) λv H1 h=>qB (qMono h λli H2 h=>qNoEx h)))
theorem tryOk {m:M V}{g:M (Fl × Lo)}{v:V}{H':Hp} (e:m H= .ok v H') (k:Q (.rt v,ρ) H'):wq (λh=>match m h with
 | .ok v h'=> .ok (.rt v,ρ) h'
 | .ex h'=>noEx g h'
 | .no=> .no) H Q:=by
 unfold wq
 dsimp only
 rw [e];exact k
theorem tryEx {m:M V}{g:M (Fl × Lo)} (e:m H= .ex H) (k:wq g H Q):wq (λh=>match m h with
 | .ok v h'=> .ok (.rt v,ρ) h'
 | .ex h'=>noEx g h'
 | .no=> .no) H Q:=by
 have k:=qNoEx k
 unfold wq at k ⊢
 dsimp only
 rw [e];exact k
theorem sTry {a b c:X}{hd:List S}{t:Bool}{v:V} (h:Pi ⟨C,P,ρ,H⟩ (.t a t)) (k:Pi ⟨C,P,ρ,H⟩ (.e (if t then b else c) v)) (z:Q (.rt v,ρ) H):wq (exs C D P (.tryTE a b c hd :: r) ρ) H Q:=
 sStep (tryOk (okB h.ok (by cases t <;> exact k.ok)) z)
theorem exL {α β:Type}{m:M α}{f:α->M β}{H:Hp} (h:m H= .ex H):(m >>= f) H= .ex H:=by
 show M.bind m f H=_
 unfold M.bind;rw [h]
theorem sTryX {a b x y u w:X}{hd:List S}{v1 v2:V} (h:Pi ⟨C,P,ρ,H⟩ (.t a false)) (h1:Pi ⟨C,P,ρ,H⟩ (.e x v1)) (h2:Pi ⟨C,P,ρ,H⟩ (.e y v2)) (z:cmpOp C P .Lt v1 v2 H= .ex H)
 (k:wq (exs D D {P with hd:=true} hd ρ) H (cont C D P r Q)):wq (exs C D P (.tryTE a b (.ite (.cmp .Lt x y) u w) hd :: r) ρ) H Q:=
 sStep (tryEx (okB h.ok (exL (okB h1.ok (okB h2.ok (exL z))))) k)
end
theorem qRunH {n:Nat}{P:Prog}{k:Nat}{f:Fn}{args:List V}{kw:List (Str × V)}{vs:List V}{H H1:Hp}{Q:V->Hp->Prop}{ρ:Lo} (hf:P.fns[k]? =some (some f)) (hb:bindArgs f args kw=some vs) (ho:enter f [] vs H= .ok ρ H1)
 (h:wq (exs (run n P) (run n {P with hd:=true}) P f.body ρ) H1 λr H2=>Q (flV r.1) H2):wq (run (n + 1) P k [] args kw) H Q:=by
 show wq (ofO P.fns[k]? >>= λx=>ofO x >>= λf=>ofO (bindArgs f args kw) >>= λvs=>noEx (enter f [] vs >>= λ ρ=>exs (run n P) (run n {P with hd:=true}) P f.body ρ >>= λr=>pure (flV r.1))) H Q
 rw [hf]
 show wq (ofO (bindArgs f args kw) >>= λvs=>noEx (enter f [] vs >>= λ ρ=>exs (run n P) (run n {P with hd:=true}) P f.body ρ >>= λr=>pure (flV r.1))) H Q
 rw [hb]
 exact qNoEx (qB (qOk ho (qB h)))
theorem qRun {n:Nat}{P:Prog}{k:Nat}{f:Fn}{args:List V}{kw:List (Str × V)}{vs:List V}{H H1:Hp}{Q:V->Hp->Prop}{ρ:Lo} (hf:P.fns[k]? =some (some f)) (hb:bindArgs f args kw=some vs) (ho:enter f [] vs H= .ok ρ H1)
 (h: ∀D,wq (exs (run n P) D P f.body ρ) H1 λr H2=>Q (flV r.1) H2):wq (run (n + 1) P k [] args kw) H Q:=qRunH hf hb ho (h _)
theorem all1 {p:Nat->Prop}{a:Nat} (ha:p a): ∀x∈ [a],p x:=λx h=>(List.mem_singleton.mp h).symm▸ha
theorem all2 {p:Nat->Prop}{a b:Nat} (ha:p a) (hb:p b): ∀x∈ [a,b],p x:=λx h=>(List.mem_cons.mp h).elim (λe=>e.symm▸ha) (all1 hb x)
theorem all3 {p:Nat->Prop}{a b c:Nat} (ha:p a) (hb:p b) (hc:p c): ∀x∈ [a,b,c],p x:=λx h=>(List.mem_cons.mp h).elim (λe=>e.symm▸ha) (all2 hb hc x)
theorem mcons {α:Type}{x a:α}{l:List α} (h:x∈a :: l):a=x\/x∈l:=(List.mem_cons.mp h).imp_left Eq.symm
theorem in1 {α:Type}{x a:α} (h:x∈ [a]):a=x:=(List.mem_singleton.mp h).symm
theorem ni1 {x a:Nat} (h:x≠a):x∉ [a]:=λe=>h (List.mem_singleton.mp e)
theorem ni2 {x a b:Nat} (h:x≠a) (k:x≠b):x∉ [a,b]:=λe=>(List.mem_cons.mp e).elim h (ni1 k)
theorem ni3 {x a b c:Nat} (h:x≠a) (k:x≠b) (l:x≠c):x∉ [a,b,c]:=λe=>(List.mem_cons.mp e).elim h (ni2 k l)
theorem all4 {p:Nat->Prop}{a b c d:Nat} (ha:p a) (hb:p b) (hc:p c) (hd:p d): ∀x∈ [a,b,c,d],p x:=λx h=>(List.mem_cons.mp h).elim (λe=>e.symm▸ha) (all3 hb hc hd x)
theorem ni4 {x a b c d:Nat} (h:x≠a) (k:x≠b) (l:x≠c) (m:x≠d):x∉ [a,b,c,d]:=λe=>(List.mem_cons.mp e).elim h (ni3 k l m)
theorem cons2 {a b:Nat}{l l':List Nat} (h: ∀x∈l,x∈l'): ∀x∈a :: b :: l,x∈a :: b :: l':=λx hx=>(List.mem_cons.mp hx).elim (λe=>e▸ .head _) λhx=>(List.mem_cons.mp hx).elim (λe=>e▸ .tail _ (.head _)) λhx=> .tail _ (.tail _ (h x hx))
noncomputable def Keep (X:List Nat) (H H':Hp):Prop:=∀k o,k∉X->H[k]? =some o->H'[k]? =some o
section
variable {X Y:List Nat}{H H' H'':Hp}{l k:Nat}{o o':O}
theorem Keep.refl:Keep X H H:=λ_ _ _ e=>e
theorem Keep.trans (a:Keep X H H') (b:Keep X H' H''):Keep X H H'':=λk o hk e=>b k o hk (a k o hk e)
theorem Keep.weaken (a:Keep X H H') (h: ∀x∈X,x∈Y):Keep Y H H':=λk o hk e=>a k o (λhx=>hk (h k hx)) e
theorem getP (g:H[l]? =some o):(H ++ [o'])[l]? =some o:=by rw [List.getElem?_append_left (List.getElem?_eq_some_iff.mp g).1];exact g
theorem getN:(H ++ [o])[H.length]? =some o:=by simp
theorem getS (g:H[l]? =some o'):(H.set l o)[l]? =some o:=by rw [List.getElem?_set_self (List.getElem?_eq_some_iff.mp g).1]
theorem getO' (ne:l≠k) (g:H[k]? =some o'):(H.set l o)[k]? =some o':=by rw [List.getElem?_set_ne ne];exact g
theorem ltL (g:H[l]? =some o):l < H.length:=(List.getElem?_eq_some_iff.mp g).1
theorem Keep.len (a:Keep [] H H'):H.length<=H'.length:=by
 by_cases e:H.length=0
 ·lia
 ·have h:H.length - 1 < H.length:=by lia
  have:=ltL (a _ _ nofun (List.getElem?_eq_getElem h))
  lia
theorem Keep.push:Keep X H (H ++ [o]):=λ_ _ _ e=>getP e
theorem Keep.set (h:l∈X):Keep X H (H.set l o):=λk ob hk e=>getO' (λq=>hk (q▸h)) e
theorem Keep.setN (g:H.length<=l) (a:Keep X H H'):Keep X H (H'.set l o):=λk ob hk e=>getO' (λq=>Nat.lt_irrefl _ (Nat.lt_of_lt_of_le (ltL e) (q▸g))) (a k ob hk e)
end
structure Rw where
 b:Int
 e:Int
 d:V
inductive DOk:V->Prop
 | none:DOk .none
 | int (i:Int):DOk (.int i)
 | str {s:Str}:PyData.strOk s=true->DOk (.str s)
noncomputable def rk:V->Int
 | .none=>0
 | .int _=>1
 | _=>2
noncomputable def cpl (d:V):List Int:=(strOf d).cps.toList.map Int.ofNat
noncomputable def kl (r:Rw):List Int:=r.b :: r.e :: rk r.d :: intOf r.d :: cpl r.d
noncomputable def key (r:Rw):V:= .tup [.int r.b, .int r.e, .int (rk r.d), .int (intOf r.d), .str (strOf r.d)]
noncomputable def rlt (r r':Rw):Bool:=decide (kl r < kl r')
theorem rlt_irr (r:Rw):rlt r r=false:=decide_eq_false (List.lt_irrefl _)
theorem rlt_asy {r r':Rw} (h:rlt r r'=true):rlt r' r=false:=decide_eq_false (List.lt_asymm (of_decide_eq_true h))
theorem rlt_trans {a b c:Rw} (h:rlt a b=true) (g:rlt b c=true):rlt a c=true:=decide_eq_true (List.lt_trans (of_decide_eq_true h) (of_decide_eq_true g))
theorem map_lt {l m:List Nat}:l.map Int.ofNat < m.map Int.ofNat ↔ l < m:=by
 induction l generalizing m with
 | nil=>cases m <;> simp
 | cons a l ih=>cases m with
  | nil=>simp
  | cons b m=>
   rw [List.map_cons,List.map_cons,List.cons_lt_cons_iff,List.cons_lt_cons_iff,ih]
   exact or_congr Int.ofNat_lt (and_congr_left' Int.ofNat_inj)
theorem map_inj {l m:List Nat} (h:l.map Int.ofNat=m.map Int.ofNat):l=m:=List.map_inj_right (λ_ _ e=>Int.ofNat.inj e) |>.mp h
theorem dv_inj {d d':V} (h1:DOk d) (h2:DOk d') (h3:rk d=rk d') (h4:intOf d=intOf d') (h5:cpl d=cpl d'):d=d':=by
 cases h1 with
 | none=>cases h2 with
  | none=>rfl
  | int i=>exact nomatch (show(0:Int)=1 from h3)
  | str _=>exact nomatch (show(0:Int)=2 from h3)
 | int i=>cases h2 with
  | none=>exact nomatch (show(1:Int)=0 from h3)
  | int i=>exact congrArg V.int h4
  | str _=>exact nomatch (show(1:Int)=2 from h3)
 | @str s _=>cases h2 with
  | none=>exact nomatch (show(2:Int)=0 from h3)
  | int i=>exact nomatch (show(2:Int)=1 from h3)
  | @str s' _=>exact congrArg V.str (congrArg Str.mk (Array.toList_inj.mp (map_inj h5)))
noncomputable def c3 (r r':Rw):Int:=if rlt r r' then -1 else if rlt r' r then 1 else 0
theorem strOf_ok {d:V} (h:DOk d):PyData.strOk (strOf d)=true:=by
 cases h with
 | str h=>exact h
 | none=>exact(by decide +kernel:PyData.strOk default=true)
 | int i=>exact(by decide +kernel:PyData.strOk default=true)
theorem toPyS {s:Str} (h:PyData.strOk s=true):toPy (.str s)=some (.str s):=if_pos h
theorem shpS {s:Str} (h:PyData.strOk s=true):SeqAt.shaped (.str s)=true:=by
 unfold SeqAt.shaped
 rw [show PyData.canLay0 (.str s)=true from h];rfl
theorem peqS {s s':Str} (h:PyData.strOk s=true) (h':PyData.strOk s'=true):peq (.str s) (.str s')=some (decide (s=s')):=by
 unfold peq peqO
 rw [toPyS h,toPyS h']
 show(if(SeqAt.shaped (.str s) && SeqAt.shaped (.str s'))=true then some (PyData.eqv (.str s) (.str s')) else none)=_
 rw [shpS h,shpS h'];rfl
theorem pordsI (g:Bool) (a b:Int) (r q:List V):pords g (.int a :: r) (.int b :: q)=if a=b then pords g r q else some (if g then decide (a > b) else decide (a < b)):=by
 show(peq (.int a) (.int b)).bind (λe=>if e then pords g r q else(pord0 g (.int a) (.int b)).val?)=_
 rw [peqI]
 show(if decide (a=b)=true then _ else _)=_
 by_cases h:a=b
 ·rw [if_pos h,if_pos (decide_eq_true h)]
 ·rw [if_neg h,if_neg (λe=>h (of_decide_eq_true e))];rfl
theorem pordsS (g:Bool) {a b:Str} (h:PyData.strOk a=true) (h':PyData.strOk b=true):pords g [.str a] [.str b]=some (if g then str_lt b a else str_lt a b):=by
 show(peq (.str a) (.str b)).bind (λe=>if e then pords g [] [] else(pord0 g (.str a) (.str b)).val?)=_
 rw [peqS h h']
 show(if decide (a=b)=true then _ else _)=_
 by_cases e:a=b
 ·rw [if_pos (decide_eq_true e),e]
  have:str_lt b b=false:=decide_eq_false (List.lt_irrefl _)
  rw [this];cases g <;> rfl
 ·rw [if_neg (λz=>e (of_decide_eq_true z))];rfl
theorem str_lt_cpl (a b:V):str_lt (strOf a) (strOf b)=decide (cpl a < cpl b):=by
 unfold str_lt cpl
 exact decide_eq_decide.mpr map_lt.symm
theorem step_lt (g:Bool) (a b:Int) (l m:List Int) {x:Option Bool} (h:x=some (if g then decide (m < l) else decide (l < m))) :
 (if a=b then x else some (if g then decide (a > b) else decide (a < b)))=some (if g then decide (b :: m < a :: l) else decide (a :: l < b :: m)):=by
 by_cases e:a=b
 ·rw [if_pos e,h,e]
  cases g
  ·exact congrArg some (decide_eq_decide.mpr (by rw [List.cons_lt_cons_iff];exact⟨λh=> .inr ⟨rfl,h⟩,λh=>h.elim (λh=>absurd h (Int.lt_irrefl _)) And.right⟩))
  ·exact congrArg some (decide_eq_decide.mpr (by rw [List.cons_lt_cons_iff];exact⟨λh=> .inr ⟨rfl,h⟩,λh=>h.elim (λh=>absurd h (Int.lt_irrefl _)) And.right⟩))
 ·rw [if_neg e]
  cases g
  ·exact congrArg some (decide_eq_decide.mpr (by rw [List.cons_lt_cons_iff];exact⟨.inl,λh=>h.elim id λh=>absurd h.1 e⟩))
  ·exact congrArg some (decide_eq_decide.mpr (by rw [List.cons_lt_cons_iff];exact⟨.inl,λh=>h.elim id λh=>absurd h.1.symm e⟩))
theorem pord_key (g:Bool) {r r':Rw} (h:DOk r.d) (h':DOk r'.d):pord g (key r) (key r')= .val (if g then rlt r' r else rlt r r'):=by
 show(match pords g [.int r.b, .int r.e, .int (rk r.d), .int (intOf r.d), .str (strOf r.d)] [.int r'.b, .int r'.e, .int (rk r'.d), .int (intOf r'.d), .str (strOf r'.d)] with | some r=>LtR.val r | none=> .no)=_
 rw [pordsI,pordsI,pordsI,pordsI,pordsS g (strOf_ok h) (strOf_ok h')]
 rw [str_lt_cpl,str_lt_cpl,step_lt g _ _ (cpl r.d) (cpl r'.d) rfl,step_lt g _ _ _ _ rfl,step_lt g _ _ _ _ rfl,step_lt g _ _ _ _ rfl]
 rfl
theorem toPy_key {r:Rw} (h:DOk r.d):toPy (key r)=some (.tuple [.int r.b, .int r.e, .int (rk r.d), .int (intOf r.d), .str (strOf r.d)]):=by
 show((some (PyData.int r.b)).bind λd=>((some (PyData.int r.e)).bind λd=>((some (PyData.int (rk r.d))).bind λd=>((some (PyData.int (intOf r.d))).bind λd=>((toPy (.str (strOf r.d))).bind λd=>(some []).map (d :: ·)).map (d :: ·)).map (d :: ·)).map (d :: ·)).map (d :: ·)).map PyData.tuple=_
 rw [toPyS (strOf_ok h)];rfl
noncomputable abbrev ivo (r:Rw):O:= .inst 1 [(21, .int r.b),(41, .int r.e),(33,r.d)]
noncomputable def dk (d:V):List Int:=rk d :: intOf d :: cpl d
noncomputable def pd:V->PyData
 | .int i=> .int i
 | .str s=> .str s
 | _=> .none
theorem DOk.vr {d:V} (h:DOk d):vRef d=Option.none:=by cases h <;> rfl
theorem toPyD {d:V} (h:DOk d):toPy d=some (pd d)/\SeqAt.shaped (pd d)=true:=by
 cases h with
 | none=>exact⟨rfl,rfl⟩
 | int i=>exact⟨rfl,rfl⟩
 | str h=>exact⟨toPyS h,shpS h⟩
theorem dk_inj {d d':V} (h:DOk d) (h':DOk d') (e:dk d=dk d'):d=d':=dv_inj h h' (List.cons.inj e).1 (List.cons.inj (List.cons.inj e).2).1 (List.cons.inj (List.cons.inj e).2).2
theorem peqD {d d':V} (h:DOk d) (h':DOk d'):peq d d'=some (decide (dk d=dk d')):=by
 have z:peq d d'=some (PyData.eqv (pd d) (pd d')):=by
  unfold peq peqO
  rw [(toPyD h).1,(toPyD h').1]
  show(if(SeqAt.shaped (pd d) && SeqAt.shaped (pd d'))=true then _ else _)=_
  rw [(toPyD h).2,(toPyD h').2];rfl
 rw [z]
 refine congrArg some ?_
 by_cases e:dk d=dk d'
 ·rw [decide_eq_true e]
  obtain rfl:=dk_inj h h' e
  cases h with
  | none=>rfl
  | int i=>exact beq_self_eq_true i
  | @str s _=>exact beq_self_eq_true s
 ·rw [decide_eq_false e]
  cases h with
  | none=>cases h' <;> first | exact absurd rfl e | rfl
  | int i=>cases h' with
   | int j=>exact beq_false_of_ne λq=>e (by rw [q])
   | _=>rfl
  | @str s _=>cases h' with
   | @str s' _=>exact beq_false_of_ne λq=>e (by rw [q])
   | _=>rfl
theorem peq2 (a b c d:Int):peq (.tup [.int a, .int b]) (.tup [.int c, .int d])=some (decide (a=c) && (decide (b=d) && true)):=rfl
theorem c3_ne {r r':Rw} (h:kl r≠kl r'):c3 r r'=if rlt r r'=true then -1 else 1:=by
 unfold c3
 by_cases e:rlt r r'=true
 ·rw [if_pos e,if_pos e]
 ·rw [if_neg e,if_neg e]
  refine if_pos ?_
  by_cases g:rlt r' r=true
  ·exact g
  ·exact absurd (List.le_antisymm (List.not_lt.mp (of_decide_eq_false (Bool.eq_false_iff.mpr g))) (List.not_lt.mp (of_decide_eq_false (Bool.eq_false_iff.mpr e)))) h
theorem c3_eq {r r':Rw} (h:kl r=kl r'):c3 r r'=0:=by
 unfold c3 rlt
 rw [h,decide_eq_false (List.lt_irrefl (kl r'))]
 rfl
theorem rlt_be {r r':Rw} (h: ¬ (r.b=r'.b/\r.e=r'.e)):pord false (.tup [.int r.b, .int r.e]) (.tup [.int r'.b, .int r'.e])= .val (rlt r r'):=by
 show(match pords false [.int r.b, .int r.e] [.int r'.b, .int r'.e] with | some r=>LtR.val r | none=> .no)=_
 rw [pordsI,pordsI]
 unfold rlt
 by_cases e:r.b=r'.b
 ·have e2: ¬r.e=r'.e:=λq=>h ⟨e,q⟩
  rw [if_pos e,if_neg e2]
  exact congrArg LtR.val (decide_eq_decide.mpr (by
   show r.e < r'.e ↔ r.b :: r.e :: dk r.d < r'.b :: r'.e :: dk r'.d
   rw [List.cons_lt_cons_iff,List.cons_lt_cons_iff]
   exact⟨λh=> .inr ⟨e, .inl h⟩,λh=>h.elim (λh=>absurd h (by rw [e];exact Int.lt_irrefl _)) λh=>h.2.elim id λh=>absurd h.1 e2⟩))
 ·rw [if_neg e]
  exact congrArg LtR.val (decide_eq_decide.mpr (by
   show r.b < r'.b ↔ r.b :: r.e :: dk r.d < r'.b :: r'.e :: dk r'.d
   rw [List.cons_lt_cons_iff]
   exact⟨.inl,λh=>h.elim id λh=>absurd h.1 e⟩))
theorem rlt_d {r r':Rw} (h1:r.b=r'.b) (h2:r.e=r'.e):rlt r r'=decide (dk r.d < dk r'.d):=decide_eq_decide.mpr (by
 show r.b :: r.e :: dk r.d < r'.b :: r'.e :: dk r'.d ↔ _
 rw [h1,h2,List.cons_lt_cons_iff,List.cons_lt_cons_iff]
 exact⟨λh=>h.elim (λh=>absurd h (Int.lt_irrefl _)) λh=>h.2.elim (λh=>absurd h (Int.lt_irrefl _)) And.right,λh=> .inr ⟨rfl, .inr ⟨rfl,h⟩⟩⟩)
theorem pord_d {d d':V} (h:DOk d) (h':DOk d') (ne:dk d≠dk d') (hk:rk d=rk d'):pord false d d'= .val (decide (dk d < dk d')):=by
 cases h with
 | none=>cases h' with
  | none=>exact absurd rfl ne
  | int i=>exact nomatch (show(0:Int)=1 from hk)
  | str _=>exact nomatch (show(0:Int)=2 from hk)
 | int i=>cases h' with
  | none=>exact nomatch (show(1:Int)=0 from hk)
  | int j=>exact congrArg LtR.val (decide_eq_decide.mpr (by
   show i < j ↔ (1:Int) :: i :: cpl _ < (1:Int) :: j :: cpl _
   rw [List.cons_lt_cons_iff,List.cons_lt_cons_iff]
   exact⟨λh=> .inr ⟨rfl, .inl h⟩,λh=>h.elim (λh=>absurd h (Int.lt_irrefl _)) λh=>h.2.elim id λh=>absurd h.2 (List.lt_irrefl _)⟩))
  | str _=>exact nomatch (show(1:Int)=2 from hk)
 | @str s _=>cases h' with
  | none=>exact nomatch (show(2:Int)=0 from hk)
  | int i=>exact nomatch (show(2:Int)=1 from hk)
  | @str s' _=>exact congrArg LtR.val ((str_lt_cpl (.str s) (.str s')).trans (decide_eq_decide.mpr (by
   show cpl _ < cpl _ ↔ (2:Int) :: intOf _ :: cpl _ < (2:Int) :: intOf _ :: cpl _
   rw [List.cons_lt_cons_iff,List.cons_lt_cons_iff]
   exact⟨λh=> .inr ⟨rfl, .inr ⟨rfl,h⟩⟩,λh=>h.elim (λh=>absurd h (Int.lt_irrefl _)) λh=>h.2.elim (λh=>absurd h (Int.lt_irrefl _)) And.right⟩)))
noncomputable def knm:V->Str
 | .none=> "NoneType"
 | .int _=> "int"
 | _=> "str"
theorem dlt_k {d d':V} (hk:rk d≠rk d'):decide (dk d < dk d')=decide (rk d < rk d'):=decide_eq_decide.mpr (by
 show rk d :: _ < rk d' :: _ ↔ _
 rw [List.cons_lt_cons_iff]
 exact⟨λh=>h.elim id λh=>absurd h.1 hk, .inl⟩)
theorem knm_ord {d d':V} (h:DOk d) (h':DOk d') (hk:rk d≠rk d'):pord false d d'= .err/\peq (.str (knm d)) (.str (knm d'))=some false/\pord false (.str (knm d)) (.str (knm d'))= .val (decide (rk d < rk d')):=by
 cases h <;> cases h' <;> first | exact absurd rfl hk | exact⟨rfl,(by decide +kernel:peq (.str "NoneType") (.str "int")=some false),(by decide +kernel:pord false (.str "NoneType") (.str "int")= .val true)⟩ |
  exact⟨rfl,(by decide +kernel:peq (.str "NoneType") (.str "str")=some false),(by decide +kernel:pord false (.str "NoneType") (.str "str")= .val true)⟩ |
  exact⟨rfl,(by decide +kernel:peq (.str "int") (.str "NoneType")=some false),(by decide +kernel:pord false (.str "int") (.str "NoneType")= .val false)⟩ |
  exact⟨rfl,(by decide +kernel:peq (.str "int") (.str "str")=some false),(by decide +kernel:pord false (.str "int") (.str "str")= .val true)⟩ |
  exact⟨rfl,(by decide +kernel:peq (.str "str") (.str "NoneType")=some false),(by decide +kernel:pord false (.str "str") (.str "NoneType")= .val false)⟩ |
  exact⟨rfl,(by decide +kernel:peq (.str "str") (.str "int")=some false),(by decide +kernel:pord false (.str "str") (.str "int")= .val false)⟩
theorem ltX {C:CallT}{P:Prog}{a b:V}{H:Hp} (ha:vRef a=none) (hb:vRef b=none) (h:pord false a b= .err) (hd:P.hd=false):cmpOp C P .Lt a b H= .ex H:=by
 unfold cmpOp ltv clsOf
 rw [ha,hb,h]
 show((if P.hd=true then stuck else tyErr) >>= λr=>pure (V.bool r)) H=Res.ex H
 rw [hd];rfl
noncomputable abbrev P9h (is:List Int):Prog:={P09 with scr:=is,hd:=true}
section
variable {n:Nat}{is:List Int}{H:Hp}{a b:Nat}{r r':Rw}
theorem iv_null (ga:H[a]? =some (ivo r)):run (n + 1) (P9 is) 22 [] [.ref a] [] H= .ok (.bool (decide (r.e<=r.b))) H:=by
 refine qPur (qRun (ρ:=⟨[some (.ref a)],[none]⟩) rfl rfl rfl λDd=> ?_)
 (repeat first|with_reducible apply sCat0|with_reducible apply sCat1|(with_reducible apply sAsgN;focus ((with_reducible (repeat' first|assumption|apply p6|apply p8|apply p15|apply p48|with_unfolding_all exact rfl));done))|(with_reducible apply sRetP;focus ((with_reducible (repeat' first|assumption|apply p6|apply p8|apply p15|apply p48|with_unfolding_all exact rfl));done)))
 exact⟨rfl,rfl⟩
theorem iv_has {p:Int} (ga:H[a]? =some (ivo r)):run (n + 1) (P9 is) 18 [] [.ref a, .int p] [] H= .ok (.bool (decide (r.b<=p) && decide (p < r.e))) H:=by
 refine qPur (qRun (ρ:=⟨[some (.ref a),some (.int p)],[none,none]⟩) rfl rfl rfl λDd=> ?_)
 (repeat first|with_reducible apply sCat0|with_reducible apply sCat1|(with_reducible apply sAsgN;focus ((with_reducible (repeat' first|assumption|apply p6|apply p8|apply p45|apply p47|apply p16|with_unfolding_all exact rfl));done))|(with_reducible apply sRetP;focus ((with_reducible (repeat' first|assumption|apply p6|apply p8|apply p45|apply p47|apply p16|with_unfolding_all exact rfl));done)))
 exact⟨rfl,rfl⟩
theorem iv_eq (ga:H[a]? =some (ivo r)) (gb:H[b]? =some (ivo r')) (h:DOk r.d) (h':DOk r'.d):run (n + 1) (P9 is) 24 [] [.ref a, .ref b] [] H= .ok (.bool (decide (kl r=kl r'))) H:=by
 refine qPur (qRun (ρ:=⟨[some (.ref a),some (.ref b)],[none,none]⟩) rfl rfl rfl λDd=>(sRetP (v:= .bool (decide (kl r=kl r'))) ?_ ⟨rfl,rfl⟩))
 have hd:PC .Eq r.d r'.d (decide (dk r.d=dk r'.d)):=cEq h.vr (peqD h h')
 by_cases h1:r.b=r'.b
 ·have z1:PC .Eq (.int r.b) (.int r'.b) true:=decide_eq_true h1▸cEq rfl (peqI _ _)
  refine pAndT (by(with_reducible (repeat' first|assumption|apply p6|apply p8|apply p15|apply p55|with_unfolding_all exact rfl))) ?_
  by_cases h2:r.e=r'.e
  ·have z2:PC .Eq (.int r.e) (.int r'.e) true:=decide_eq_true h2▸cEq rfl (peqI _ _)
   refine pAndT (by(with_reducible (repeat' first|assumption|apply p6|apply p8|apply p15|apply p55|with_unfolding_all exact rfl))) ?_
   rw [show decide (kl r=kl r')=decide (dk r.d=dk r'.d) from decide_eq_decide.mpr ⟨λe=>(List.cons.inj (List.cons.inj e).2).2,λe=>by
    show r.b :: r.e :: dk r.d=r'.b :: r'.e :: dk r'.d
    rw [h1,h2,e]⟩]
   (with_reducible (repeat' first|assumption|apply p6|apply p8|apply p15|apply p55|with_unfolding_all exact rfl))
  ·have z2:PC .Eq (.int r.e) (.int r'.e) false:=decide_eq_false h2▸cEq rfl (peqI _ _)
   rw [decide_eq_false λe:kl r=kl r'=>h2 (List.cons.inj (List.cons.inj e).2).1]
   exact pAndF (by(with_reducible (repeat' first|assumption|apply p6|apply p8|apply p15|apply p55|with_unfolding_all exact rfl)))
 ·have z1:PC .Eq (.int r.b) (.int r'.b) false:=decide_eq_false h1▸cEq rfl (peqI _ _)
  rw [decide_eq_false λe:kl r=kl r'=>h1 (List.cons.inj e).1]
  exact pAndF (by(with_reducible (repeat' first|assumption|apply p6|apply p8|apply p15|apply p55|with_unfolding_all exact rfl)))
theorem kname {d:V} (h:DOk d):run (n + 1) (P9h is) 14 [] [d] [] H= .ok (.str (knm d)) H:=by
 refine qPur (qRun (ρ:=⟨[some d,none,none,none,none],[none,none,none,none,none]⟩) rfl rfl rfl λDd=> ?_)
 cases h with
 | none=>
  refine sIfT (p37 (p6 rfl) p1 (p53 rfl)) ?_
  (repeat first|with_reducible apply sCat0|with_reducible apply sCat1|(with_reducible apply sAsgN;focus ((with_reducible (repeat' first|assumption|apply p6|apply p37|apply p35|apply p40|apply p1|apply p4|apply p53|with_unfolding_all exact rfl));done))|(with_reducible apply sRetP;focus ((with_reducible (repeat' first|assumption|apply p6|apply p37|apply p35|apply p40|apply p1|apply p4|apply p53|with_unfolding_all exact rfl));done)))
  exact⟨rfl,rfl⟩
 | int i=>
  refine sIfF (p37 (p6 rfl) p1 (p53 rfl)) ?_
  (repeat first|with_reducible apply sCat0|with_reducible apply sCat1|(with_reducible apply sAsgN;focus ((with_reducible (repeat' first|assumption|apply p6|apply p37|apply p35|apply p40|apply p1|apply p4|apply p53|with_unfolding_all exact rfl));done))|(with_reducible apply sRetP;focus ((with_reducible (repeat' first|assumption|apply p6|apply p37|apply p35|apply p40|apply p1|apply p4|apply p53|with_unfolding_all exact rfl));done)))
  refine sIfF (p35 (pIsi2 (p6 rfl) rfl (.inr (.inl rfl))) p40) ?_
  (repeat first|with_reducible apply sCat0|with_reducible apply sCat1|(with_reducible apply sAsgN;focus ((with_reducible (repeat' first|assumption|apply p6|apply p37|apply p35|apply p40|apply p1|apply p4|apply p53|with_unfolding_all exact rfl));done))|(with_reducible apply sRetP;focus ((with_reducible (repeat' first|assumption|apply p6|apply p37|apply p35|apply p40|apply p1|apply p4|apply p53|with_unfolding_all exact rfl));done)))
  refine sIfT (p35 (pIsi2 (p6 rfl) rfl (.inl rfl)) p40) ?_
  (repeat first|with_reducible apply sCat0|with_reducible apply sCat1|(with_reducible apply sAsgN;focus ((with_reducible (repeat' first|assumption|apply p6|apply p37|apply p35|apply p40|apply p1|apply p4|apply p53|with_unfolding_all exact rfl));done))|(with_reducible apply sRetP;focus ((with_reducible (repeat' first|assumption|apply p6|apply p37|apply p35|apply p40|apply p1|apply p4|apply p53|with_unfolding_all exact rfl));done)))
  exact⟨rfl,rfl⟩
 | str h=>
  refine sIfF (p37 (p6 rfl) p1 (p53 rfl)) ?_
  (repeat first|with_reducible apply sCat0|with_reducible apply sCat1|(with_reducible apply sAsgN;focus ((with_reducible (repeat' first|assumption|apply p6|apply p37|apply p35|apply p40|apply p1|apply p4|apply p53|with_unfolding_all exact rfl));done))|(with_reducible apply sRetP;focus ((with_reducible (repeat' first|assumption|apply p6|apply p37|apply p35|apply p40|apply p1|apply p4|apply p53|with_unfolding_all exact rfl));done)))
  refine sIfF (p35 (pIsi3 (p6 rfl) rfl (.inr (.inl rfl))) p40) ?_
  (repeat first|with_reducible apply sCat0|with_reducible apply sCat1|(with_reducible apply sAsgN;focus ((with_reducible (repeat' first|assumption|apply p6|apply p37|apply p35|apply p40|apply p1|apply p4|apply p53|with_unfolding_all exact rfl));done))|(with_reducible apply sRetP;focus ((with_reducible (repeat' first|assumption|apply p6|apply p37|apply p35|apply p40|apply p1|apply p4|apply p53|with_unfolding_all exact rfl));done)))
  refine sIfF (p35 (pIsi3 (p6 rfl) rfl (.inl rfl)) p40) ?_
  (repeat first|with_reducible apply sCat0|with_reducible apply sCat1|(with_reducible apply sAsgN;focus ((with_reducible (repeat' first|assumption|apply p6|apply p37|apply p35|apply p40|apply p1|apply p4|apply p53|with_unfolding_all exact rfl));done))|(with_reducible apply sRetP;focus ((with_reducible (repeat' first|assumption|apply p6|apply p37|apply p35|apply p40|apply p1|apply p4|apply p53|with_unfolding_all exact rfl));done)))
  refine sIfT (p35 (pIsi3 (p6 rfl) rfl (.inr (.inr rfl))) p40) ?_
  (repeat first|with_reducible apply sCat0|with_reducible apply sCat1|(with_reducible apply sAsgN;focus ((with_reducible (repeat' first|assumption|apply p6|apply p37|apply p35|apply p40|apply p1|apply p4|apply p53|with_unfolding_all exact rfl));done))|(with_reducible apply sRetP;focus ((with_reducible (repeat' first|assumption|apply p6|apply p37|apply p35|apply p40|apply p1|apply p4|apply p53|with_unfolding_all exact rfl));done)))
  exact⟨rfl,rfl⟩
theorem iv_cmp (ga:H[a]? =some (ivo r)) (gb:H[b]? =some (ivo r')) (h:DOk r.d) (h':DOk r'.d):run (n + 2) (P9 is) 25 [] [.ref a, .ref b] [] H= .ok (.int (c3 r r')) H:=by
 refine qPur (qRunH (ρ:=⟨[some (.ref a),some (.ref b),none,none,none,none,none,none],List.replicate 8 none⟩) rfl rfl rfl ?_)
 (repeat first|with_reducible apply sCat0|with_reducible apply sCat1|(with_reducible apply sAsgN;focus ((with_reducible (repeat' first|assumption|apply p6|apply p8|apply p34|apply p33|apply p3|apply p37|apply p35|apply p40|apply p9|apply p24|apply p27|apply p13|apply p55|with_unfolding_all exact rfl));done))|(with_reducible apply sRetP;focus ((with_reducible (repeat' first|assumption|apply p6|apply p8|apply p34|apply p33|apply p3|apply p37|apply p35|apply p40|apply p9|apply p24|apply p27|apply p13|apply p55|with_unfolding_all exact rfl));done)))
 refine sIfT (p35 (p27 (by(with_reducible (repeat' first|assumption|apply p6|apply p8|apply p34|apply p33|apply p3|apply p37|apply p35|apply p40|apply p9|apply p24|apply p27|apply p13|apply p55|with_unfolding_all exact rfl))) gb) p40) ?_
 (repeat first|with_reducible apply sCat0|with_reducible apply sCat1|(with_reducible apply sAsgN;focus ((with_reducible (repeat' first|assumption|apply p6|apply p8|apply p34|apply p33|apply p3|apply p37|apply p35|apply p40|apply p9|apply p24|apply p27|apply p13|apply p55|with_unfolding_all exact rfl));done))|(with_reducible apply sRetP;focus ((with_reducible (repeat' first|assumption|apply p6|apply p8|apply p34|apply p33|apply p3|apply p37|apply p35|apply p40|apply p9|apply p24|apply p27|apply p13|apply p55|with_unfolding_all exact rfl));done)))
 by_cases hb:r.b=r'.b/\r.e=r'.e
 ·have z :PC .NotEq (.tup [.int r.b, .int r.e]) (.tup [.int r'.b, .int r'.e]) false:=cNe (r:=true) rfl (by rw [peq2,decide_eq_true hb.1,decide_eq_true hb.2];rfl)
  refine sIfF (by(with_reducible (repeat' first|assumption|apply p6|apply p8|apply p34|apply p33|apply p3|apply p37|apply p35|apply p40|apply p9|apply p24|apply p27|apply p13|apply p55|with_unfolding_all exact rfl))) ?_
  (repeat first|with_reducible apply sCat0|with_reducible apply sCat1|(with_reducible apply sAsgN;focus ((with_reducible (repeat' first|assumption|apply p6|apply p8|apply p34|apply p33|apply p3|apply p37|apply p35|apply p40|apply p9|apply p24|apply p27|apply p13|apply p55|with_unfolding_all exact rfl));done))|(with_reducible apply sRetP;focus ((with_reducible (repeat' first|assumption|apply p6|apply p8|apply p34|apply p33|apply p3|apply p37|apply p35|apply p40|apply p9|apply p24|apply p27|apply p13|apply p55|with_unfolding_all exact rfl));done)))
  have zd:PC .Eq r.d r'.d (decide (dk r.d=dk r'.d)):=cEq h.vr (peqD h h')
  by_cases hd:dk r.d=dk r'.d
  ·rw [c3_eq (show kl r=kl r' by
    show r.b :: r.e :: dk r.d=r'.b :: r'.e :: dk r'.d
    rw [hb.1,hb.2,hd])]
   rw [decide_eq_true hd] at zd
   exact sTry (t:=true) (by(with_reducible (repeat' first|assumption|apply p6|apply p8|apply p34|apply p33|apply p3|apply p37|apply p35|apply p40|apply p9|apply p24|apply p27|apply p13|apply p55|with_unfolding_all exact rfl))) p3 ⟨rfl,rfl⟩
  ·rw [decide_eq_false hd] at zd
   rw [c3_ne λe:kl r=kl r'=>hd (List.cons.inj (List.cons.inj e).2).2,rlt_d hb.1 hb.2]
   have fin: ∀c:Bool,(if c=true then V.int (-1) else V.int 1)= .int (if c=true then -1 else 1):=λc=>by cases c <;> rfl
   by_cases hk:rk r.d=rk r'.d
   ·have zl:PC .Lt r.d r'.d (decide (dk r.d < dk r'.d)):=cLt h.vr h'.vr (pord_d h h' hd hk)
    exact sTry (t:=false) (by(with_reducible (repeat' first|assumption|apply p6|apply p8|apply p34|apply p33|apply p3|apply p37|apply p35|apply p40|apply p9|apply p24|apply p27|apply p13|apply p55|with_unfolding_all exact rfl))) (pIfB (r:=decide (dk r.d < dk r'.d)) (by(with_reducible (repeat' first|assumption|apply p6|apply p8|apply p34|apply p33|apply p3|apply p37|apply p35|apply p40|apply p9|apply p24|apply p27|apply p13|apply p55|with_unfolding_all exact rfl))) p13 p3) ⟨fin _,rfl⟩
   ·have z:=knm_ord h h' hk
    rw [dlt_k hk]
    have k1:run (n + 1) (P9h is) 14 [] [r.d] [] H= .ok (.str (knm r.d)) H:=kname h
    have k2:run (n + 1) (P9h is) 14 [] [r'.d] [] H= .ok (.str (knm r'.d)) H:=kname h'
    have ze:PC .Eq (.str (knm r.d)) (.str (knm r'.d)) false:=cEq rfl z.2.1
    have zl:PC .Lt (.str (knm r.d)) (.str (knm r'.d)) (decide (rk r.d < rk r'.d)):=cLt rfl rfl z.2.2
    refine sTryX (by(with_reducible (repeat' first|assumption|apply p6|apply p8|apply p34|apply p33|apply p3|apply p37|apply p35|apply p40|apply p9|apply p24|apply p27|apply p13|apply p55|with_unfolding_all exact rfl))) (v1:=r.d) (v2:=r'.d) (by(with_reducible (repeat' first|assumption|apply p6|apply p8|apply p34|apply p33|apply p3|apply p37|apply p35|apply p40|apply p9|apply p24|apply p27|apply p13|apply p55|with_unfolding_all exact rfl))) (by(with_reducible (repeat' first|assumption|apply p6|apply p8|apply p34|apply p33|apply p3|apply p37|apply p35|apply p40|apply p9|apply p24|apply p27|apply p13|apply p55|with_unfolding_all exact rfl))) (ltX h.vr h'.vr z.1 rfl) ?_
    ·refine sAsgN (p24 (p34 (by(with_reducible (repeat' first|assumption|apply p6|apply p8|apply p34|apply p33|apply p3|apply p37|apply p35|apply p40|apply p9|apply p24|apply p27|apply p13|apply p55|with_unfolding_all exact rfl))) p33) k1 rfl) ?_
     refine sAsgN (p24 (p34 (by(with_reducible (repeat' first|assumption|apply p6|apply p8|apply p34|apply p33|apply p3|apply p37|apply p35|apply p40|apply p9|apply p24|apply p27|apply p13|apply p55|with_unfolding_all exact rfl))) p33) k2 rfl) ?_
     refine sIfF (by(with_reducible (repeat' first|assumption|apply p6|apply p8|apply p34|apply p33|apply p3|apply p37|apply p35|apply p40|apply p9|apply p24|apply p27|apply p13|apply p55|with_unfolding_all exact rfl))) ?_
     (repeat first|with_reducible apply sCat0|with_reducible apply sCat1|(with_reducible apply sAsgN;focus ((with_reducible (repeat' first|assumption|apply p6|apply p8|apply p34|apply p33|apply p3|apply p37|apply p35|apply p40|apply p9|apply p24|apply p27|apply p13|apply p55|with_unfolding_all exact rfl));done))|(with_reducible apply sRetP;focus ((with_reducible (repeat' first|assumption|apply p6|apply p8|apply p34|apply p33|apply p3|apply p37|apply p35|apply p40|apply p9|apply p24|apply p27|apply p13|apply p55|with_unfolding_all exact rfl));done)))
     exact sRetP (pIfB (by(with_reducible (repeat' first|assumption|apply p6|apply p8|apply p34|apply p33|apply p3|apply p37|apply p35|apply p40|apply p9|apply p24|apply p27|apply p13|apply p55|with_unfolding_all exact rfl))) p13 p3) ⟨fin _,rfl⟩
 ·have z:PC .NotEq (.tup [.int r.b, .int r.e]) (.tup [.int r'.b, .int r'.e]) true:=cNe (r:=false) rfl (by
   rw [peq2]
   refine congrArg some (Bool.eq_false_iff.mpr λe=>hb ?_)
   have e:=Bool.and_eq_true_iff.mp e
   exact⟨of_decide_eq_true e.1,of_decide_eq_true (Bool.and_eq_true_iff.mp e.2).1⟩)
  have zl:PC .Lt (.tup [.int r.b, .int r.e]) (.tup [.int r'.b, .int r'.e]) (rlt r r'):=cLt rfl rfl (rlt_be hb)
  rw [c3_ne λe:kl r=kl r'=>hb ⟨(List.cons.inj e).1,(List.cons.inj (List.cons.inj e).2).1⟩]
  refine sIfT (by(with_reducible (repeat' first|assumption|apply p6|apply p8|apply p34|apply p33|apply p3|apply p37|apply p35|apply p40|apply p9|apply p24|apply p27|apply p13|apply p55|with_unfolding_all exact rfl))) ?_
  (repeat first|with_reducible apply sCat0|with_reducible apply sCat1|(with_reducible apply sAsgN;focus ((with_reducible (repeat' first|assumption|apply p6|apply p8|apply p34|apply p33|apply p3|apply p37|apply p35|apply p40|apply p9|apply p24|apply p27|apply p13|apply p55|with_unfolding_all exact rfl));done))|(with_reducible apply sRetP;focus ((with_reducible (repeat' first|assumption|apply p6|apply p8|apply p34|apply p33|apply p3|apply p37|apply p35|apply p40|apply p9|apply p24|apply p27|apply p13|apply p55|with_unfolding_all exact rfl));done)))
  exact sRetP (pIfB (by(with_reducible (repeat' first|assumption|apply p6|apply p8|apply p34|apply p33|apply p3|apply p37|apply p35|apply p40|apply p9|apply p24|apply p27|apply p13|apply p55|with_unfolding_all exact rfl))) p13 p3) ⟨by cases rlt r r' <;> rfl,rfl⟩
end
section
variable {n:Nat}{is:List Int}{H:Hp}{a b:Nat}{r r':Rw}
theorem c3_lt:decide (c3 r r' < 0)=rlt r r':=by
 unfold c3
 cases e:rlt r r'
 ·cases rlt r' r <;> rfl
 ·rfl
theorem c3_gt:decide (c3 r r' > 0)=rlt r' r:=by
 unfold c3
 cases e:rlt r r'
 ·cases rlt r' r <;> rfl
 ·rw [rlt_asy e];rfl
theorem iv_lt (ga:H[a]? =some (ivo r)) (gb:H[b]? =some (ivo r')) (h:DOk r.d) (h':DOk r'.d):run (n + 3) (P9 is) 26 [] [.ref a, .ref b] [] H= .ok (.bool (rlt r r')) H:=by
 have k:run (n + 2) (P9 is) 25 [] [.ref a, .ref b] [] H= .ok (.int (c3 r r')) H:=iv_cmp ga gb h h'
 refine qPur (qRun (ρ:=⟨[some (.ref a),some (.ref b)],[none,none]⟩) rfl rfl rfl λDd=> ?_)
 (repeat first|with_reducible apply sCat0|with_reducible apply sCat1|(with_reducible apply sAsgN;focus ((with_reducible (repeat' first|assumption|apply p6|apply p34|apply p33|apply p3|apply p15|apply p45|apply p23|with_unfolding_all exact rfl));done))|(with_reducible apply sRetP;focus ((with_reducible (repeat' first|assumption|apply p6|apply p34|apply p33|apply p3|apply p15|apply p45|apply p23|with_unfolding_all exact rfl));done)))
 exact⟨congrArg V.bool c3_lt,rfl⟩
theorem iv_gt (ga:H[a]? =some (ivo r)) (gb:H[b]? =some (ivo r')) (h:DOk r.d) (h':DOk r'.d):run (n + 3) (P9 is) 27 [] [.ref a, .ref b] [] H= .ok (.bool (rlt r' r)) H:=by
 have k:run (n + 2) (P9 is) 25 [] [.ref a, .ref b] [] H= .ok (.int (c3 r r')) H:=iv_cmp ga gb h h'
 refine qPur (qRun (ρ:=⟨[some (.ref a),some (.ref b)],[none,none]⟩) rfl rfl rfl λDd=> ?_)
 (repeat first|with_reducible apply sCat0|with_reducible apply sCat1|(with_reducible apply sAsgN;focus ((with_reducible (repeat' first|assumption|apply p6|apply p34|apply p33|apply p3|apply p15|apply p46|apply p23|with_unfolding_all exact rfl));done))|(with_reducible apply sRetP;focus ((with_reducible (repeat' first|assumption|apply p6|apply p34|apply p33|apply p3|apply p15|apply p46|apply p23|with_unfolding_all exact rfl));done)))
 exact⟨congrArg V.bool c3_gt,rfl⟩
theorem iv_cmpP {p:Int} (ga:H[a]? =some (ivo r)):run (n + 1) (P9 is) 25 [] [.ref a, .int p] [] H= .ok (.int (if r.b < p then -1 else 1)) H:=by
 refine qPur (qRun (ρ:=⟨[some (.ref a),some (.int p),none,none,none,none,none,none],List.replicate 8 none⟩) rfl rfl rfl λDd=> ?_)
 (repeat first|with_reducible apply sCat0|with_reducible apply sCat1|(with_reducible apply sAsgN;focus ((with_reducible (repeat' first|assumption|apply p6|apply p8|apply p34|apply p33|apply p3|apply p37|apply p35|apply p40|apply p9|apply p28|apply p13|apply p55|with_unfolding_all exact rfl));done))|(with_reducible apply sRetP;focus ((with_reducible (repeat' first|assumption|apply p6|apply p8|apply p34|apply p33|apply p3|apply p37|apply p35|apply p40|apply p9|apply p28|apply p13|apply p55|with_unfolding_all exact rfl));done)))
 refine sIfF (p35 (p28 (by(with_reducible (repeat' first|assumption|apply p6|apply p8|apply p34|apply p33|apply p3|apply p37|apply p35|apply p40|apply p9|apply p28|apply p13|apply p55|with_unfolding_all exact rfl)))) p40) ?_
 (repeat first|with_reducible apply sCat0|with_reducible apply sCat1|(with_reducible apply sAsgN;focus ((with_reducible (repeat' first|assumption|apply p6|apply p8|apply p34|apply p33|apply p3|apply p37|apply p35|apply p40|apply p9|apply p28|apply p13|apply p55|with_unfolding_all exact rfl));done))|(with_reducible apply sRetP;focus ((with_reducible (repeat' first|assumption|apply p6|apply p8|apply p34|apply p33|apply p3|apply p37|apply p35|apply p40|apply p9|apply p28|apply p13|apply p55|with_unfolding_all exact rfl));done)))
 have z:PC .NotEq (.tup [.int r.b, .int r.e]) (.tup [.int p]) true:=cNe (r:=false) rfl (show some (decide (r.b=p) && false)=some false from by rw [Bool.and_false])
 have zl:PC .Lt (.tup [.int r.b, .int r.e]) (.tup [.int p]) (decide (r.b < p)):=cLt rfl rfl (by
  show(match pords false [.int r.b, .int r.e] [.int p] with | some r=>LtR.val r | none=> .no)=_
  rw [pordsI]
  by_cases e:r.b=p
  ·rw [if_pos e,decide_eq_false (by rw [e];exact Int.lt_irrefl _)];rfl
  ·rw [if_neg e];rfl)
 refine sIfT (by(with_reducible (repeat' first|assumption|apply p6|apply p8|apply p34|apply p33|apply p3|apply p37|apply p35|apply p40|apply p9|apply p28|apply p13|apply p55|with_unfolding_all exact rfl))) ?_
 (repeat first|with_reducible apply sCat0|with_reducible apply sCat1|(with_reducible apply sAsgN;focus ((with_reducible (repeat' first|assumption|apply p6|apply p8|apply p34|apply p33|apply p3|apply p37|apply p35|apply p40|apply p9|apply p28|apply p13|apply p55|with_unfolding_all exact rfl));done))|(with_reducible apply sRetP;focus ((with_reducible (repeat' first|assumption|apply p6|apply p8|apply p34|apply p33|apply p3|apply p37|apply p35|apply p40|apply p9|apply p28|apply p13|apply p55|with_unfolding_all exact rfl));done)))
 exact sRetP (pIfB (by(with_reducible (repeat' first|assumption|apply p6|apply p8|apply p34|apply p33|apply p3|apply p37|apply p35|apply p40|apply p9|apply p28|apply p13|apply p55|with_unfolding_all exact rfl))) p13 p3) ⟨by by_cases c:r.b < p <;> simp [c,flV],rfl⟩
theorem iv_ltP {p:Int} (ga:H[a]? =some (ivo r)):run (n + 2) (P9 is) 26 [] [.ref a, .int p] [] H= .ok (.bool (decide (r.b < p))) H:=by
 have k:run (n + 1) (P9 is) 25 [] [.ref a, .int p] [] H= .ok (.int (if r.b < p then -1 else 1)) H:=iv_cmpP ga
 refine qPur (qRun (ρ:=⟨[some (.ref a),some (.int p)],[none,none]⟩) rfl rfl rfl λDd=> ?_)
 (repeat first|with_reducible apply sCat0|with_reducible apply sCat1|(with_reducible apply sAsgN;focus ((with_reducible (repeat' first|assumption|apply p6|apply p34|apply p33|apply p3|apply p15|apply p45|apply p23|with_unfolding_all exact rfl));done))|(with_reducible apply sRetP;focus ((with_reducible (repeat' first|assumption|apply p6|apply p34|apply p33|apply p3|apply p15|apply p45|apply p23|with_unfolding_all exact rfl));done)))
 exact⟨by by_cases c:r.b < p <;> simp [c,flV],rfl⟩
theorem iv_gtP {p:Int} (ga:H[a]? =some (ivo r)):run (n + 2) (P9 is) 27 [] [.ref a, .int p] [] H= .ok (.bool (decide (p<=r.b))) H:=by
 have k:run (n + 1) (P9 is) 25 [] [.ref a, .int p] [] H= .ok (.int (if r.b < p then -1 else 1)) H:=iv_cmpP ga
 refine qPur (qRun (ρ:=⟨[some (.ref a),some (.int p)],[none,none]⟩) rfl rfl rfl λDd=> ?_)
 (repeat first|with_reducible apply sCat0|with_reducible apply sCat1|(with_reducible apply sAsgN;focus ((with_reducible (repeat' first|assumption|apply p6|apply p34|apply p33|apply p3|apply p15|apply p46|apply p23|with_unfolding_all exact rfl));done))|(with_reducible apply sRetP;focus ((with_reducible (repeat' first|assumption|apply p6|apply p34|apply p33|apply p3|apply p15|apply p46|apply p23|with_unfolding_all exact rfl));done)))
 exact⟨congrArg V.bool (by
  by_cases c:r.b < p
  ·rw [if_pos c,decide_eq_false (Int.not_le.mpr c)];rfl
  ·rw [if_neg c,decide_eq_true (Int.not_lt.mp c)];rfl),rfl⟩
noncomputable abbrev rv (r:Rw):V:= .tup [.int r.b, .int r.e,r.d]
theorem law_key (h:DOk r.d):run (n + 1) (P9 is) 110 [] [rv r] [] H= .ok (key r) H:=by
 refine qPur (qRun (ρ:=⟨[some (rv r),none,none],[none,none,none]⟩) rfl rfl rfl λDd=> ?_)
 obtain⟨b,e,d⟩:=r
 cases h with
 | none=>
  have z:PC .Is .none .none true:=λ_ _ _=>rfl
  refine sIfT (by(with_reducible (repeat' first|assumption|apply p6|apply p34|apply p33|apply p3|apply p37|apply p35|apply p40|apply p9|apply p21|apply p1|apply p4|apply p55|with_unfolding_all exact rfl))) ?_
  (repeat first|with_reducible apply sCat0|with_reducible apply sCat1|(with_reducible apply sAsgN;focus ((with_reducible (repeat' first|assumption|apply p6|apply p34|apply p33|apply p3|apply p37|apply p35|apply p40|apply p9|apply p21|apply p1|apply p4|apply p55|with_unfolding_all exact rfl));done))|(with_reducible apply sRetP;focus ((with_reducible (repeat' first|assumption|apply p6|apply p34|apply p33|apply p3|apply p37|apply p35|apply p40|apply p9|apply p21|apply p1|apply p4|apply p55|with_unfolding_all exact rfl));done)))
  exact⟨rfl,rfl⟩
 | int i=>
  have z:PC .Is (.int i) .none false:=λ_ _ _=>rfl
  refine sIfF (by(with_reducible (repeat' first|assumption|apply p6|apply p34|apply p33|apply p3|apply p37|apply p35|apply p40|apply p9|apply p21|apply p1|apply p4|apply p55|with_unfolding_all exact rfl))) ?_
  refine sIfT (p35 (pIsi2 (by(with_reducible (repeat' first|assumption|apply p6|apply p34|apply p33|apply p3|apply p37|apply p35|apply p40|apply p9|apply p21|apply p1|apply p4|apply p55|with_unfolding_all exact rfl))) rfl (.inl rfl)) p40) ?_
  (repeat first|with_reducible apply sCat0|with_reducible apply sCat1|(with_reducible apply sAsgN;focus ((with_reducible (repeat' first|assumption|apply p6|apply p34|apply p33|apply p3|apply p37|apply p35|apply p40|apply p9|apply p21|apply p1|apply p4|apply p55|with_unfolding_all exact rfl));done))|(with_reducible apply sRetP;focus ((with_reducible (repeat' first|assumption|apply p6|apply p34|apply p33|apply p3|apply p37|apply p35|apply p40|apply p9|apply p21|apply p1|apply p4|apply p55|with_unfolding_all exact rfl));done)))
  exact⟨rfl,rfl⟩
 | @str s h=>
  have z:PC .Is (.str s) .none false:=λ_ _ _=>rfl
  refine sIfF (by(with_reducible (repeat' first|assumption|apply p6|apply p34|apply p33|apply p3|apply p37|apply p35|apply p40|apply p9|apply p21|apply p1|apply p4|apply p55|with_unfolding_all exact rfl))) ?_
  refine sIfF (p35 (pIsi3 (by(with_reducible (repeat' first|assumption|apply p6|apply p34|apply p33|apply p3|apply p37|apply p35|apply p40|apply p9|apply p21|apply p1|apply p4|apply p55|with_unfolding_all exact rfl))) rfl (.inl rfl)) p40) ?_
  (repeat first|with_reducible apply sCat0|with_reducible apply sCat1|(with_reducible apply sAsgN;focus ((with_reducible (repeat' first|assumption|apply p6|apply p34|apply p33|apply p3|apply p37|apply p35|apply p40|apply p9|apply p21|apply p1|apply p4|apply p55|with_unfolding_all exact rfl));done))|(with_reducible apply sRetP;focus ((with_reducible (repeat' first|assumption|apply p6|apply p34|apply p33|apply p3|apply p37|apply p35|apply p40|apply p9|apply p21|apply p1|apply p4|apply p55|with_unfolding_all exact rfl));done)))
  exact⟨rfl,rfl⟩
noncomputable def at9 (is:List Int) (k:Nat):Int:=if k < is.length then is.getD k 0 else 7 * (k:Int) + 3
theorem pMul {K:Kx}{a b:X}{m n:Int} (h:Pi K (.e a (.int m))) (k:Pi K (.e b (.int n))) (hm:Builtin.Int.intBits m<=shortFactorBits):Pi K (.e (.bin .Mult a b) (.int (m * n))) :=
 okB h (okB k (show(if Builtin.Int.intBits m<=shortFactorBits\/Builtin.Int.intBits n<=shortFactorBits then pure (V.int (m * n)) else stuck:M V) K.H=_ by rw [if_pos (.inl hm)];rfl))
theorem law_at {k:Nat}:run (n + 1) (P9 is) 109 [] [.scr, .int (k:Int)] [] H= .ok (.int (at9 is k)) H:=by
 refine qPur (qRun (ρ:=⟨[some .scr,some (.int k),none],[none,none,none]⟩) rfl rfl rfl λDd=> ?_)
 unfold at9
 have z:Pi ⟨run n (P9 is),P9 is,⟨[some .scr,some (.int k),none],[none,none,none]⟩,H⟩ (.t (.cmp .Lt (.loc 1) (.call (.glob (.bi .len)) [.loc 0] [] [])) (decide ((k:Int) < (is.length:Int)))):=p37 (p6 rfl) (p25 (p6 rfl)) p45
 by_cases c:k < is.length
 ·rw [if_pos c]
  rw [decide_eq_true (Int.ofNat_lt.mpr c)] at z
  refine sRetP (pIfT z (p22 (by(with_reducible (repeat' first|assumption|apply p6|apply p3|apply p37|apply p45|apply p10|apply p25|with_unfolding_all exact rfl))) (by(with_reducible (repeat' first|assumption|apply p6|apply p3|apply p37|apply p45|apply p10|apply p25|with_unfolding_all exact rfl))) (v:= .int (is.getD k 0)) ?_)) ⟨rfl,rfl⟩
  unfold lidx
  rw [if_pos (Int.natCast_nonneg k)]
  show(is.map V.int)[k]? =_
  rw [List.getElem?_map,List.getElem?_eq_getElem c,List.getD_eq_getElem?_getD,List.getElem?_eq_getElem c];rfl
 ·rw [if_neg c]
  rw [decide_eq_false λh=>c (Int.ofNat_lt.mp h)] at z
  exact sRetP (pIfF z (p10 (pMul (by(with_reducible (repeat' first|assumption|apply p6|apply p3|apply p37|apply p45|apply p10|apply p25|with_unfolding_all exact rfl))) (by(with_reducible (repeat' first|assumption|apply p6|apply p3|apply p37|apply p45|apply p10|apply p25|with_unfolding_all exact rfl))) (by decide +kernel)) (by(with_reducible (repeat' first|assumption|apply p6|apply p3|apply p37|apply p45|apply p10|apply p25|with_unfolding_all exact rfl))))) ⟨rfl,rfl⟩
end
theorem setP {H:Hp}{o o':O}:(H ++ [o]).set H.length o'=H ++ [o']:=by simp
section
variable {C:CallT}{P:Prog}{ρ:Lo}{H:Hp}{es:List X}{e i:X}{v:V}{n:Int}
theorem esC {Q:List V->Hp->Prop} (h:wq (ev C P e ρ) H λv H1=>wq (evs C P es ρ) H1 λvs H2=>Q (v :: vs) H2):wq (evs C P (e :: es) ρ) H Q:=qB (qMono h λv H1 h=>qB h)
theorem esP {Q:List V->Hp->Prop} (h:Pi ⟨C,P,ρ,H⟩ (.e e v)) (k:wq (evs C P es ρ) H λvs H1=>Q (v :: vs) H1):wq (evs C P (e :: es) ρ) H Q:=esC (qOk h.ok k)
theorem eItemL {Q:V->Hp->Prop} (h:wq (evs C P es ρ) H λvs H1=>Pi ⟨C,P,ρ,H1 ++ [.list vs]⟩ (.e i (.int n))/\lidx vs n=some v/\Q v (H1 ++ [.list vs])):wq (ev C P (.sub (.lst es) i) ρ) H Q:=
 qB (qB (qMono h λvs H1 h=>qB (qOk (a:=H1.length) rfl (qB (qOk h.1.ok (qOk (a:=v) (okG getN (show ofO (lidx vs n) (H1 ++ [.list vs])= .ok v _ from oB (K:=⟨C,P,ρ,H1 ++ [.list vs]⟩) h.2.1)) h.2.2))))))
end
noncomputable abbrev strs9:List V:= [.str "", .str "b", .str "ab", .str "c", .str "aab"]
noncomputable def pick (l:List V) (n:Int):V:=l.getD n.toNat .none
theorem lidx_pick {l:List V}{n:Int} (h0:0<=n) (h:n.toNat < l.length):lidx l n=some (pick l n):=by
 unfold lidx pick
 rw [if_pos h0,List.getD_eq_getElem?_getD,List.getElem?_eq_getElem h];rfl
theorem pick_all {p:V->Prop}{l:List V}{n:Int} (h:n.toNat < l.length) (k: ∀v∈l,p v):p (pick l n):=by
 unfold pick
 rw [List.getD_eq_getElem?_getD,List.getElem?_eq_getElem h]
 exact k _ (List.getElem_mem h)
theorem fmodP (x:Int) {m:Nat} (h:0 < m):0<=x.fmod m/\(x.fmod m).toNat < m/\x.fmod m < m:=by
 have h1:0<=x.fmod m:=by rw [Int.fmod_eq_emod_of_nonneg _ (Int.natCast_nonneg m)];exact Int.emod_nonneg _ (by lia)
 have h2:x.fmod m < m:=by rw [Int.fmod_eq_emod_of_nonneg _ (Int.natCast_nonneg m)];exact Int.emod_lt_of_pos _ (by lia)
 exact⟨h1,by lia,h2⟩
noncomputable def dat9 (is:List Int) (k:Nat):V:=pick [.none, .int (at9 is (k + 3)),pick strs9 ((at9 is (k + 3)).fmod 5)] ((at9 is (k + 2)).fmod 3)
noncomputable def row9' (is:List Int) (k:Nat):Rw:=⟨(at9 is k).fmod 4,(at9 is k).fmod 4 + 1 + (at9 is (k + 1)).fmod 3,dat9 is k⟩
structure RwOK (r:Rw):Prop where
 d:DOk r.d
 b0:0<=r.b
 b4:r.b < 4
 be:r.b < r.e
theorem row9_ok (is:List Int) (k:Nat):RwOK (row9' is k):=by
 have h4:=fmodP (at9 is k) (m:=4) (by decide)
 have h3:=fmodP (at9 is (k + 1)) (m:=3) (by decide)
 refine⟨?_,h4.1,h4.2.2, ?_⟩
 ·refine pick_all (p:=DOk) (fmodP _ (m:=3) (by decide)).2.1 λv hv=> ?_
  rcases mcons hv with rfl | hv
  ·exact .none
  ·rcases mcons hv with rfl | hv
   ·exact .int _
   ·rcases mcons hv with rfl | hv
    ·refine pick_all (p:=DOk) (fmodP _ (m:=5) (by decide)).2.1 λv hv=> ?_
     have: ∃s:Str,v= .str s/\PyData.strOk s=true:=by
      simp only [List.mem_cons,List.not_mem_nil,or_false] at hv
      rcases hv with rfl | rfl | rfl | rfl | rfl <;> exact⟨_,rfl,by decide +kernel⟩
     obtain⟨s,rfl,hs⟩:=this
     exact .str hs
    ·exact nomatch hv
 ·show(at9 is k).fmod 4 < (at9 is k).fmod 4 + 1 + (at9 is (k + 1)).fmod 3
  have:=h3.1
  have:0<=(at9 is (k + 1)).fmod 3:=this
  lia
section
variable {n:Nat}{is:List Int}{H:Hp}
theorem law_row {k:Nat}:wq (run (n + 2) (P9 is) 111 [] [.scr, .int (k:Int)] []) H λv H'=>v=rv (row9' is k)/\Keep [] H H':=by
 have a0: ∀H,run (n + 1) (P9 is) 109 [] [.scr, .int (k:Int)] [] H= .ok (.int (at9 is k)) H:=λH=>law_at
 have a1: ∀H,run (n + 1) (P9 is) 109 [] [.scr, .int ((k:Int) + 1)] [] H= .ok (.int (at9 is (k + 1))) H:=λH=>law_at (k:=k + 1)
 have a2: ∀H,run (n + 1) (P9 is) 109 [] [.scr, .int ((k:Int) + 2)] [] H= .ok (.int (at9 is (k + 2))) H:=λH=>law_at (k:=k + 2)
 have a3: ∀H,run (n + 1) (P9 is) 109 [] [.scr, .int ((k:Int) + 3)] [] H= .ok (.int (at9 is (k + 3))) H:=λH=>law_at (k:=k + 3)
 refine qRun (ρ:=⟨[some .scr,some (.int k),none,none,none],List.replicate 5 none⟩) rfl rfl rfl λDd=> ?_
 refine sAsgN (p12 (p24 (by(with_reducible (repeat' first|assumption|apply p6|apply p34|apply p33|apply p3|apply p9|apply p10|apply p24|apply p1|apply p4|apply p12|with_unfolding_all exact rfl))) (a0 _) rfl) p3 (by decide)) ?_
 refine sAsg (eItemL (n:=(at9 is (k + 2)).fmod 3) (v:=dat9 is k) (esP p1 (esP (p24 (by(with_reducible (repeat' first|assumption|apply p6|apply p34|apply p33|apply p3|apply p9|apply p10|apply p24|apply p1|apply p4|apply p12|with_unfolding_all exact rfl))) (a3 _) rfl) (esC (eItemL (n:=(at9 is (k + 3)).fmod 5) (v:=pick strs9 ((at9 is (k + 3)).fmod 5)) (qOk (show Pi ⟨_,_,_,_⟩ (.l _ strs9) by(with_reducible (repeat' first|assumption|apply p6|apply p34|apply p33|apply p3|apply p9|apply p10|apply p24|apply p1|apply p4|apply p12|with_unfolding_all exact rfl))) ⟨p12 (p24 (by(with_reducible (repeat' first|assumption|apply p6|apply p34|apply p33|apply p3|apply p9|apply p10|apply p24|apply p1|apply p4|apply p12|with_unfolding_all exact rfl))) (a3 _) rfl) p3 (by decide),lidx_pick (fmodP _ (m:=5) (by decide)).1 (fmodP _ (m:=5) (by decide)).2.1,qOk (show Pi ⟨_,_,_,_⟩ (.l [] []) from p33) ?_⟩))))))
 refine⟨p12 (p24 (by(with_reducible (repeat' first|assumption|apply p6|apply p34|apply p33|apply p3|apply p9|apply p10|apply p24|apply p1|apply p4|apply p12|with_unfolding_all exact rfl))) (a2 _) rfl) p3 (by decide),lidx_pick (fmodP _ (m:=3) (by decide)).1 (fmodP _ (m:=3) (by decide)).2.1, ?_⟩
 refine sRetP (p9 (p34 (by(with_reducible (repeat' first|assumption|apply p6|apply p34|apply p33|apply p3|apply p9|apply p10|apply p24|apply p1|apply p4|apply p12|with_unfolding_all exact rfl))) (p34 (p10 (by(with_reducible (repeat' first|assumption|apply p6|apply p34|apply p33|apply p3|apply p9|apply p10|apply p24|apply p1|apply p4|apply p12|with_unfolding_all exact rfl))) (p12 (p24 (by(with_reducible (repeat' first|assumption|apply p6|apply p34|apply p33|apply p3|apply p9|apply p10|apply p24|apply p1|apply p4|apply p12|with_unfolding_all exact rfl))) (a1 _) rfl) p3 (by decide))) (p34 (by(with_reducible (repeat' first|assumption|apply p6|apply p34|apply p33|apply p3|apply p9|apply p10|apply p24|apply p1|apply p4|apply p12|with_unfolding_all exact rfl))) p33)))) ⟨rfl,Keep.push.trans Keep.push⟩
theorem iv_init {b e:Int}{d:V}:wq (run (n + 1) (P9 is) 15 [] [.ref H.length, .int b, .int e,d] []) (H ++ [.inst 1 []]) λr H2=>r= .none/\H2=H ++ [ivo ⟨b,e,d⟩]:=by
 refine qRun (ρ:=⟨[some (.ref H.length),some (.int b),some (.int e),some d],List.replicate 4 none⟩) rfl rfl rfl λDd=> ?_
 refine sAttrP (p6 rfl) (p6 rfl) getN rfl ?_
 rw [setP]
 refine sAttrP (p6 rfl) (p6 rfl) getN rfl ?_
 rw [setP]
 refine sAttrP (p6 rfl) (p6 rfl) getN rfl ?_
 rw [setP]
 exact⟨rfl,rfl⟩
end
section
variable {C:CallT}{P:Prog}{tgt:NT}{l:Option Nat}{all:List V}
theorem compGo {elt:Lo->M V}{test:Lo->M Bool}{acc N:Nat}{cel:List (Option Nat)} (I:Nat->List V->Hp->Prop)
 (h : ∀i v xs H σ,all[i]? =some v->I i xs H->σ.cel=cel->σ.loc.length=N->curItem l all i H= .ok v H/\∃σ',bindNT tgt v σ H= .ok σ' H/\σ'.cel=cel/\σ'.loc.length=N/\
  wq (test σ') H λb H3=>(b=true->wq (elt σ') H3 λx H4=>H4[acc]? =some (.list xs)/\xs.length < 2 ^ 19/\I (i + 1) (xs ++ [x]) (H4.set acc (.list (xs ++ [x]))))/\(b=false->I (i + 1) xs H3))
 (hst: ∀xs H,I all.length xs H->still l all H= .ok () H): ∀ (k i:Nat) (xs:List V) (H:Hp) (σ:Lo),i + k=all.length->I i xs H->σ.cel=cel->σ.loc.length=N->wq (compLoop elt test tgt l all k i acc σ) H λ_ H'=>∃xs,I all.length xs H':=by
 intro k
 induction k with
 | zero=>
  intro i xs H σ e hI _ _
  obtain rfl:i=all.length:=e
  exact qOk (hst xs H hI) ⟨xs,hI⟩
 | succ k ih=>
  intro i xs H σ e hI hc hl
  have hi:i < all.length:=by lia
  obtain⟨h1,σ',h2,h3,h4,h5⟩:=h i all[i] xs H σ (List.getElem?_eq_getElem hi) hI hc hl
  refine qB (qOk h1 (qB (qOk h2 (qB (qMono h5 λb H3 h5=> ?_)))))
  cases b
  ·exact ih (i + 1) xs H3 σ' (by lia) (h5.2 rfl) h3 h4
  ·exact qB (qMono (h5.1 rfl) λx H4 h=>qB (qOk (appL h.1 h.2.1) (ih (i + 1) _ _ σ' (by lia) h.2.2 h3 h4)))
theorem forGo {body:Lo->M (Fl × Lo)} (I:Nat->Lo->Hp->Prop) (J:V->Hp->Prop)
 (h: ∀i v H ρ,all[i]? =some v->I i ρ H->curItem l all i H= .ok v H/\∃ρ',bindNT tgt v ρ H= .ok ρ' H/\wq (body ρ') H λq H2=>match q.1 with | .nx=>I (i + 1) q.2 H2 | .rt v=>J v H2)
 (hst: ∀ρ H,I all.length ρ H->still l all H= .ok () H): ∀ (k i:Nat) (H:Hp) (ρ:Lo),i + k=all.length->I i ρ H->wq (forLoop body tgt l all k i ρ) H λq H'=>match q.1 with | .nx=>I all.length q.2 H' | .rt v=>J v H':=by
 intro k
 induction k with
 | zero=>
  intro i H ρ e hI
  obtain rfl:i=all.length:=e
  exact qB (qOk (hst ρ H hI) hI)
 | succ k ih=>
  intro i H ρ e hI
  have hi:i < all.length:=by lia
  obtain⟨h1,ρ',h2,h3⟩:=h i all[i] H ρ (List.getElem?_eq_getElem hi) hI
  refine qB (qOk h1 (qB (qOk h2 (qB (qMono h3 λq H2 h3=> ?_)))))
  obtain⟨f,ρ2⟩:=q
  cases f with
  | nx=>exact ih (i + 1) H2 ρ2 (by lia) h3
  | rt v=>exact h3
theorem curN {i:Nat}{v:V}{H:Hp} (h:all[i]? =some v):curItem none all i H= .ok v H:=by
 show ofO all[i]? H=_
 rw [h];rfl
theorem curS {i k:Nat}{v:V}{H:Hp} (g:H[k]? =some (.list all)) (h:all[i]? =some v):curItem (some k) all i H= .ok v H:=by
 show(getLs k >>= λws=>if ws.length=all.length then ofO ws[i]? else stuck) H=_
 refine okB (show getLs k H= .ok all H from okG g rfl) ?_
 rw [if_pos rfl,h];rfl
theorem stlN {H:Hp}:still none all H= .ok () H:=rfl
theorem stlS {k:Nat}{H:Hp} (g:H[k]? =some (.list all)):still (some k) all H= .ok () H:=by
 show(getLs k >>= λws=>if ws.length=all.length then pure () else stuck) H=_
 refine okB (show getLs k H= .ok all H from okG g rfl) ?_
 rw [if_pos rfl];rfl
end
section
variable {K:Kx}{a b:X}{x y k f:Nat}{p q:List (Nat × V)}{r:Bool}{v:V}
theorem eqvI {C:CallT}{P:Prog}{H:Hp} (ga:H[x]? =some (.inst k p)) (gb:H[y]? =some (.inst k q)) (h1:P.getM k nEq=some f) (z:C f [] [.ref x, .ref y] [] H= .ok (.bool r) H):eqv C P (.ref x) (.ref y) H= .ok r H:=
 okB (a:=some k) (okG ga rfl) (show(ofO (P.getM k nEq) >>= λf=>clsOf (.ref y) >>= λd=>if d=some k then C f [] [.ref x, .ref y] [] >>= asBool else stuck) H=_ from
  okB (a:=f) (by rw [h1];rfl) (okB (a:=some k) (okG gb rfl) (by rw [if_pos rfl];exact okB z rfl)))
theorem pEqI (h:Pi K (.e a (.ref x))) (h2:Pi K (.e b (.ref y))) (ga:K.H[x]? =some (.inst k p)) (gb:K.H[y]? =some (.inst k q)) (h1:K.P.getM k nEq=some f) (z:K.C f [] [.ref x, .ref y] [] K.H= .ok (.bool r) K.H):Pi K (.e (.cmp .Eq a b) (.bool r)) :=
 okB h.ok (okB h2.ok (okB (eqvI ga gb h1 z) rfl))
theorem toT {op:CmpOp} (h:Pi K (.e (.cmp op a b) (.bool r))):Pi K (.t (.cmp op a b) r):=by
 have h:(ev K.C K.P a K.ρ >>= λx=>ev K.C K.P b K.ρ >>= λy=>cmpOp K.C K.P op x y) K.H= .ok (V.bool r) K.H:=h
 have h:M.bind _ _ K.H= .ok (V.bool r) K.H:=h
 show M.bind _ _ K.H= .ok r K.H
 unfold M.bind at h ⊢
 cases e1:ev K.C K.P a K.ρ K.H with
 | ok v H1=>
  rw [e1] at h
  have h:M.bind _ _ H1= .ok (V.bool r) K.H:=h
  show M.bind _ _ H1= .ok r K.H
  unfold M.bind at h ⊢
  cases e2:ev K.C K.P b K.ρ H1 with
  | ok w H2=>
   rw [e2] at h
   exact okB h rfl
  | ex _=>rw [e2] at h;exact(exR h).elim
  | no=>rw [e2] at h;exact(noR h).elim
 | ex _=>rw [e1] at h;exact(exR h).elim
 | no=>rw [e1] at h;exact(noR h).elim
theorem hasI (h:Pi K (.e a v)) (h2:Pi K (.e b (.ref y))) (g:K.H[y]? =some (.inst k q)) {rn:Bool} (h1:K.P.getM k nContains=some f) (z:K.C f [] [.ref y,v] [] K.H= .ok (.bool r) K.H) (hr:(!r)=rn):Pi K (.e (.cmp .NotIn a b) (.bool rn)):=hr▸
 (show Pi K (.e (.cmp .NotIn a b) (.bool (!r))) from   okB h.ok (okB h2.ok (okB (a:=r) (show contains K.C K.P v (.ref y) K.H= .ok r K.H from okG g (show(ofO (K.P.getM k nContains) >>= λf=>K.C f [] [.ref y,v] [] >>= λv=>truthy K.C K.P v) K.H=_ from okB (a:=f) (by rw [h1];rfl) (okB z rfl))) rfl)))
end
theorem eCat {C:CallT}{P:Prog}{ρ:Lo}{H:Hp}{Q:V->Hp->Prop}{a b:X}{q:Nat}{ws:List V}{x:V} (h:Pi ⟨C,P,ρ,H⟩ (.e a (.ref q))) (g:H[q]? =some (.list ws)) (hb:Pi ⟨C,P,ρ,H⟩ (.e b x)) (hs:ws.length<=1000)
 (k:Q (.ref (H.length + 1)) (H ++ [.list [x]] ++ [.list (ws ++ [x])])):wq (ev C P (.bin .Add a (.lst [b])) ρ) H Q:=by
 refine qB (qOk h.ok (qB (qOk (a:= .ref H.length) (show(evs C P [b] ρ >>= λvs=>alloc (.list vs) >>= λl=>pure (V.ref l)) H=_ from okB (p34 hb p33).ok rfl) ?_)))
 show wq (getLs q >>= λx=>getLs H.length >>= λy=>if x.length + y.length<=2 ^ 19 then(alloc (.list (x ++ y)) >>= λl=>pure (V.ref l)) else stuck) (H ++ [.list [x]]) Q
 refine qB (qOk (show getLs q (H ++ [.list [x]])= .ok ws _ from okG (getP g) rfl) (qB (qOk (show getLs H.length (H ++ [.list [x]])= .ok [x] _ from okG getN rfl) ?_)))
 rw [if_pos (show ws.length + [x].length<=2 ^ 19 from Nat.le_trans (Nat.add_le_add_right hs 1) (by decide))]
 have e:(H ++ [O.list [x]]).length=H.length + 1:=by simp
 exact qB (show wq (alloc _) _ _ from(show Q (.ref (H ++ [O.list [x]]).length) _ by rw [e];exact k))
noncomputable def MemAt (H:Hp) (m:Nat) (ms:List Nat):Prop:=∃q,H[m]? =some (.inst 0 [(82, .ref q)])/\H[q]? =some (.list (ms.map V.ref))
noncomputable def Ins (H:Hp) (l:Nat):Prop:=∃c a,H[l]? =some (.inst c a)
theorem MemAt.keep {X:List Nat}{H H':Hp}{m:Nat}{ms:List Nat} (h:MemAt H m ms) (k:Keep X H H') (hm:m∉X) (hX: ∀x∈X,Ins H x):MemAt H' m ms:=
 h.imp λq h=>⟨k _ _ hm h.1,k _ _ (λhq=>(hX q hq).elim λc z=>z.elim λa z=>O.noConfusion (Option.some.inj (z.symm.trans h.2))) h.2⟩
structure Iv (rw_:Nat->Rw) (J:List Nat) (H:Hp):Prop where
 at_: ∀l∈J,H[l]? =some (ivo (rw_ l))
 ok: ∀l∈J,RwOK (rw_ l)
theorem Iv.keep {rw_:Nat->Rw}{J X:List Nat}{H H':Hp} (h:Iv rw_ J H) (k:Keep X H H') (hX: ∀x∈X,x∉J):Iv rw_ J H':=⟨λl hl=>k _ _ (λhx=>hX l hx hl) (h.at_ l hl),h.ok⟩
noncomputable def same (rw_:Nat->Rw) (l k:Nat):Bool:=decide (kl (rw_ k)=kl (rw_ l))
noncomputable def ins (rw_:Nat->Rw) (ms:List Nat) (l:Nat):List Nat:=if ms.any (same rw_ l) then ms else ms ++ [l]
section
variable {n:Nat}{is:List Int}{H:Hp}{m l:Nat}{ms:List Nat}{rw_:Nat->Rw}{J:List Nat}
theorem mem_has (hM:MemAt H m ms) (hI:Iv rw_ J H) (hs: ∀k∈ms,k∈J) (hl:l∈J):run (n + 2) (P9 is) 5 [] [.ref m, .ref l] [] H= .ok (.bool (ms.any (same rw_ l))) H:=by
 obtain⟨q,h1,h2⟩:=hM
 refine qPur (qRun (ρ:=⟨[some (.ref m),some (.ref l),none],List.replicate 3 none⟩) rfl rfl rfl λDd=>(sFor (qB (qOk (a:= .ref q) (show Pi ⟨_,_,_,_⟩ (.e _ _) by(with_reducible (repeat' first|assumption|apply p6|apply p8|apply p2|with_unfolding_all exact rfl))) (qOk (a:=(some q,ms.map V.ref)) (okB (a:=q) (okG h2 rfl) (okB (a:=ms.map V.ref) (okG h2 rfl) rfl)) ?_)))))
 refine qMono (forGo (λi ρ H'=>H'=H/\(∃x,ρ=⟨[some (.ref m),some (.ref l),x],List.replicate 3 none⟩)/\(ms.take i).any (same rw_ l)=false) (λv H'=>v= .bool (ms.any (same rw_ l))/\H'=H) (λi v H' ρ hv h=> ?_) (λ ρ H' h=>h.1▸stlS h2) _ 0 H _ (Nat.zero_add _) ⟨rfl,⟨_,rfl⟩,rfl⟩) λr H' h=> ?_
 ·obtain⟨rfl,⟨x,rfl⟩,ht⟩:=h
  have hv':=hv
  rw [List.getElem?_map] at hv'
  obtain⟨k,hk,rfl⟩:=Option.map_eq_some_iff.mp hv'
  have hkm:=List.mem_of_getElem? hk
  refine⟨curS h2 hv,_,rfl, ?_⟩
  have g1:=hI.at_ k (hs k hkm)
  have g2:=hI.at_ l hl
  have z:run (n + 1) (P9 is) 24 [] [.ref k, .ref l] [] H'= .ok (.bool (same rw_ l k)) H':=iv_eq g1 g2 (hI.ok k (hs k hkm)).d (hI.ok l hl).d
  refine sIf (toT (pEqI (p6 rfl) (p6 rfl) g1 g2 rfl z)) (λe=> ?_) λe=> ?_
  ·refine sRetP p2 ⟨congrArg V.bool (List.any_eq_true.mpr ⟨k,hkm,e⟩).symm,rfl⟩
  ·refine sNil ⟨rfl,⟨_,rfl⟩, ?_⟩
   rw [List.take_add_one,hk,List.any_append,ht]
   show(false || ((some k).toList.any (same rw_ l)))=false
   rw [show(some k).toList= [k] from rfl,List.any_cons,e];rfl
 ·obtain⟨f,ρ'⟩:=r
  cases f with
  | nx=>
   obtain⟨rfl,⟨x,rfl⟩,ht⟩:=h
   rw [List.length_map,List.take_length] at ht
   exact sRetP p2 ⟨by rw [ht];rfl,rfl⟩
  | rt v=>exact h
theorem mem_add (hM:MemAt H m ms) (hI:Iv rw_ J H) (hs: ∀k∈ms,k∈J) (hl:l∈J) (hz:ms.length<=1000):wq (run (n + 3) (P9 is) 7 [] [.ref m, .ref l] []) H λv H'=>v= .none/\Keep [m] H H'/\MemAt H' m (ins rw_ ms l)/\∀q',H'[m]? =some (.inst 0 [(82, .ref q')])->H[m]? =some (.inst 0 [(82, .ref q')])\/H.length<=q':=by
 have z:run (n + 2) (P9 is) 5 [] [.ref m, .ref l] [] H= .ok (.bool (ms.any (same rw_ l))) H:=mem_has hM hI hs hl
 have hM':=hM
 obtain⟨q,h1,h2⟩:=hM
 unfold ins
 refine qRun (ρ:=⟨[some (.ref m),some (.ref l)],List.replicate 2 none⟩) rfl rfl rfl λDd=> ?_
 cases c:ms.any (same rw_ l)
 ·rw [c] at z
  refine sIfT (toT (hasI (p6 rfl) (p6 rfl) h1 rfl z rfl)) ?_
  refine sAttr (eCat (q:=q) (by(with_reducible (repeat' first|assumption|apply p6|apply p8|with_unfolding_all exact rfl))) h2 (p6 rfl) (by rw [List.length_map];exact hz) (atI (p6 rfl) (getP (getP h1)) rfl ?_))
  refine sNil ⟨rfl,Keep.push.trans (Keep.push.trans (Keep.set (.head _))),⟨H.length + 1,getS (getP (getP h1)), ?_⟩,λq' e=> ?_⟩
  ·rw [if_neg (by decide)]
   refine getO' (λe=> ?_) ?_
   ·have:=ltL h1;lia
   ·have e:H.length + 1=(H ++ [O.list [V.ref l]]).length:=by simp
    rw [e,List.map_append];exact getN
  ·have e:O.inst 0 [(82,V.ref (H.length + 1))]=O.inst 0 [(82, .ref q')]:=Option.some.inj ((getS (getP (getP h1))).symm.trans e)
   injection e with e1 e2
   injection e2 with e2
   injection e2 with e3 e4
   injection e4 with e4
   exact .inr (by lia)
 ·rw [c] at z
  refine sIfF (toT (hasI (p6 rfl) (p6 rfl) h1 rfl z rfl)) ?_
  refine sNil ⟨rfl,Keep.refl, ?_,λq' e=> .inl e⟩
  rw [if_pos rfl];exact hM'
end
section
variable {n:Nat}{is:List Int}{H:Hp}{m l:Nat}{ms ls:List Nat}{rw_:Nat->Rw}{J:List Nat}{src:V}
theorem ins_sub {k:Nat} (h:k∈ins rw_ ms l):k∈ms\/k=l:=by
 unfold ins at h
 split at h
 ·exact .inl h
 ·exact(List.mem_append.mp h).imp id List.mem_singleton.mp
theorem ins_len:(ins rw_ ms l).length<=ms.length + 1:=by
 unfold ins
 split
 ·exact Nat.le_succ _
 ·rw [List.length_append];exact Nat.le_refl _
theorem fold_sub (ls:List Nat): ∀ {ms:List Nat}{k:Nat},k∈ls.foldl (ins rw_) ms->k∈ms\/k∈ls:=by
 induction ls with
 | nil=>exact λh=> .inl h
 | cons l ls ih=>
  intro ms k h
  rcases ih h with h | h
  ·rcases ins_sub h with h | rfl
   ·exact .inl h
   ·exact .inr (.head _)
  ·exact .inr (.tail _ h)
theorem fold_len (ls:List Nat): ∀ {ms:List Nat},(ls.foldl (ins rw_) ms).length<=ms.length + ls.length:=by
 induction ls with
 | nil=>exact λ {ms}=>Nat.le_refl _
 | cons l ls ih=>exact λ {ms}=>Nat.le_trans ih (by rw [List.length_cons];have:=ins_len (rw_:=rw_) (ms:=ms) (l:=l);lia)
theorem notJ {k:Nat}{a:List (Nat × V)} (hI:Iv rw_ J H) (g:H[m]? =some (.inst k a)) (hk:k≠1):m∉J:=λh=>hk (by
 have e:O.inst k a=O.inst 1 _:=Option.some.inj (g.symm.trans (hI.at_ m h))
 injection e)
noncomputable def Src (H:Hp) (src:V) (ls:List Nat):Prop:=(src= .tup []/\ls= [])\/∃k,src= .ref k/\H[k]? =some (.list (ls.map V.ref))
theorem Src.it {C:CallT} (h:Src H src ls): ∃lo,iterOf C (P9 is) src H= .ok (lo,ls.map V.ref) H/\∀k,lo=some k->H[k]? =some (.list (ls.map V.ref)):=by
 rcases h with⟨rfl,rfl⟩ | ⟨k,rfl,g⟩
 ·exact⟨none,rfl,λk h=>nomatch h⟩
 ·exact⟨some k,okB (a:=k) (okG g rfl) (okB (a:=ls.map V.ref) (okG g rfl) rfl),λk' h=>(Option.some.inj h)▸g⟩
theorem mem_upd (hM:MemAt H m ms) (hI:Iv rw_ J H) (hs: ∀k∈ms,k∈J) (hl: ∀k∈ls,k∈J) (hz:ms.length + ls.length<=1000) (hS:Src H src ls) :
 wq (run (n + 4) (P9 is) 8 [] [.ref m,src] []) H λv H'=>v= .none/\Keep [m] H H'/\MemAt H' m (ls.foldl (ins rw_) ms):=by
 obtain⟨lo,e,hk⟩:=hS.it (is:=is) (C:=run (n + 3) (P9 is))
 have nJ: ∀x∈ [m],x∉J:=λx hx=>by
  obtain rfl:=in1 hx
  exact hM.elim λq h=>notJ hI h.1 (by decide)
 have iM: ∀x∈ [m],Ins H x:=λx hx=>by
  obtain rfl:=in1 hx
  exact hM.elim λq h=>⟨_,_,h.1⟩
 have kl: ∀ {H':Hp}{k:Nat},Keep [m] H H'->lo=some k->H'[k]? =some (.list (ls.map V.ref)):=λ {H' k} K h=>K _ _ (λhx=>(iM k hx).elim λc z=>z.elim λa z=>O.noConfusion (Option.some.inj (z.symm.trans (hk k h)))) (hk k h)
 refine qRun (ρ:=⟨[some (.ref m),some src,none],List.replicate 3 none⟩) rfl rfl rfl λDd=>(sFor (qB (qOk (a:=src) (show Pi ⟨_,_,_,_⟩ (.e _ _) from p6 rfl) (qOk e ?_))))
 refine qMono (forGo (λi ρ H'=>(∃x,ρ=⟨[some (.ref m),some src,x],List.replicate 3 none⟩)/\Keep [m] H H'/\MemAt H' m ((ls.take i).foldl (ins rw_) ms)) (λv H'=>False) (λi v H' ρ hv h=> ?_) (λ ρ H' h=> ?_) _ 0 H _ (Nat.zero_add _) ⟨⟨_,rfl⟩,Keep.refl,hM⟩) λr H' h=> ?_
 ·obtain⟨⟨x,rfl⟩,K,M⟩:=h
  have hv':=hv
  rw [List.getElem?_map] at hv'
  obtain⟨k,hk',rfl⟩:=Option.map_eq_some_iff.mp hv'
  have hkm:=List.mem_of_getElem? hk'
  refine⟨?_,_,rfl, ?_⟩
  ·cases lo with
   | none=>exact curN hv
   | some k=>exact curS (kl K rfl) hv
  ·have M':=M
   obtain⟨q,g,_⟩:=M'
   refine sExpr (eMeth (p6 rfl) g rfl (by(with_reducible (repeat' first|assumption|apply p6|apply p34|apply p33|with_unfolding_all exact rfl))) (qMono (mem_add M (hI.keep K nJ) (λk h=>(fold_sub _ h).elim (hs k) λh=>hl k (List.mem_of_mem_take h)) (hl k hkm) ?_) λv H2 h=>⟨by rw [h.1];rfl,sNil ⟨⟨_,rfl⟩,K.trans h.2.1, ?_⟩⟩))
   ·have:=fold_len (rw_:=rw_) (ls.take i) (ms:=ms)
    have:=List.length_take_le i ls
    have:=List.length_take_le' i ls
    lia
   ·rw [List.take_add_one,hk',List.foldl_append];exact h.2.2.1
 ·cases lo with
  | none=>exact stlN
  | some k=>exact stlS (kl h.2.1 rfl)
 ·obtain⟨f,ρ'⟩:=r
  cases f with
  | nx=>
   refine sNil ⟨rfl,h.2.1, ?_⟩
   have h3:=h.2.2
   rwa [List.length_map,List.take_length] at h3
  | rt v=>exact h.elim
theorem mem_init (hI:Iv rw_ J H) (hl: ∀k∈ls,k∈J) (hz:ls.length<=1000) (hS:Src H src ls) :
 wq (run (n + 5) (P9 is) 1 [] [.ref H.length,src] []) (H ++ [.inst 0 []]) λv H'=>v= .none/\Keep [] H H'/\MemAt H' H.length (ls.foldl (ins rw_) []):=by
 refine qRun (ρ:=⟨[some (.ref H.length),some src],List.replicate 2 none⟩) rfl rfl rfl λDd=> ?_
 refine sAttr (eLst (vs:= []) p33 (atI (p6 rfl) (getP getN) rfl ?_))
 have K:Keep [] H ((H ++ [O.inst 0 []] ++ [O.list []]).set H.length (.inst 0 (putA 82 (.ref (H ++ [O.inst 0 []]).length) []))):=Keep.setN (Nat.le_refl _) (Keep.push.trans Keep.push)
 have g:((H ++ [O.inst 0 []] ++ [O.list []]).set H.length (.inst 0 (putA 82 (.ref (H ++ [O.inst 0 []]).length) [])))[H.length]? =some (.inst 0 [(82, .ref (H ++ [O.inst 0 []]).length)]):=getS (getP getN)
 have M:MemAt ((H ++ [O.inst 0 []] ++ [O.list []]).set H.length (.inst 0 (putA 82 (.ref (H ++ [O.inst 0 []]).length) []))) H.length []:=⟨_,g,getO' (by simp) getN⟩
 have I2:=hI.keep K (λx h=>nomatch h)
 refine sExpr (eMeth (p6 rfl) g rfl (by(with_reducible (repeat' first|assumption|apply p6|apply p34|apply p33|with_unfolding_all exact rfl))) (qMono (mem_upd M I2 (λk h=>nomatch h) hl (by simpa using hz) (hS.imp id λh=>h.imp λk h=>⟨h.1,K _ _ nofun h.2⟩)) λv H2 h=>⟨by rw [h.1];rfl,sNil ⟨rfl,λk o _ e=> ?_,h.2.2⟩⟩))
 exact h.2.1 k o (λhk=>by
  have:=List.mem_singleton.mp hk
  have:=ltL e
  lia) (K k o nofun e)
theorem iter_mem (hM:MemAt H m ms): ∃q,H[q]? =some (.list (ms.map V.ref))/\iterOf (run (n + 1) (P9 is)) (P9 is) (.ref m) H= .ok (some q,ms.map V.ref) H:=by
 obtain⟨q,h1,h2⟩:=hM
 refine⟨q,h2, ?_⟩
 have z:run (n + 1) (P9 is) 2 [] [.ref m] [] H= .ok (.it q) H:=by
  refine qPur (qRun (ρ:=⟨[some (.ref m),none],List.replicate 2 none⟩) rfl rfl rfl λDd=>(sRetIt (qB (qOk (a:= .ref q) (show Pi ⟨_,_,_,_⟩ (.e _ _) by(with_reducible (repeat' first|assumption|apply p6|apply p8|with_unfolding_all exact rfl))) (qOk (a:=q) (okG h2 rfl) ⟨rfl,rfl⟩)))))
 exact okB (a:=q) (okG h1 (okB (a:=2) rfl (okB z rfl))) (okB (a:=ms.map V.ref) (okG h2 rfl) rfl)
theorem mem_len (hM:MemAt H m ms):run (n + 1) (P9 is) 3 [] [.ref m] [] H= .ok (.int ms.length) H:=by
 obtain⟨q,h1,h2⟩:=hM
 refine qPur (qRun (ρ:=⟨[some (.ref m),none],List.replicate 2 none⟩) rfl rfl rfl λDd=> ?_)
 (repeat first|with_reducible apply sCat0|with_reducible apply sCat1|(with_reducible apply sAsgN;focus ((with_reducible (repeat' first|assumption|apply p6|apply p8|apply p26|with_unfolding_all exact rfl));done))|(with_reducible apply sRetP;focus ((with_reducible (repeat' first|assumption|apply p6|apply p8|apply p26|with_unfolding_all exact rfl));done)))
 exact⟨by rw [List.length_map];rfl,rfl⟩
theorem mem_bool (hM:MemAt H m ms):run (n + 1) (P9 is) 4 [] [.ref m] [] H= .ok (.bool (decide (0 < ms.length))) H:=by
 obtain⟨q,h1,h2⟩:=hM
 refine qPur (qRun (ρ:=⟨[some (.ref m),none],List.replicate 2 none⟩) rfl rfl rfl λDd=> ?_)
 (repeat first|with_reducible apply sCat0|with_reducible apply sCat1|(with_reducible apply sAsgN;focus ((with_reducible (repeat' first|assumption|apply p6|apply p8|apply p3|apply p15|apply p46|apply p26|with_unfolding_all exact rfl));done))|(with_reducible apply sRetP;focus ((with_reducible (repeat' first|assumption|apply p6|apply p8|apply p3|apply p15|apply p46|apply p26|with_unfolding_all exact rfl));done)))
 exact⟨congrArg V.bool (decide_eq_decide.mpr (by rw [List.length_map];exact Int.natCast_pos)),rfl⟩
noncomputable def del (rw_:Nat->Rw) (l:Nat) (ms:List Nat):List Nat:=ms.filter λk=> !same rw_ l k
theorem mem_del (hM:MemAt H m ms) (hI:Iv rw_ J H) (hs: ∀k∈ms,k∈J) (hl:l∈J) (hz:ms.length<=1000) :
 wq (run (n + 2) (P9 is) 9 [] [.ref m, .ref l] []) H λv H'=>v= .none/\Keep [m] H H'/\MemAt H' m (del rw_ l ms)/\∀q',H'[m]? =some (.inst 0 [(82, .ref q')])->H.length<=q':=by
 obtain⟨q,h1,h2⟩:=hM
 refine qRun (ρ:=⟨[some (.ref m),none],[none,some H.length]⟩) (H1:=H ++ [.cell (some (.ref l))]) rfl rfl rfl λDd=> ?_
 have g1:(H ++ [O.cell (some (V.ref l))])[m]? =some (.inst 0 [(82, .ref q)]):=getP h1
 have g2:(H ++ [O.cell (some (V.ref l))])[q]? =some (.list (ms.map V.ref)):=getP h2
 refine sAttr (k:=0) (l:=m) (at_:= [(82, .ref q)]) (eComp (qB (qOk (a:= .ref q) (show Pi ⟨_,_,_,_⟩ (.e _ _) by(with_reducible (repeat' first|assumption|apply p6|apply p8|apply p36|apply p7|with_unfolding_all exact rfl))) (qOk (a:=(some q,ms.map V.ref)) (okB (a:=q) (okG g2 rfl) (okB (a:=ms.map V.ref) (okG g2 rfl) rfl)) ?_))))
 refine qMono (compGo (N:=3) (cel:= [none,none,some H.length]) (λi xs H'=>Keep [] (H ++ [O.cell (some (V.ref l))]) H'/\H'[(H ++ [O.cell (some (V.ref l))]).length]? =some (.list xs)/\xs=(del rw_ l (ms.take i)).map V.ref) (λi v xs H' σ hv h hc hσ=> ?_) (λxs H' h=>stlS (h.1 _ _ nofun g2)) _ 0 [] _ _ (Nat.zero_add _) ⟨Keep.push,getN,rfl⟩ rfl rfl) λ_ H' h=> ?_
 ·obtain⟨K,ga,rfl⟩:=h
  have hv':=hv
  rw [List.getElem?_map] at hv'
  obtain⟨k,hk,rfl⟩:=Option.map_eq_some_iff.mp hv'
  have hkm:=List.mem_of_getElem? hk
  obtain⟨lc,cl⟩:=σ
  obtain rfl:cl=_:=hc
  have hσ:lc.length=3:=hσ
  refine⟨curS (K _ _ nofun g2) hv,⟨lc.set 1 (some (.ref k)),_⟩,rfl,rfl,by rw [List.length_set];exact hσ, ?_⟩
  have I2:=(hI.keep (Keep.push (X:= []) (o:= .cell (some (.ref l)))) nofun).keep K nofun
  have i1:=I2.at_ k (hs k hkm)
  have i2:=I2.at_ l hl
  have z:run (n + 1) (P9 is) 24 [] [.ref k, .ref l] [] H'= .ok (.bool (same rw_ l k)) H':=iv_eq i1 i2 (hI.ok k (hs k hkm)).d (hI.ok l hl).d
  have hloc:(lc.set 1 (some (V.ref k)))[1]? =some (some (V.ref k)):=List.getElem?_set_self (by lia)
  have tk:ms.take (i + 1)=ms.take i ++ [k]:=by rw [List.take_add_one,hk];rfl
  have zz:Pi ⟨run (n + 1) (P9 is),P9 is,⟨lc.set 1 (some (.ref k)),[none,none,some H.length]⟩,H'⟩ (.t (.not (.cmp .Eq (.loc 1) (.cel 2))) (!same rw_ l k)):=p36 (toT (pEqI (p6 hloc) (p7 rfl (K _ _ nofun getN)) i1 i2 rfl z))
  refine qB (qOk zz.ok ?_)
  unfold del at ga ⊢
  cases c:same rw_ l k
  ·refine⟨λ_=>qOk (p6 hloc:Pi ⟨_,_,_,_⟩ _).ok ⟨ga, ?_, ?_,getS ga, ?_⟩,λe=>Bool.noConfusion e⟩
   ·rw [List.length_map]
    have:=List.length_filter_le (λk=> !same rw_ l k) (ms.take i)
    have:=List.length_take_le' i ms
    lia
   ·exact Keep.setN (Nat.le_refl _) K |> λk2=>k2
   ·rw [tk,List.filter_append,List.map_append,List.filter_cons_of_pos (by rw [c];rfl)];rfl
  ·refine⟨λe=>Bool.noConfusion e,λ_=>⟨K, ?_, ?_⟩⟩
   ·exact ga
   ·rw [tk,List.filter_append,List.filter_cons_of_neg (by rw [c];decide)];simp
 ·obtain⟨xs,K,ga,rfl⟩:=h
  refine atI (p6 rfl) (K _ _ nofun g1) rfl (sNil ⟨rfl,(Keep.push.trans (K.weaken nofun)).trans (Keep.set (.head _)),⟨(H ++ [O.cell (some (V.ref l))]).length,getS (K _ _ nofun g1), ?_⟩,λq' e=> ?_⟩)
  ·rw [List.length_map,List.take_length] at ga
   refine getO' (λe=> ?_) ga
   have:=ltL h1
   rw [e,List.length_append] at this
   lia
  ·have e:O.inst 0 [(82,V.ref (H ++ [O.cell (some (V.ref l))]).length)]=O.inst 0 [(82, .ref q')]:=Option.some.inj ((getS (K _ _ nofun g1)).symm.trans e)
   injection e with e1 e2
   injection e2 with e2
   injection e2 with e3 e4
   injection e4 with e4
   rw [<- e4,List.length_append]
   exact Nat.le_add_right _ _
theorem mem_rem (hM:MemAt H m ms) (hI:Iv rw_ J H) (hs: ∀k∈ms,k∈J) (hl:l∈J) (hz:ms.length<=1000) (hin:ms.any (same rw_ l)=true) :
 wq (run (n + 3) (P9 is) 10 [] [.ref m, .ref l] []) H λv H'=>v= .none/\Keep [m] H H'/\MemAt H' m (del rw_ l ms)/\∀q',H'[m]? =some (.inst 0 [(82, .ref q')])->H.length<=q':=by
 have z:run (n + 2) (P9 is) 5 [] [.ref m, .ref l] [] H= .ok (.bool true) H:=hin▸mem_has hM hI hs hl
 have M:=hM
 obtain⟨q,h1,h2⟩:=M
 refine qRun (ρ:=⟨[some (.ref m),some (.ref l),none],List.replicate 3 none⟩) rfl rfl rfl λDd=> ?_
 refine sIfF (toT (hasI (p6 rfl) (p6 rfl) h1 rfl z rfl)) ?_
 (repeat first|with_reducible apply sCat0|with_reducible apply sCat1|(with_reducible apply sAsgN;focus ((with_reducible (repeat' first|assumption|apply p6|apply p34|apply p33|with_unfolding_all exact rfl));done))|(with_reducible apply sRetP;focus ((with_reducible (repeat' first|assumption|apply p6|apply p34|apply p33|with_unfolding_all exact rfl));done)))
 exact sExpr (eMeth (p6 rfl) h1 rfl (by(with_reducible (repeat' first|assumption|apply p6|apply p34|apply p33|with_unfolding_all exact rfl))) (qMono (mem_del hM hI hs hl hz) λv H2 h=>⟨by rw [h.1];rfl,sNil ⟨rfl,h.2⟩⟩))
end
noncomputable abbrev ndl (x:V) (m:Nat) (a b:V) (d q:Int):List (Nat × V):= [(97,x),(83, .ref m),(58,a),(80,b),(34, .int d),(20, .int q)]
noncomputable abbrev nd (x:V) (m:Nat) (a b:V) (d q:Int):O:= .inst 2 (ndl x m a b d q)
noncomputable def DepAt (H:Hp) (v:V) (d:Int):Prop:=(v= .none/\d=0)\/∃k x m a b q,v= .ref k/\H[k]? =some (nd x m a b d q)
noncomputable abbrev mx (a b:Int):Int:=if b > a then b else a
theorem rInt {K:Kx}{n:Int}:Pi K (.r (.int n) (decide (n≠0))):=rfl
section
variable {n:Nat}{is:List Int}{H:Hp}{l m:Nat}{x a b v:V}{d q da db:Int}
theorem pDep {C:CallT}{ρ:Lo}{e:X} (h:Pi ⟨C,P9 is,ρ,H⟩ (.e e v)) (hd:DepAt H v d):Pi ⟨C,P9 is,ρ,H⟩ (.e (.ite (.truth e) (.attr e 34) (.int 0)) (.int d)):=by
 rcases hd with⟨rfl,rfl⟩ | ⟨k,x,m,a,b,q,rfl,g⟩
 ·exact pIfF (p35 h p41) p3
 ·exact pIfT (p35 h (p43 g rfl rfl)) (p8 h g rfl)
theorem get_nd {h:Bool} (g:H[l]? =some (nd x m a b d q)):run (n + 1) (P9 is) 58 [] [.ref l, .bool h] [] H= .ok (if h then b else a) H:=by
 refine qPur (qRun (ρ:=⟨[some (.ref l),some (.bool h)],List.replicate 2 none⟩) rfl rfl rfl λDd=> ?_)
 cases h
 ·refine sIfF (p35 (p6 rfl) p40) ?_
  (repeat first|with_reducible apply sCat0|with_reducible apply sCat1|(with_reducible apply sAsgN;focus ((with_reducible (repeat' first|assumption|apply p6|apply p8|apply p35|apply p40|with_unfolding_all exact rfl));done))|(with_reducible apply sRetP;focus ((with_reducible (repeat' first|assumption|apply p6|apply p8|apply p35|apply p40|with_unfolding_all exact rfl));done)))
  exact⟨rfl,rfl⟩
 ·refine sIfT (p35 (p6 rfl) p40) ?_
  (repeat first|with_reducible apply sCat0|with_reducible apply sCat1|(with_reducible apply sAsgN;focus ((with_reducible (repeat' first|assumption|apply p6|apply p8|apply p35|apply p40|with_unfolding_all exact rfl));done))|(with_reducible apply sRetP;focus ((with_reducible (repeat' first|assumption|apply p6|apply p8|apply p35|apply p40|with_unfolding_all exact rfl));done)))
  exact⟨rfl,rfl⟩
theorem get_ni {i:Int} (g:H[l]? =some (nd x m a b d q)):run (n + 1) (P9 is) 58 [] [.ref l, .int i] [] H= .ok (if i≠0 then b else a) H:=by
 refine qPur (qRun (ρ:=⟨[some (.ref l),some (.int i)],List.replicate 2 none⟩) rfl rfl rfl λDd=> ?_)
 refine sIf (p35 (p6 rfl) rInt) (λe=> ?_) λe=> ?_
 ·rw [if_pos (of_decide_eq_true e)]
  (repeat first|with_reducible apply sCat0|with_reducible apply sCat1|(with_reducible apply sAsgN;focus ((with_reducible (repeat' first|assumption|apply p6|apply p8|apply p35|with_unfolding_all exact rfl));done))|(with_reducible apply sRetP;focus ((with_reducible (repeat' first|assumption|apply p6|apply p8|apply p35|with_unfolding_all exact rfl));done)))
  exact⟨rfl,rfl⟩
 ·rw [if_neg (of_decide_eq_false e)]
  (repeat first|with_reducible apply sCat0|with_reducible apply sCat1|(with_reducible apply sAsgN;focus ((with_reducible (repeat' first|assumption|apply p6|apply p8|apply p35|with_unfolding_all exact rfl));done))|(with_reducible apply sRetP;focus ((with_reducible (repeat' first|assumption|apply p6|apply p8|apply p35|with_unfolding_all exact rfl));done)))
  exact⟨rfl,rfl⟩
theorem set_nd {h:Bool} (g:H[l]? =some (nd x m a b d q)):wq (run (n + 1) (P9 is) 59 [] [.ref l, .bool h,v] []) H λr H'=>r= .none/\H'=H.set l (nd x m (if h then a else v) (if h then v else b) d q):=by
 refine qRun (ρ:=⟨[some (.ref l),some (.bool h),some v],List.replicate 3 none⟩) rfl rfl rfl λDd=> ?_
 cases h
 ·refine sIfF (p35 (p6 rfl) p40) ?_
  exact sAttrP (p6 rfl) (p6 rfl) g rfl (sNil ⟨rfl,rfl⟩)
 ·refine sIfT (p35 (p6 rfl) p40) ?_
  exact sAttrP (p6 rfl) (p6 rfl) g rfl (sNil ⟨rfl,rfl⟩)
theorem nd_ref (g:H[l]? =some (nd x m a b d q)) (ha:DepAt H a da) (hb:DepAt H b db):wq (run (n + 1) (P9 is) 41 [] [.ref l] []) H λv H'=>v= .none/\H'=H.set l (nd x m a b (1 + mx da db) (db - da)):=by
 refine qRun (ρ:=⟨[some (.ref l),none,none,none],List.replicate 4 none⟩) rfl rfl rfl λDd=> ?_
 refine sAsgN (pDep (by(with_reducible (repeat' first|assumption|apply p6|apply p8|apply p3|apply p10|apply p11|apply p30|with_unfolding_all exact rfl))) ha) (sAsgN (pDep (by(with_reducible (repeat' first|assumption|apply p6|apply p8|apply p3|apply p10|apply p11|apply p30|with_unfolding_all exact rfl))) hb) ?_)
 refine sAttrP (p10 p3 (p30 (p6 rfl) (p6 rfl) rfl)) (p6 rfl) g rfl ?_
 refine sAttrP (p11 (p6 rfl) (p6 rfl)) (p6 rfl) (getS g) rfl ?_
 exact sNil ⟨rfl,List.set_set _⟩
theorem nd_rot0 (g:H[l]? =some (nd x m a b d q)) (ha:DepAt H a da) (hb:DepAt H b db) (hq:(db - da).natAbs < 2):wq (run (n + 2) (P9 is) 43 [] [.ref l] []) H λv H'=>v= .ref l/\H'=H.set l (nd x m a b (1 + mx da db) (db - da)):=by
 refine qRun (ρ:=⟨[some (.ref l),none,none,none],List.replicate 4 none⟩) rfl rfl rfl λDd=> ?_
 refine sExpr (eMeth (p6 rfl) g rfl p33 (qMono (nd_ref g ha hb) λv H2 h=>⟨by rw [h.1];rfl, ?_⟩))
 obtain⟨_,rfl⟩:=h
 refine sIf (p37 (p31 (p8 (p6 rfl) (getS g) rfl)) p3 p45) (λ_=>sRetP (p6 rfl) ⟨rfl,rfl⟩) λe=> ?_
 have:=of_decide_eq_false e
 lia
variable {rw_:Nat->Rw}{J:List Nat}
theorem nd_new (hI:Iv rw_ J H):wq (run (n + 6) (P9 is) 34 [] [.ref H.length] []) (H ++ [.inst 2 []]) λv H'=>v= .none/\Keep [] H H'/\∃m,H.length < m/\H'[H.length]? =some (nd .none m .none .none 1 0)/\MemAt H' m []:=by
 refine qRun (ρ:=⟨[some (.ref H.length),some .none,some (.tup []),some .none,some .none,none],List.replicate 6 none⟩) rfl rfl rfl λDd=> ?_
 refine sAttrP (p6 rfl) (p6 rfl) getN rfl ?_
 rw [setP]
 refine sAttr (eMake (p34 (p6 rfl) p33) rfl (qMono (mem_init (ls:= []) (hI.keep (Keep.push (X:= [])) nofun) (λk h=>nomatch h) (Nat.zero_le _) (.inl ⟨rfl,rfl⟩)) λv H2 h=>⟨h.1,atI (p6 rfl) (h.2.1 _ _ nofun getN) rfl ?_⟩))
 have g:=h.2.1 _ _ nofun (getN (H:=H) (o:=O.inst 2 (putA 97 V.none [])))
 refine sAttrP (p6 rfl) (p6 rfl) (getS g) rfl ?_
 rw [List.set_set]
 refine sAttrP (p6 rfl) (p6 rfl) (getS g) rfl ?_
 rw [List.set_set]
 refine sAttrP p3 (p6 rfl) (getS g) rfl ?_
 rw [List.set_set]
 refine sAttrP p3 (p6 rfl) (getS g) rfl ?_
 rw [List.set_set]
 have e:(H ++ [O.inst 2 (putA 97 V.none [])]).length=H.length + 1:=by simp
 refine sExpr (eMeth (p6 rfl) (getS g) rfl p33 (qMono (nd_rot0 (getS g) (.inl ⟨rfl,rfl⟩) (.inl ⟨rfl,rfl⟩) (by decide)) λv H3 h3=>⟨by rw [h3.1];rfl,sNil ⟨rfl, ?_⟩⟩))
 obtain⟨_,rfl⟩:=h3
 rw [List.set_set]
 refine⟨Keep.setN (Nat.le_refl _) (Keep.push.trans h.2.1),_, ?_,getS g, ?_⟩
 ·exact Nat.lt_of_lt_of_le (Nat.lt_succ_self _) (Nat.le_of_eq e.symm)
 ·refine h.2.2.keep (Keep.set (X:= [H.length]) (.head _)) (λhx=> ?_) λx hx=> ?_
  ·have:=List.mem_singleton.mp hx
   lia
  ·obtain rfl:=in1 hx
   exact⟨_,_,g⟩
end
section
variable (rw_:Nat->Rw) (J:List Nat)
structure SL (ls:List Nat):Prop where
 sub: ∀k∈ls,k∈J
 asc:ls.Pairwise λa b=>(rw_ a).b<=(rw_ b).b
 ne:ls.Pairwise λa b=>kl (rw_ a)≠kl (rw_ b)
structure GoodM (x:Int) (ms:List Nat):Prop where
 sub: ∀k∈ms,k∈J
 hit: ∀k∈ms,(rw_ k).b<=x/\x < (rw_ k).e
 ne:ms.Pairwise λa b=>kl (rw_ a)≠kl (rw_ b)
 le:ms.length<=7
inductive Lv (H:Hp):Nat->V->Int->List Nat->Prop
 | nil {j:Nat}:Lv H j .none 0 []
 | node {j l m:Nat}{x:Int}{ms:List Nat}{a b:V}{da db:Int}{fa fb:List Nat}:H[l]? =some (nd (.int x) m a b (1 + mx da db) (db - da))->MemAt H m ms->GoodM rw_ J x ms->Lv H j a da fa->Lv H j b db fb->(l :: m :: (fa ++ fb)).Nodup->
  Lv H (j + 1) (.ref l) (1 + mx da db) (l :: m :: (fa ++ fb))
end
section
variable {n:Nat}{is:List Int}{H H':Hp}{rw_:Nat->Rw}{J:List Nat}{j:Nat}{v:V}{d:Int}{fp:List Nat}
theorem SL.filter {ls:List Nat} (h:SL rw_ J ls) (p:Nat->Bool):SL rw_ J (ls.filter p):=⟨λk hk=>h.sub k (List.mem_filter.mp hk).1,h.asc.filter _,h.ne.filter _⟩
theorem Lv.depth (h:Lv rw_ J H j v d fp):0<=d/\d<=j:=by
 induction h with
 | nil=>exact⟨Int.le_refl _,Int.natCast_nonneg _⟩
 | node _ _ _ _ _ _ ia ib=>
  unfold mx
  refine⟨?_, ?_⟩ <;> split <;> lia
theorem Lv.dep (h:Lv rw_ J H j v d fp):DepAt H v d:=by
 cases h with
 | nil=>exact .inl ⟨rfl,rfl⟩
 | node g _ _ _ _ _=>exact .inr ⟨_,_,_,_,_,_,rfl,g⟩
theorem Lv.ins (h:Lv rw_ J H j v d fp): ∀z∈fp,Ins H z:=by
 induction h with
 | nil=>exact λz h=>nomatch h
 | node g hm _ _ _ _ ia ib=>
  intro z hz
  rcases mcons hz with rfl | hz
  ·exact⟨_,_,g⟩
  ·rcases mcons hz with rfl | hz
   ·exact hm.elim λq h=>⟨_,_,h.1⟩
   ·exact(List.mem_append.mp hz).elim (ia z) (ib z)
theorem Ins.lt {l:Nat} (h:Ins H l):l < H.length:=h.elim λc h=>h.elim λa h=>ltL h
theorem Lv.keep {X:List Nat} (h:Lv rw_ J H j v d fp) (k:Keep X H H') (hX: ∀x∈X,x∉fp/\Ins H x):Lv rw_ J H' j v d fp:=by
 induction h with
 | nil=>exact .nil
 | node g hm hg _ _ hn ia ib=>
  refine .node (k _ _ (λhx=>(hX _ hx).1 (.head _)) g) (hm.keep k (λhx=>(hX _ hx).1 (.tail _ (.head _))) λx hx=>(hX x hx).2) hg (ia λx hx=>⟨λhf=>(hX x hx).1 (.tail _ (.tail _ (List.mem_append_left _ hf))),(hX x hx).2⟩) (ib λx hx=>⟨λhf=>(hX x hx).1 (.tail _ (.tail _ (List.mem_append_right _ hf))),(hX x hx).2⟩) hn
theorem Lv.nodup (h:Lv rw_ J H j v d fp):fp.Nodup:=by
 cases h with
 | nil=>exact List.nodup_nil
 | node _ _ _ _ _ hn=>exact hn
noncomputable def FS (is:List Int) (rw_:Nat->Rw) (J:List Nat) (j N:Nat):Prop:=∀ (H:Hp) (li:Nat) (ls:List Nat),Iv rw_ J H->SL rw_ J ls->ls.length < 2 ^ j->H[li]? =some (.list (ls.map V.ref))->
 wq (run N (P9 is) 37 [] [.g (.cls 2), .ref li] []) H λv H'=>Keep [] H H'/\∃d fp,Lv rw_ J H' j v d fp/\∀z∈fp,H.length<=z
noncomputable def pl (rw_:Nat->Rw) (x:Int) (k:Nat):Bool:=decide ((rw_ k).e<=x)
noncomputable def pr (rw_:Nat->Rw) (x:Int) (k:Nat):Bool:= !pl rw_ x k && decide ((rw_ k).b > x)
noncomputable def pm (rw_:Nat->Rw) (x:Int) (k:Nat):Bool:= !pl rw_ x k && !decide ((rw_ k).b > x)
theorem half (n:Nat):(n:Int).fdiv 2=((n / 2:Nat):Int):=by cases n <;> rfl
theorem pylong: ∀n < 8,Builtin.divisionGoesByPylong ((n:Nat):Int) 2=false:=by decide +kernel
theorem pDiv {K:Kx}{a b:X}{m k:Int} (h:Pi K (.e a (.int m))) (h2:Pi K (.e b (.int k))) (hk: ¬ (k=0\/Builtin.divisionGoesByPylong m k=true)):Pi K (.e (.bin .FloorDiv a b) (.int (m.fdiv k))) :=
 okB h (okB h2 (show(if k=0\/Builtin.divisionGoesByPylong m k=true then stuck else pure (V.int (m.fdiv k)):M V) K.H=_ by rw [if_neg hk];rfl))
theorem fold_ne: ∀ (ls ms:List Nat),(ms ++ ls).Pairwise (λa b=>kl (rw_ a)≠kl (rw_ b))->ls.foldl (ins rw_) ms=ms ++ ls:=by
 intro ls
 induction ls with
 | nil=>intro ms _;rw [List.append_nil];rfl
 | cons l ls ih=>
  intro ms h
  have e:ins rw_ ms l=ms ++ [l]:=if_neg λc=>by
   obtain⟨k,hk,e⟩:=List.any_eq_true.mp c
   exact(List.pairwise_append.mp h).2.2 k hk l (.head _) (of_decide_eq_true e)
  rw [List.foldl_cons,e,ih _ (by rw [List.append_assoc];exact h),List.append_assoc];rfl
theorem halves {ls:List Nat}{c:Nat} (h:SL rw_ J ls) (ok: ∀k∈J,RwOK (rw_ k)) (hc:ls[ls.length / 2]? =some c):(ls.filter (pl rw_ (rw_ c).b)).length<=ls.length / 2/\(ls.filter (pr rw_ (rw_ c).b)).length<=ls.length - 1 - ls.length / 2:=by
 obtain⟨hlt,hget⟩:=List.getElem?_eq_some_iff.mp hc
 have asc: ∀ (i k:Nat) (hi:i < ls.length) (hk:k < ls.length),i<=k->(rw_ ls[i]).b<=(rw_ ls[k]).b:=λi k hi hk e=>by
  rcases Nat.lt_or_eq_of_le e with e | rfl
  ·exact List.pairwise_iff_getElem.mp h.asc i k hi hk e
  ·exact Int.le_refl _
 constructor
 ·rw [<- List.take_append_drop (ls.length / 2) ls,List.filter_append,List.length_append]
  have e:(ls.drop (ls.length / 2)).filter (pl rw_ (rw_ c).b)= []:=List.filter_eq_nil_iff.mpr λk hk=>by
   obtain⟨i,hi,rfl⟩:=List.mem_iff_getElem.mp hk
   rw [List.getElem_drop]
   rw [List.length_drop] at hi
   have:=asc (ls.length / 2) (ls.length / 2 + i) hlt (by lia) (by lia)
   have o:=(ok _ (h.sub _ (List.getElem_mem (h:=(by lia:ls.length / 2 + i < ls.length))))).be
   rw [hget] at this
   unfold pl
   simp only [decide_eq_true_eq]
   lia
  rw [e]
  have:=List.length_filter_le (pl rw_ (rw_ c).b) (ls.take (ls.length / 2))
  have:=List.length_take_le (ls.length / 2) ls
  simp only [List.length_nil,List.take_append_drop]
  lia
 ·have sp:=List.take_append_drop (ls.length / 2 + 1) ls
  have e:(ls.take (ls.length / 2 + 1)).filter (pr rw_ (rw_ c).b)= []:=List.filter_eq_nil_iff.mpr λk hk=>by
   obtain⟨i,hi,rfl⟩:=List.mem_iff_getElem.mp hk
   rw [List.getElem_take]
   rw [List.length_take] at hi
   have:=asc i (ls.length / 2) (by lia) hlt (by lia)
   rw [hget] at this
   unfold pr
   simp only [Bool.and_eq_true,decide_eq_true_eq]
   lia
  have l2:(ls.filter (pr rw_ (rw_ c).b)).length=((ls.drop (ls.length / 2 + 1)).filter (pr rw_ (rw_ c).b)).length:=by
   rw [<- sp,List.filter_append,e,sp];rfl
  have:=List.length_filter_le (pr rw_ (rw_ c).b) (ls.drop (ls.length / 2 + 1))
  rw [List.length_drop] at this
  lia
theorem mset {m kk:Nat}{ms:List Nat}{ws ws':List V} (h:MemAt H m ms) (g:H[kk]? =some (.list ws)) (hk: ∀q,H[m]? =some (.inst 0 [(82, .ref q)])->q≠kk):MemAt (H.set kk (.list ws')) m ms:=
 h.imp λq h=>⟨getO' (λe=>by rw [e] at g;exact O.noConfusion (Option.some.inj (g.symm.trans h.1))) h.1,getO' (hk q h.1).symm h.2⟩
theorem nodup_cat {l m:Nat}{fa fb:List Nat}{A B:Nat} (ha:fa.Nodup) (hb:fb.Nodup) (h1:l < m) (h2:m < A) (h3:A<=B) (a1: ∀z∈fa,A<=z/\z < B) (b1: ∀z∈fb,B<=z):(l :: m :: (fa ++ fb)).Nodup:=by
 have ge: ∀z∈fa ++ fb,A<=z:=λz hz=>(List.mem_append.mp hz).elim (λh=>(a1 z h).1) λh=>Nat.le_trans h3 (b1 z h)
 rw [List.nodup_cons,List.nodup_cons,List.nodup_append]
 refine⟨λh=> ?_,λh=> ?_,ha,hb,λx hx y hy e=> ?_⟩
 ·rcases List.mem_cons.mp h with e | h
  ·lia
  ·have:=ge l h;lia
 ·have:=ge m h;lia
 ·have:=(a1 x hx).2;have:=b1 y hy;lia
theorem Lv.vit (h:Lv rw_ J H j v d fp):vIt v=none:=by cases h <;> rfl
theorem Iv.lt {l:Nat} (h:Iv rw_ J H) (hl:l∈J):l < H.length:=ltL (h.at_ l hl)
theorem filt_lt {ls:List Nat}{p:Nat->Bool}{i:Nat} (h:ls.length < 8):(((ls.take i).filter p).map V.ref).length < 2 ^ 19:=by
 rw [List.length_map]
 exact Nat.lt_of_le_of_lt (Nat.le_trans (List.length_filter_le _ _) (List.length_take_le' i ls)) (Nat.lt_trans h (by decide))
theorem filt_le {ls:List Nat}{p:Nat->Bool}{i:Nat} (h:ls.length < 8):((ls.take i).filter p).length<=7:=Nat.le_trans (Nat.le_trans (List.length_filter_le _ _) (List.length_take_le' i ls)) (Nat.le_of_lt_succ h)
theorem tkP {ls:List Nat}{p:Nat->Bool}{i k:Nat} (h:ls[i]? =some k) (hp:p k=true):(ls.take (i + 1)).filter p=(ls.take i).filter p ++ [k]:=by
 rw [List.take_add_one,h,List.filter_append]
 exact congrArg _ (List.filter_cons_of_pos hp)
theorem tkN {ls:List Nat}{p:Nat->Bool}{i k:Nat} (h:ls[i]? =some k) (hp:p k=false):(ls.take (i + 1)).filter p=(ls.take i).filter p:=by
 rw [List.take_add_one,h,List.filter_append]
 exact(congrArg _ (List.filter_cons_of_neg (Bool.eq_false_iff.mp hp))).trans (List.append_nil _)
theorem tkPV {ls:List Nat}{p:Nat->Bool}{i k:Nat} (h:ls[i]? =some k) (hp:p k=true):((ls.take i).filter p).map V.ref ++ [V.ref k]=((ls.take (i + 1)).filter p).map V.ref:=by
 rw [tkP h hp,List.map_append];rfl
theorem MemAt.old {m q:Nat}{ms:List Nat} (M:MemAt H m ms) (K:Keep [] H H') (e:H'[m]? =some (.inst 0 [(82, .ref q)])):q < H.length:=by
 obtain⟨q2,h1,h2⟩:=M
 have e:O.inst 0 [(82,V.ref q)]=O.inst 0 [(82, .ref q2)]:=Option.some.inj (e.symm.trans (K _ _ nofun h1))
 injection e with e1 e2
 injection e2 with e2
 injection e2 with e3 e4
 injection e4 with e4
 exact e4▸ltL h2
theorem qset {kk m:Nat}{ws ws':List V}{ms:List Nat}{p:Nat->Prop} (M:MemAt H m ms) (g:H[kk]? =some (.list ws)) (hq: ∀q,H[m]? =some (.inst 0 [(82, .ref q)])->p q) (q:Nat) (e:(H.set kk (.list ws'))[m]? =some (.inst 0 [(82, .ref q)])):p q:=hq q (by
 obtain⟨q2,h1,h2⟩:=M
 rwa [List.getElem?_set_ne (λe2=>by rw [e2] at g;exact O.noConfusion (Option.some.inj (g.symm.trans h1)))] at e)
theorem neIL {k l c:Nat}{a:List (Nat × V)}{ws:List V} (e:H[k]? =some (.list ws)) (g:H[l]? =some (.inst c a)):k≠l:=λq=>by
 rw [q,g] at e
 exact O.noConfusion (Option.some.inj e)
theorem init_core {li l m0:Nat}{ls:List Nat}{Q:V->Hp->Prop} (hF:FS is rw_ J j (n + 6)) (hj:j<=2) (hI:Iv rw_ J H) (hS:SL rw_ J ls) (hz:ls.length < 2 ^ (j + 1)) (hne:ls≠ []) (gl:H[li]? =some (.list (ls.map V.ref))) (g:H[l]? =some (nd .none m0 .none .none 1 0))
 (k : ∀H' x m ms a b da db fa fb,Keep [l] H H'->H'[l]? =some (nd (.int x) m a b 1 0)->MemAt H' m ms->GoodM rw_ J x ms->Lv rw_ J H' j a da fa->Lv rw_ J H' j b db fb->(l :: m :: (fa ++ fb)).Nodup->(∀z∈m :: (fa ++ fb),H.length<=z)->
  wq (run (n + 6) (P9 is) 43 [] [.ref l] []) H' λv H2=>vIt v=none/\Q v H2) :
 wq (run (n + 7) (P9 is) 38 [] [.ref l, .ref li] []) H Q:=by
 have h8:ls.length < 8:=Nat.lt_of_lt_of_le hz (Nat.pow_le_pow_right (by decide) (Nat.succ_le_succ hj))
 have hlen:ls.length / 2 < ls.length:=Nat.div_lt_self (List.length_pos_iff.mpr hne) (by decide)
 obtain⟨c,hc⟩: ∃c,ls[ls.length / 2]? =some c:=⟨_,List.getElem?_eq_getElem hlen⟩
 have hcJ:=hS.sub c (List.mem_of_getElem? hc)
 have hv:=halves hS hI.ok hc
 have hlt:l < H.length:=ltL g
 refine qRun (ρ:=⟨[some (.ref l),some (.ref li),none,none,none,none,none,none,none],List.replicate 9 none⟩) rfl rfl rfl λDd=> ?_
 refine sAsgN (p20 (n:=(ls.length:Int).fdiv 2) (v:= .ref c) (p6 rfl) ?_ gl ?_) ?_
 ·have z:=pDiv (K:=⟨run (n + 6) (P9 is),P9 is,⟨[some (.ref l),some (.ref li),none,none,none,none,none,none,none],List.replicate 9 none⟩,H⟩) (p26 (p6 (n:=1) rfl) gl) (p3 (n:=2)) (λh=>h.elim (λh=>nomatch h) λh=>by
   rw [List.length_map,pylong _ h8] at h;exact Bool.noConfusion h)
  rwa [List.length_map] at z
 ·rw [half]
  show(if(0:Int)<=((ls.length / 2:Nat):Int) then(ls.map V.ref)[((ls.length / 2:Nat):Int).toNat]? else none)=_
  rw [if_pos (Int.natCast_nonneg _),Int.toNat_natCast,List.getElem?_map,hc];rfl
 refine sAttrP (p8 (p6 rfl) (hI.at_ c hcJ) rfl) (p6 rfl) g rfl ?_
 generalize hH1:H.set l (.inst 2 (putA 97 (.int (rw_ c).b) [(97, .none),(83, .ref m0),(58, .none),(80, .none),(34, .int 1),(20, .int 0)]))=H1
 have K1:Keep [l] H H1:=hH1▸Keep.set (.head _)
 have g1:H1[l]? =some (nd (.int (rw_ c).b) m0 .none .none 1 0):=hH1▸getS g
 have len1:H1.length=H.length:=by rw [<- hH1,List.length_set]
 have nJ: ∀x∈ [l],x∉J:=all1 (notJ hI g (by decide))
 refine sAttr (eMake p33 rfl (qMono (mem_init (ls:= []) (hI.keep K1 nJ) (λk h=>nomatch h) (Nat.zero_le _) (.inl ⟨rfl,rfl⟩)) λv H2 h=>⟨h.1,atI (p6 rfl) (h.2.1 _ _ nofun g1) rfl ?_⟩))
 obtain⟨_,K2,M2⟩:=h
 have g2:=K2 _ _ nofun g1
 have i2:H1.length < H2.length:=M2.elim λq h=>ltL h.1
 have l1:H1.length≠l:=Nat.ne_of_gt (len1.symm▸hlt)
 generalize hH3:H2.set l (.inst 2 (putA 83 (.ref H1.length) [(97, .int (rw_ c).b),(83, .ref m0),(58, .none),(80, .none),(34, .int 1),(20, .int 0)]))=H3
 have K3:Keep [l] H H3:=hH3▸(K1.trans (K2.weaken nofun)).trans (Keep.set (.head _))
 have g3:H3[l]? =some (nd (.int (rw_ c).b) H1.length .none .none 1 0):=hH3▸getS g2
 have M3:MemAt H3 H1.length []:=hH3▸M2.keep (Keep.set (X:= [l]) (.head _)) (ni1 l1) (all1 ⟨_,_,g2⟩)
 have len3:H3.length=H2.length:=by rw [<- hH3,List.length_set]
 refine sAsg (eLst p33 (sAsg (eLst p33 ?_)))
 generalize hH4:H3 ++ [O.list []] ++ [O.list []]=H4
 have eL:(H3 ++ [O.list []]).length=H3.length + 1:=by simp
 have K4:Keep [] H3 H4:=hH4▸Keep.push.trans Keep.push
 have gL4:H4[H3.length]? =some (.list []):=hH4▸getP getN
 have gR4:H4[(H3 ++ [O.list []]).length]? =some (.list []):=hH4▸getN
 have len4:H4.length=H3.length + 2:=by rw [<- hH4];simp
 generalize hR:(H3 ++ [O.list []]).length=R at gR4 eL ⊢
 have gli4:H4[li]? =some (.list (ls.map V.ref)):=K4 _ _ nofun (K3 _ _ (ni1 (neIL gl g)) gl)
 have lil:li < H.length:=ltL gl
 have b3:H1.length < H3.length:=len3.symm▸i2
 have bR:H3.length < R:=eL.symm▸Nat.lt_succ_self _
 have old: ∀ {z:Nat},z < H.length->z∉ [H1.length,H3.length,R]:=λ {z} h=>
  have h1:z < H1.length:=len1.symm▸h
  ni3 (Nat.ne_of_lt h1) (Nat.ne_of_lt (Nat.lt_trans h1 b3)) (Nat.ne_of_lt (Nat.lt_trans h1 (Nat.lt_trans b3 bR)))
 have nli:=old lil
 have nl:=old hlt
 have neLR:H3.length≠R:=Nat.ne_of_lt bR
 have g4:=K4 _ _ nofun g3
 have I4: ∀ {Hx:Hp},Keep [H1.length,H3.length,R] H4 Hx->Iv rw_ J Hx:=λ {Hx} K=>((hI.keep K3 nJ).keep K4 nofun).keep K λx hx hJ=>old (hI.lt hJ) hx
 have qs: ∀q,H4[H1.length]? =some (.inst 0 [(82, .ref q)])->q≠H3.length/\q≠R:=λq e=>have h:=M3.old K4 e;⟨Nat.ne_of_lt h,Nat.ne_of_lt (Nat.lt_trans h bR)⟩
 refine sFor (qB (qOk (a:= .ref li) (show Pi ⟨_,_,_,_⟩ (.e _ _) from p6 rfl) (qOk (a:=(some li,ls.map V.ref)) (okB (a:=li) (okG gli4 rfl) (okB (a:=ls.map V.ref) (okG gli4 rfl) rfl)) ?_)))
 refine qMono (forGo (λi ρ H'=>(∃x,ρ=⟨[some (.ref l),some (.ref li),some (.ref c),some (.ref H3.length),some (.ref R),x,none,none,none],List.replicate 9 none⟩)/\Keep [H1.length,H3.length,R] H4 H'/\H'[H3.length]? =some (.list (((ls.take i).filter (pl rw_ (rw_ c).b)).map V.ref))/\H'[R]? =some (.list (((ls.take i).filter (pr rw_ (rw_ c).b)).map V.ref))/\MemAt H' H1.length ((ls.take i).filter (pm rw_ (rw_ c).b))/\∀q,H'[H1.length]? =some (.inst 0 [(82, .ref q)])->q≠H3.length/\q≠R)
  (λv H'=>False) (λi v H' ρ hv h=> ?_) (λ ρ H' h=>stlS (h.2.1 _ _ ?_ gli4)) _ 0 H4 _ (Nat.zero_add _) ⟨⟨_,rfl⟩,Keep.refl,gL4,gR4,M3.keep K4 nofun (λx h=>nomatch h),qs⟩) λr H' h=> ?_
 ·obtain ⟨⟨x,rfl⟩,K,gL,gR,M,hq⟩:=h
  have hv':=hv
  rw [List.getElem?_map] at hv'
  obtain⟨k',hk,rfl⟩:=Option.map_eq_some_iff.mp hv'
  have hkJ:=hS.sub k' (List.mem_of_getElem? hk)
  have I':=I4 K
  have ik:=I'.at_ k' hkJ
  have gl':=K _ _ nl g4
  refine⟨curS (K _ _ nli gli4) hv,_,rfl, ?_⟩
  refine sIf (p37 (p8 (p6 rfl) ik rfl) (p8 (p6 rfl) gl' rfl) p47) (λc1=> ?_) λc1=> ?_
  ·have p1:pl rw_ (rw_ c).b k'=true:=c1
   have p2:pr rw_ (rw_ c).b k'=false:=by unfold pr;rw [p1];rfl
   have p3:pm rw_ (rw_ c).b k'=false:=by unfold pm;rw [p1];rfl
   exact sExpr (eApp (p6 rfl) gL (p6 rfl) (filt_lt h8) (sNil ⟨⟨_,rfl⟩,K.trans (Keep.set (.tail _ (.head _))),tkPV hk p1▸getS gL,(tkN hk p2).symm▸getO' neLR gR,(tkN hk p3).symm▸mset M gL λq e=>(hq q e).1,qset M gL hq⟩))
  ·have p1:pl rw_ (rw_ c).b k'=false:=c1
   refine sCat0 ?_ |> λh=>h
   refine sIf (p37 (p8 (p6 rfl) ik rfl) (p8 (p6 rfl) gl' rfl) p46) (λc2=> ?_) λc2=> ?_
   ·have p2:pr rw_ (rw_ c).b k'=true:=by unfold pr;rw [p1];exact c2
    have p3:pm rw_ (rw_ c).b k'=false:=by unfold pm;rw [p1,c2];rfl
    exact sExpr (eApp (p6 rfl) gR (p6 rfl) (filt_lt h8) (sNil ⟨⟨_,rfl⟩,K.trans (Keep.set (.tail _ (.tail _ (.head _)))),(tkN hk p1).symm▸getO' neLR.symm gL,tkPV hk p2▸getS gR,(tkN hk p3).symm▸mset M gR λq e=>(hq q e).2,qset M gR hq⟩))
   ·have p2:pr rw_ (rw_ c).b k'=false:=by unfold pr;rw [p1,c2];rfl
    have p3:pm rw_ (rw_ c).b k'=true:=by unfold pm;rw [p1,c2];rfl
    have hins:ins rw_ ((ls.take i).filter (pm rw_ (rw_ c).b)) k'=(ls.take i).filter (pm rw_ (rw_ c).b) ++ [k']:=by
     have ne:=(hS.ne.sublist (List.take_sublist (i + 1) ls)).filter (pm rw_ (rw_ c).b)
     exact fold_ne [k'] _ (tkP hk p3▸ne)
    obtain⟨q0,hq0,_⟩:=id M
    refine sExpr (eMeth (p8 (p6 rfl) gl' rfl) hq0 rfl (p34 (p6 rfl) p33) (qMono (mem_add M I' (λz hz=>hS.sub z (List.mem_of_mem_take (List.mem_filter.mp hz).1)) hkJ ?_) λv H5 h=>⟨by rw [h.1];rfl,sNil ⟨⟨_,rfl⟩,K.trans (h.2.1.weaken λx hx=>(List.mem_singleton.mp hx)▸ .head _), ?_, ?_, ?_,λq e=>(h.2.2.2 q e).elim (hq q) λe=> ?_⟩⟩))
    ·exact Nat.le_trans (filt_le h8) (by decide)
    ·exact(tkN hk p1).symm▸h.2.1 _ _ (ni1 (Nat.ne_of_gt b3)) gL
    ·exact(tkN hk p2).symm▸h.2.1 _ _ (ni1 (Nat.ne_of_gt (Nat.lt_trans b3 bR))) gR
    ·exact(tkP hk p3).symm▸hins▸h.2.2.1
    ·have:=ltL gR
     exact⟨Nat.ne_of_gt (Nat.lt_of_lt_of_le (Nat.lt_trans bR this) e),Nat.ne_of_gt (Nat.lt_of_lt_of_le this e)⟩
 ·exact nli
 ·obtain⟨f,ρ'⟩:=r
  cases f with
  | rt v=>exact h.elim
  | nx =>
   obtain⟨⟨x,e⟩,K,gL,gR,M,hq⟩:=h
   have e:ρ'=_:=e
   subst e
   rw [List.length_map,List.take_length] at gL gR M
   have I5:=I4 K
   have h2:ls.length / 2 < 2 ^ j:=by
    rw [Nat.pow_succ] at hz
    lia
   have lR:=ltL gR
   refine sAttr (l:=l) (k:=2) (at_:=ndl (.int (rw_ c).b) H1.length .none .none 1 0) (eMethC rfl rfl (p34 (p6 rfl) p33) (qMono (hF H' H3.length _ I5 (hS.filter _) (by lia) gL) λa H6 ha=> ?_))
   obtain⟨Ka,da,fa,La,fra⟩:=ha
   have g6:=Ka _ _ nofun (K _ _ nl g4)
   refine⟨La.vit,atI (p6 rfl) g6 rfl ?_⟩
   have gR6:=Ka _ _ nofun gR
   have len6:H'.length<=H6.length:=Ka.len
   generalize hH7:H6.set l (.inst 2 (putA 58 a [(97, .int (rw_ c).b),(83, .ref H1.length),(58, .none),(80, .none),(34, .int 1),(20, .int 0)]))=H7
   have K7:Keep [l] H6 H7:=hH7▸Keep.set (.head _)
   have g7:H7[l]? =some (nd (.int (rw_ c).b) H1.length a .none 1 0):=hH7▸getS g6
   have len7:H7.length=H6.length:=by rw [<- hH7,List.length_set]
   have l1':H1.length < H'.length:=Nat.lt_trans (Nat.lt_trans b3 bR) lR
   have lt':l < H'.length:=Nat.lt_trans (len1.symm▸hlt) l1'
   have X7: ∀x∈ [l],x∉fa/\Ins H6 x:=all1 ⟨λhf=>Nat.not_le_of_gt lt' (fra _ hf),⟨_,_,g6⟩⟩
   have La7:=La.keep K7 X7
   have I7:=(I5.keep Ka nofun).keep K7 nJ
   have gR7:=K7 _ _ (ni1 (Nat.ne_of_gt (Nat.lt_trans (len1.symm▸hlt) (Nat.lt_trans b3 bR)))) gR6
   refine sAttr (l:=l) (k:=2) (at_:=ndl (.int (rw_ c).b) H1.length a .none 1 0) (eMethC rfl rfl (p34 (p6 rfl) p33) (qMono (hF H7 R _ I7 (hS.filter _) (by lia) gR7) λb H8 hb=> ?_))
   obtain⟨Kb,db,fb,Lb,frb⟩:=hb
   have g8:=Kb _ _ nofun g7
   refine⟨Lb.vit,atI (p6 rfl) g8 rfl ?_⟩
   generalize hH9:H8.set l (.inst 2 (putA 80 b [(97, .int (rw_ c).b),(83, .ref H1.length),(58,a),(80, .none),(34, .int 1),(20, .int 0)]))=H9
   have K9:Keep [l] H8 H9:=hH9▸Keep.set (.head _)
   have g9:H9[l]? =some (nd (.int (rw_ c).b) H1.length a b 1 0):=hH9▸getS g8
   have La8:=La7.keep Kb λx h=>nomatch h
   have X9: ∀x∈ [l],Ins H8 x:=all1 ⟨_,_,g8⟩
   have La9:=La8.keep K9 λx hx=>⟨(X7 x hx).1,X9 x hx⟩
   have lt7:l < H7.length:=len7.symm▸Nat.lt_of_lt_of_le lt' len6
   have Lb9:=Lb.keep K9 (all1 ⟨λhf=>Nat.not_le_of_gt lt7 (frb _ hf),X9 l (.head _)⟩)
   have M6:=M.keep Ka nofun λx h=>nomatch h
   have nm:H1.length∉ [l]:=ni1 l1
   have M9:=((M6.keep K7 nm λx hx=>(X7 x hx).2).keep Kb nofun λx h=>nomatch h).keep K9 nm X9
   have KK:Keep [l] H H9:=λz o hz e=>K9 _ _ hz (Kb _ _ nofun (K7 _ _ hz (Ka _ _ nofun (K _ _ (old (ltL e)) (K4 _ _ nofun (K3 _ _ hz e))))))
   refine sRet (eMeth (p6 rfl) g9 rfl p33 (qMono (k H9 _ _ _ a b da db fa fb KK g9 M9 ⟨?_, ?_, ?_, ?_⟩ La9 Lb9 (nodup_cat La9.nodup Lb9.nodup (A:=H'.length) (B:=H7.length) (len1.symm▸hlt) l1' (len7.symm▸len6) (λz hz=>⟨fra z hz, ?_⟩) frb) ?_) λv H10 h=>h))
   ·exact λz hz=>hS.sub z (List.mem_filter.mp hz).1
   ·intro z hz
    have hp:=(List.mem_filter.mp hz).2
    unfold pm pl at hp
    simp only [Bool.and_eq_true,Bool.not_eq_true',decide_eq_false_iff_not] at hp
    lia
   ·exact hS.ne.filter _
   ·exact Nat.le_trans (List.length_filter_le _ _) (Nat.le_of_lt_succ h8)
   ·have:=(La7.ins z hz).lt
    exact this
   ·have l0:H.length<=H'.length:=Nat.le_of_lt (len1▸l1')
    exact λz hz=>(List.mem_cons.mp hz).elim (λe=>by rw [e,len1];exact Nat.le_refl _) λhz=>(List.mem_append.mp hz).elim (λh=>Nat.le_trans l0 (fra z h)) λh=>Nat.le_trans l0 (Nat.le_trans (len7.symm▸len6) (frb z h))
theorem rLE {K:Kx}{l:Nat} (g:K.H[l]? =some (.list [])):Pi K (.r (.ref l) false):=p42 g
theorem rLN {K:Kx}{l:Nat}{ls:List Nat} (g:K.H[l]? =some (.list (ls.map V.ref))) (h:ls≠ []):Pi K (.r (.ref l) true):=by
 have z:=p42 g
 rwa [show(!(ls.map V.ref).isEmpty)=true by cases ls with
  | nil=>exact absurd rfl h
  | cons _ _=>rfl] at z
theorem fs_zero:FS is rw_ J 0 (n + 1):=λH li ls hI hS hz gl=>by
 obtain rfl:ls= []:=List.length_eq_zero_iff.mp (by simpa using hz)
 refine qRun (ρ:=⟨[some (.g (.cls 2)),some (.ref li),none,none],List.replicate 4 none⟩) rfl rfl rfl λDd=> ?_
 exact sIfT (p36 (r:=false) (p35 (p6 rfl) (rLE gl))) (sRetP p1 ⟨Keep.refl,0,[], .nil,λz h=>nomatch h⟩)
theorem fs_go {H:Hp}{li:Nat}{ls:List Nat}{Q:V->Hp->Prop} (hI:Iv rw_ J H) (hne:ls≠ []) (gl:H[li]? =some (.list (ls.map V.ref)))
 (k: ∀H1 m0,Keep [] H H1->H.length < H1.length->H1[H.length]? =some (nd .none m0 .none .none 1 0)->wq (run (n + 7) (P9 is) 38 [] [.ref H.length, .ref li] []) H1 λv H2=>vIt v=none/\Q v H2) :
 wq (run (n + 8) (P9 is) 37 [] [.g (.cls 2), .ref li] []) H Q:=by
 refine qRun (ρ:=⟨[some (.g (.cls 2)),some (.ref li),none,none],List.replicate 4 none⟩) rfl rfl rfl λDd=> ?_
 refine sIfF (p36 (r:=true) (p35 (p6 rfl) (rLN gl hne))) (sAsg (eMake p33 rfl (qMono (nd_new hI) λv H1 h=>⟨h.1, ?_⟩)))
 obtain⟨_,K,m0,hm,g,M⟩:=h
 exact sAsg (eMeth (p6 rfl) g rfl (p34 (p6 rfl) p33) (qMono (k H1 m0 K (ltL g) g) λv H2 h=>⟨h.1,sRetP (p6 rfl) h.2⟩))
theorem fs_succ (hF:FS is rw_ J j (n + 6)) (hj:j<=1):FS is rw_ J (j + 1) (n + 8):=λH li ls hI hS hz gl=>by
 by_cases hne:ls= []
 ·subst hne
  refine qRun (ρ:=⟨[some (.g (.cls 2)),some (.ref li),none,none],List.replicate 4 none⟩) rfl rfl rfl λDd=> ?_
  exact sIfT (p36 (r:=false) (p35 (p6 rfl) (rLE gl))) (sRetP p1 ⟨Keep.refl,0,[], .nil,λz h=>nomatch h⟩)
 ·refine fs_go (Q:=λv H'=>Keep [] H H'/\∃d fp,Lv rw_ J H' (j + 1) v d fp/\∀z∈fp,H.length<=z) hI hne gl λH1 m0 K hlt g=>init_core hF (by lia) (hI.keep K nofun) hS hz hne (K _ _ nofun gl) g λH' x m ms a b da db fa fb K' g' M G La Lb hn hfr=> ?_
  have ba:=La.depth
  have bb:=Lb.depth
  refine qMono (nd_rot0 g' La.dep Lb.dep (by lia)) λv H2 h=> ?_
  obtain⟨rfl,rfl⟩:=h
  have X: ∀z∈ [H.length],Ins H' z:=λz hz=>(List.mem_singleton.mp hz)▸⟨_,_,g'⟩
  rw [List.nodup_cons] at hn
  have hn1:=hn.1
  have hn2:=List.nodup_cons.mp hn.2
  have hs:Keep [H.length] H' (H'.set H.length (nd (.int x) m a b (1 + mx da db) (db - da))):=Keep.set (.head _)
  refine⟨rfl,rfl,λz o _ e=>hs _ _ (λhz=> ?_) (K' _ _ (λhz=> ?_) (K _ _ nofun e)),_,_, .node (getS g') (M.keep hs (λhz=>hn1 ((List.mem_singleton.mp hz)▸ .head _)) X) G (La.keep hs λz hz=>⟨λhf=>hn1 ((List.mem_singleton.mp hz)▸ .tail _ (List.mem_append_left _ hf)),X z hz⟩) (Lb.keep hs λz hz=>⟨λhf=>hn1 ((List.mem_singleton.mp hz)▸ .tail _ (List.mem_append_right _ hf)),X z hz⟩) (List.nodup_cons.mpr hn),λz hz=> ?_⟩
  ·have:=List.mem_singleton.mp hz
   have:=ltL e
   lia
  ·have:=List.mem_singleton.mp hz
   have:=ltL e
   lia
  ·rcases List.mem_cons.mp hz with e | hz
   ·lia
   ·have:=hfr z hz;lia
end
noncomputable abbrev ndsl (h:Bool) (x:V) (m:Nat) (hv lt:V) (d q:Int):List (Nat × V):=ndl x m (if h then lt else hv) (if h then hv else lt) d q
noncomputable abbrev nds (h:Bool) (x:V) (m:Nat) (hv lt:V) (d q:Int):O:= .inst 2 (ndsl h x m hv lt d q)
section
variable {n:Nat}{is:List Int}{H:Hp}{l m D k:Nat}{x:Int}{xv hv lt v:V}{d q dh dl:Int}{h:Bool}{rw_:Nat->Rw}{J ms:List Nat}
theorem get_h (g:H[l]? =some (nds h xv m hv lt d q)):run (n + 1) (P9 is) 58 [] [.ref l, .bool h] [] H= .ok hv H:=by
 have z:=get_nd (n:=n) (is:=is) (h:=h) g
 cases h <;> exact z
theorem get_l (g:H[l]? =some (nds h xv m hv lt d q)):run (n + 1) (P9 is) 58 [] [.ref l, .bool (!h)] [] H= .ok lt H:=by
 have z:=get_nd (n:=n) (is:=is) (h:= !h) g
 cases h <;> exact z
theorem set_h (g:H[l]? =some (nds h xv m hv lt d q)):wq (run (n + 1) (P9 is) 59 [] [.ref l, .bool h,v] []) H λr H'=>r= .none/\H'=H.set l (nds h xv m v lt d q):=by
 have z:=set_nd (n:=n) (is:=is) (h:=h) (v:=v) g
 cases h <;> exact z
theorem set_l (g:H[l]? =some (nds h xv m hv lt d q)):wq (run (n + 1) (P9 is) 59 [] [.ref l, .bool (!h),v] []) H λr H'=>r= .none/\H'=H.set l (nds h xv m hv v d q):=by
 have z:=set_nd (n:=n) (is:=is) (h:= !h) (v:=v) g
 cases h <;> exact z
theorem ref_h (g:H[l]? =some (nds h xv m hv lt d q)) (a:DepAt H hv dh) (b:DepAt H lt dl):wq (run (n + 1) (P9 is) 41 [] [.ref l] []) H λv H'=>v= .none/\H'=H.set l (nds h xv m hv lt (1 + (if h then mx dl dh else mx dh dl)) (if h then dh - dl else dl - dh)):=by
 cases h
 ·exact nd_ref g a b
 ·exact nd_ref g b a
theorem rot_h (g:H[l]? =some (nds h xv m hv lt d q)) (a:DepAt H hv dh) (b:DepAt H lt dl) (hq:(dh - dl).natAbs < 2):wq (run (n + 2) (P9 is) 43 [] [.ref l] []) H λv H'=>v= .ref l/\H'=H.set l (nds h xv m hv lt (1 + (if h then mx dl dh else mx dh dl)) (if h then dh - dl else dl - dh)):=by
 cases h
 ·exact nd_rot0 g a b (by lia)
 ·exact nd_rot0 g b a hq
theorem tDep {C:CallT}{ρ:Lo}{e:X}{d:Int} (h:Pi ⟨C,P9 is,ρ,H⟩ (.e e v)) (hd:DepAt H v d):Pi ⟨C,P9 is,ρ,H⟩ (.t (.truth e) (!isNone v)):=by
 rcases hd with⟨rfl,rfl⟩ | ⟨k,x,m,a,b,q,rfl,g⟩
 ·exact p35 h p41
 ·exact p35 h (p43 g rfl rfl)
theorem pNotD {C:CallT}{ρ:Lo}{e:X}{d:Int} (h:Pi ⟨C,P9 is,ρ,H⟩ (.e e v)) (hd:DepAt H v d):Pi ⟨C,P9 is,ρ,H⟩ (.e (.not e) (.bool (isNone v))):=by
 rcases hd with⟨rfl,rfl⟩ | ⟨k,x,m,a,b,q,rfl,g⟩
 ·exact p14 h p41
 ·exact p14 h (p43 g rfl rfl)
theorem nd_prune (g:H[l]? =some (nds h xv m hv .none d q)) (a:DepAt H hv dh):run (n + 2) (P9 is) 52 [] [.ref l] [] H= .ok hv H:=by
 have z0:=get_ni (n:=n) (is:=is) (i:=0) g
 have z1:=get_ni (n:=n) (is:=is) (i:=1) g
 rw [if_neg (by decide)] at z0
 rw [if_pos (by decide)] at z1
 have dl:DepAt H (if h then .none else hv) (if h then 0 else dh):=by cases h;exact a;exact .inl ⟨rfl,rfl⟩
 have dr:DepAt H (if h then hv else .none) (if h then dh else 0):=by cases h;exact .inl ⟨rfl,rfl⟩;exact a
 have i0:vIt (if h then V.none else hv)=none:=by rcases dl with⟨e,_⟩ | ⟨_,_,_,_,_,_,e,_⟩ <;> rw [e] <;> rfl
 have i1:vIt (if h then hv else V.none)=none:=by rcases dr with⟨e,_⟩ | ⟨_,_,_,_,_,_,e,_⟩ <;> rw [e] <;> rfl
 refine qPur (qRun (ρ:=⟨[some (.ref l),none,none,none],List.replicate 4 none⟩) rfl rfl rfl λDd=> ?_)
 refine sIfT ((show _=true from ?_)▸p38 (p36 (tDep (p19 (p6 rfl) p3 g rfl z0 i0) dl)) (p36 (tDep (p19 (p6 rfl) p3 g rfl z1 i1) dr))) ?_
 ·cases h
  ·exact Bool.or_true _
  ·rfl
 refine sAsgN (pNotD (p19 (p6 rfl) p3 g rfl z0 i0) dl) ?_
 have z2:=get_nd (n:=n) (is:=is) (h:=isNone (if h then V.none else hv)) g
 have e:(if isNone (if h then V.none else hv)=true then(if h then hv else V.none) else(if h then V.none else hv))=hv:=by
  cases h
  ·cases hv <;> rfl
  ·rfl
 rw [e] at z2
 have iv:vIt hv=none:=by rcases a with⟨e,_⟩ | ⟨_,_,_,_,_,_,e,_⟩ <;> rw [e] <;> rfl
 refine sAsgN (p19 (p6 rfl) (p6 rfl) g rfl z2 iv) (sRetP (p6 rfl) ⟨rfl,rfl⟩)
theorem nd_hit {a b:V} (g:H[l]? =some (nd (.int x) m a b d q)) (hI:Iv rw_ J H) (hk:k∈J):run (n + 2) (P9 is) 39 [] [.ref l, .ref k] [] H= .ok (.bool (decide ((rw_ k).b<=x) && decide (x < (rw_ k).e))) H:=by
 have ik:=hI.at_ k hk
 have z:run (n + 1) (P9 is) 18 [] [.ref k, .int x] [] H= .ok (.bool (decide ((rw_ k).b<=x) && decide (x < (rw_ k).e))) H:=iv_has ik
 refine qPur (qRun (ρ:=⟨[some (.ref l),some (.ref k)],List.replicate 2 none⟩) rfl rfl rfl λDd=> ?_)
 exact sRetP (p23 (p6 rfl) ik rfl (by(with_reducible (repeat' first|assumption|apply p6|apply p8|apply p34|apply p33|apply p23|with_unfolding_all exact rfl))) z rfl) ⟨rfl,rfl⟩
theorem nd_rih (g:H[l]? =some (nds h (.int x) m hv .none d q)) (a:DepAt H hv dh) (hM:MemAt H m ms) (hI:Iv rw_ J H) (hG:GoodM rw_ J x ms) (hk:k∈ms) (gD:H[D]? =some (.list [])) :
 wq (run (n + 5) (P9 is) 49 [] [.ref l, .ref k, .ref D] [("should_raise_error", .bool true)]) H λv H'=>Keep [m,D] H H'/\MemAt H' m (del rw_ k ms)/\v=if(del rw_ k ms).isEmpty then hv else .ref l:=by
 have hkJ:=hG.sub k hk
 have hh:=hG.hit k hk
 have z:=nd_hit (n:=n + 2) (is:=is) g hI hkJ
 rw [decide_eq_true hh.1,decide_eq_true hh.2] at z
 have any:ms.any (same rw_ k)=true:=List.any_eq_true.mpr ⟨k,hk,decide_eq_true rfl⟩
 have zin:run (n + 4) (P9 is) 5 [] [.ref m, .ref k] [] H= .ok (.bool true) H:=any▸mem_has hM hI hG.sub hkJ
 have M0:=hM
 obtain⟨q0,h1,h2⟩:=M0
 refine qRun (ρ:=⟨[some (.ref l),some (.ref k),some (.ref D),some (.bool true),none,none],List.replicate 6 none⟩) rfl rfl rfl λDd=> ?_
 refine sIfT (p35 (p23 (p6 rfl) g rfl (by(with_reducible (repeat' first|assumption|apply p6|apply p8|apply p34|apply p33|apply p3|apply p36|apply p35|apply p40|apply p39|apply p23|apply p44|with_unfolding_all exact rfl))) z rfl) p40) ?_
 refine sIfF (p39 (r:=false) (q:=false) (p36 (r:=true) (p35 (p6 rfl) p40)) (toT (hasI (p6 rfl) (p8 (p6 rfl) g rfl) h1 rfl zin rfl))) ?_
 refine sExpr (eMeth (p8 (p6 rfl) g rfl) h1 rfl (by(with_reducible (repeat' first|assumption|apply p6|apply p8|apply p34|apply p33|apply p3|apply p36|apply p35|apply p40|apply p39|apply p23|apply p44|with_unfolding_all exact rfl))) (qMono (mem_rem hM hI hG.sub hkJ (Nat.le_trans hG.le (by decide)) any) λv H2 h2=>⟨by rw [h2.1];rfl, ?_⟩))
 obtain⟨_,K,M2,hq2⟩:=h2
 have nm:l∉ [m]:=λe=>by
  have e:=List.mem_singleton.mp e
  rw [e,h1] at g
  have g:=Option.some.inj g
  injection g with g1 g2
  exact nomatch g1
 have g2:=K _ _ nm g
 have nD:D≠m:=λe=>by rw [e,h1] at gD;exact O.noConfusion (Option.some.inj gD)
 have M20:=M2
 obtain⟨q2,h3,h4⟩:=M20
 have zb:run (n + 4) (P9 is) 4 [] [.ref m] [] H2= .ok (.bool (decide (0 < (del rw_ k ms).length))) H2:=mem_bool M2
 refine sIf (p35 (p8 (p6 rfl) g2 rfl) (p44 h3 rfl zb)) (λe=> ?_) λe=> ?_
 ·refine sExpr (eApp (p6 rfl) (K _ _ (λe=>nD (List.mem_singleton.mp e)) gD) p3 (by decide) (sRetP (p6 rfl) ⟨(K.weaken λx hx=>(List.mem_singleton.mp hx)▸ .head _).trans (Keep.set (.tail _ (.head _))), ?_, ?_⟩))
  ·exact mset M2 (K _ _ (λe=>nD (List.mem_singleton.mp e)) gD) λq e=>by
    have:=hq2 q e
    have:=ltL gD
    lia
  ·cases c:del rw_ k ms with
   | nil=>rw [c] at e;exact absurd (of_decide_eq_true e) (by decide)
   | cons _ _=>rfl
 ·have a2:DepAt H2 hv dh:=a.imp id λ ⟨k',x',m',a',b',q',e,gg⟩=>⟨k',x',m',a',b',q',e,K _ _ (λe=>by
   have e:=List.mem_singleton.mp e
   rw [e,h1] at gg
   have gg:=Option.some.inj gg
   injection gg with g1 g2
   exact nomatch g1) gg⟩
  have zp:=nd_prune (n:=n + 2) (is:=is) g2 a2
  have iv:vIt hv=none:=by rcases a with⟨e,_⟩ | ⟨_,_,_,_,_,_,e,_⟩ <;> rw [e] <;> rfl
  refine sRetP (p23 (p6 rfl) g2 rfl p33 zp iv) ⟨K.weaken λx hx=>(List.mem_singleton.mp hx)▸ .head _,M2, ?_⟩
  cases c:del rw_ k ms with
  | nil=>rfl
  | cons _ _=>rw [c] at e;exact absurd (of_decide_eq_false e) (by simp)
theorem nd_rem (g:H[l]? =some (nds h (.int x) m hv .none d q)) (a:DepAt H hv dh) (hM:MemAt H m ms) (hI:Iv rw_ J H) (hG:GoodM rw_ J x ms) (hk:k∈ms) :
 wq (run (n + 6) (P9 is) 47 [] [.ref l, .ref k] []) H λv H'=>Keep [m] H H'/\MemAt H' m (del rw_ k ms)/\v=if(del rw_ k ms).isEmpty then hv else .ref l:=by
 refine qRun (ρ:=⟨[some (.ref l),some (.ref k),none],List.replicate 3 none⟩) rfl rfl rfl λDd=> ?_
 refine sAsg (eLst p33 ?_)
 have a2:DepAt (H ++ [.list []]) hv dh:=a.imp id λ ⟨k',x',m',a',b',q',e,gg⟩=>⟨k',x',m',a',b',q',e,getP gg⟩
 have iv:vIt hv=none:=by rcases a with⟨e,_⟩ | ⟨_,_,_,_,_,_,e,_⟩ <;> rw [e] <;> rfl
 refine sRet (eMethW (p6 rfl) (getP g) rfl (by(with_reducible (repeat' first|assumption|apply p6|apply p34|apply p33|apply p2|with_unfolding_all exact rfl))) (p34 p2 p33) (qMono (nd_rih (getP g) a2 (hM.keep (Keep.push (X:= [])) nofun λx h=>(nomatch h)) (hI.keep (Keep.push (X:= [])) nofun) hG hk getN) λv H2 h2=>⟨?_,λz o hz e=>h2.1 _ _ (λhx=> ?_) (getP e),h2.2⟩))
 ·rw [h2.2.2]
  split
  ·exact iv
  ·rfl
 ·rcases List.mem_cons.mp hx with e2 | hx
  ·exact hz (e2▸ .head _)
  ·have e3:=List.mem_singleton.mp hx
   have:=ltL e
   lia
end
theorem V.refI {a b:Nat} (e:V.ref a= .ref b):a=b:=by injection e
theorem DepAt.keep {H H':Hp}{X:List Nat}{v:V}{d:Int} (h:DepAt H v d) (k:Keep X H H') (hX: ∀z,v= .ref z->z∉X):DepAt H' v d:=
 h.imp id λ ⟨z,x,m,a,b,q,e,g⟩=>⟨z,x,m,a,b,q,e,k _ _ (hX z e) g⟩
theorem DepAt.vit {H:Hp}{v:V}{d:Int} (h:DepAt H v d):vIt v=none:=by rcases h with⟨e,_⟩ | ⟨_,_,_,_,_,_,e,_⟩ <;> rw [e] <;> rfl
theorem nd_ne {H:Hp}{l m:Nat}{x:V}{m':Nat}{a b:V}{d q:Int}{ms:List Nat} (g:H[l]? =some (nd x m' a b d q)) (h:MemAt H m ms):l≠m:=λe=>by
 obtain⟨q,h1,_⟩:=h
 rw [e,h1] at g
 have g:=Option.some.inj g
 injection g with g1 g2
 exact nomatch g1
theorem DepAt.ne {H:Hp}{v:V}{d:Int}{z m:Nat}{ms:List Nat} (a:DepAt H v d) (e:v= .ref z) (M:MemAt H m ms):z≠m:=by
 rcases a with⟨e2,_⟩ | ⟨z',x',m',a',b',q',e2,gz⟩
 ·rw [e] at e2;exact nomatch e2
 ·exact V.refI (e.symm.trans e2)▸nd_ne gz M
theorem MemAt.lt {H:Hp}{m:Nat}{ms:List Nat} (M:MemAt H m ms):m < H.length:=M.elim λq h=>ltL h.1
section
variable {rw_:Nat->Rw}{J:List Nat}
noncomputable def rest (rw_:Nat->Rw) (ps ms:List Nat):List Nat:=ps.foldl (λa k=>del rw_ k a) ms
theorem rest_sub (ps:List Nat): ∀ (ms:List Nat),(rest rw_ ps ms).Sublist ms:=by
 induction ps with
 | nil=>exact λms=>List.Sublist.refl _
 | cons p ps ih=>exact λms=>(ih (del rw_ p ms)).trans List.filter_sublist
theorem rest_mem {k:Nat} (ps:List Nat): ∀ {ms:List Nat},k∈ms->(∀p∈ps,kl (rw_ p)≠kl (rw_ k))->k∈rest rw_ ps ms:=by
 induction ps with
 | nil=>exact λh _=>h
 | cons p ps ih=>
  intro ms h hp
  refine ih (List.mem_filter.mpr ⟨h, ?_⟩) λq hq=>hp q (.tail _ hq)
  unfold same
  rw [decide_eq_false λe=>hp p (.head _) e.symm];rfl
theorem GoodM.sublist {x:Int}{ms ms':List Nat} (h:GoodM rw_ J x ms) (s:ms'.Sublist ms):GoodM rw_ J x ms':=⟨λk hk=>h.sub k (s.subset hk),λk hk=>h.hit k (s.subset hk),h.ne.sublist s,Nat.le_trans s.length_le h.le⟩
noncomputable def hitC (rw_:Nat->Rw) (x:Int) (k:Nat):Bool:=decide ((rw_ k).b<=x) && decide (x < (rw_ k).e)
end
section
variable {n:Nat}{is:List Int}{H:Hp}{S C mS mC:Nat}{xs xc:Int}{w g:V}{dS qS dC qC dw dg:Int}{h:Bool}{rw_:Nat->Rw}{J msS msC:List Nat}
theorem srot (gS:H[S]? =some (nds h (.int xs) mS (.ref C) .none dS qS)) (hb:decide (qS > 0)=h) (gC:H[C]? =some (nds h (.int xc) mC w g dC qC)) (aw:DepAt H w dw) (ag:DepAt H g dg) (hg:0<=dg/\dg<=1)
 (MS:MemAt H mS msS) (GS:GoodM rw_ J xs msS) (MC:MemAt H mC msC) (sC: ∀k∈msC,k∈J) (lC:msC.length<=100) (hI:Iv rw_ J H) (nSC:S≠C) (nm:mS≠mC) (nw: ∀z,w= .ref z->z∉ [S,C]) (ng: ∀z,g= .ref z->z∉ [S,C]) :
 wq (run (n + 7) (P9 is) 44 [] [.ref S] []) H λv H'=>v= .ref C/\Keep [S,mS,C,mC] H H'/\∃lt dl msC',(lt= .ref S\/lt=g)/\H'[C]? =some (nds h (.int xc) mC w lt (1 + (if h then mx dl dw else mx dw dl)) (if h then dw - dl else dl - dw))/\DepAt H' w dw/\DepAt H' lt dl/\0<=dl/\MemAt H' mC msC'/\(∀k∈msC',k∈J)/\msC'.length<=msC.length + msS.length:=by
 refine wqQ λQ kQ=> ?_
 refine qRun (ρ:=⟨[some (.ref S),none,none,none,none,none],[none,none,none,some H.length,none,none]⟩) (H1:=H ++ [.cell none]) rfl rfl rfl λDd=> ?_
 have z1:Pi ⟨run (n + 6) (P9 is),P9 is,⟨[some (.ref S),none,none,none,none,none],[none,none,none,some H.length,none,none]⟩,H ++ [.cell none]⟩ (.e (.cmp .Gt (.attr (.loc 0) 20) (.int 0)) (.bool h)):=hb▸p15 (p8 (p6 rfl) (getP gS) rfl) p3 p46
 refine sAsgN z1 (sAsgN (p14 (p6 rfl) p40) ?_)
 refine sCel (p19 (p6 rfl) (p6 rfl) (getP gS) rfl (get_h (getP gS)) rfl) rfl getN ?_
 rw [setP]
 have nodes: ∀z∈ [S,C],Ins H z:=all2 ⟨_,_,gS⟩ ⟨_,_,gC⟩
 have nCS:C∉ [S]:=ni1 nSC.symm
 generalize hH1:H ++ [O.cell (some (V.ref C))]=H1
 have K1:Keep [] H H1:=hH1▸Keep.push
 have c1:H1[H.length]? =some (.cell (some (.ref C))):=hH1▸getN
 have gS1:=K1 _ _ nofun gS
 have gC1:=K1 _ _ nofun gC
 refine sItem (l:=S) (k:=2) (f:=59) (at_:=ndsl h (.int xs) mS (.ref C) .none dS qS) (x:= .bool h) (eP (p19 (p7 rfl c1) (p6 rfl) gC1 rfl (get_l gC1) ag.vit) (itI (p6 rfl) (p6 rfl) gS1 rfl (qMono (set_h gS1) λr' H2 hh=>⟨hh.1, ?_⟩)))
 obtain⟨_,e2⟩:=hh
 have K2:Keep [S] H1 H2:=e2▸Keep.set (.head _)
 have gS2:H2[S]? =some (nds h (.int xs) mS g .none dS qS):=e2▸getS gS1
 have gC2:=K2 _ _ nCS gC1
 have K02:Keep [S,C] H H2:=λz o hz e=>K2 _ _ (λhx=>hz ((List.mem_singleton.mp hx)▸ .head _)) (K1 _ _ nofun e)
 refine sItem (l:=C) (k:=2) (f:=59) (at_:=ndsl h (.int xc) mC w g dC qC) (x:= .bool (!h)) (eMeth (p6 rfl) gS2 rfl p33 (qMono (rot_h gS2 (ag.keep K02 ng) (.inl ⟨rfl,rfl⟩) (by lia)) λv H3 h3=> ?_))
 obtain⟨rfl,e3⟩:=h3
 have K3:Keep [S] H2 H3:=e3▸Keep.set (.head _)
 have gS3:=e3▸getS (o:=nds h (.int xs) mS g .none (1 + (if h then mx 0 dg else mx dg 0)) (if h then dg - 0 else 0 - dg)) gS2
 have gC3:=K3 _ _ nCS gC2
 have hS:H.length∉ [S]:=ni1 (Nat.ne_of_gt (ltL gS))
 have c3:=K3 _ _ hS (K2 _ _ hS c1)
 refine⟨rfl,itI (p7 rfl c3) (p6 rfl) gC3 rfl (qMono (set_l gC3) λr' H4 hh=>⟨hh.1, ?_⟩)⟩
 obtain⟨_,e4⟩:=hh
 have K4:Keep [C] H3 H4:=e4▸Keep.set (.head _)
 have gC4:H4[C]? =some (nds h (.int xc) mC w (.ref S) dC qC):=e4▸getS gC3
 have gS4:=K4 _ _ (ni1 nSC) gS3
 have c4:=K4 _ _ (ni1 (Nat.ne_of_gt (ltL gC))) c3
 have K04:Keep [S,C] H H4:=λz o hz e=>K4 _ _ (λhx=>hz ((List.mem_singleton.mp hx)▸ .tail _ (.head _))) (K3 _ _ (λhx=>hz ((List.mem_singleton.mp hx)▸ .head _)) (K02 _ _ hz e))
 have nJ: ∀x∈ [S,C],x∉J:=all2 (notJ hI gS (by decide)) (notJ hI gC (by decide))
 have I4:=hI.keep K04 nJ
 have out: ∀ {m:Nat}{ms:List Nat},MemAt H m ms->m∉ [S,C]:=λ {m ms} M=>ni2 (nd_ne gS M).symm (nd_ne gC M).symm
 have MS4:=MS.keep K04 (out MS) nodes
 have MC4:=MC.keep K04 (out MC) nodes
 have aw4:=aw.keep K04 nw
 have ag4:=ag.keep K04 ng
 clear K02 gS1 gC1 gS2 gC2 gS3 gC3 e2 e3 e4 c3 K2 K3 K4
 have dS0:0<=1 + (if h then mx 0 dg else mx dg 0):=by
  unfold mx
  split <;> split <;> lia
 generalize 1 + (if h then mx 0 dg else mx dg 0)=dS' at gS4 dS0
 generalize (if h then dg - 0 else 0 - dg)=qS' at gS4
 have iter:=iter_mem (n:=n + 5) (is:=is) MS4
 obtain⟨q4,gq4,it4⟩:=iter
 have lS:=ltL gS
 have lC':=ltL gC
 have l4:H.length < H4.length:=ltL c4
 show wq (exs _ _ _ _ ⟨[some (.ref S),some (.bool h),some (.bool (!h)),none,none,none],[none,none,none,some H.length,none,none]⟩) H4 _
 refine sAsg (eComp (qB (eP (p8 (p19 (p7 rfl c4) (p6 rfl) gC4 rfl (get_l gC4) rfl) gS4 rfl) (qOk it4 ?_))))
 refine qMono (compGo (N:=3) (cel:= [none,none,some H.length]) (λi xs H'=>Keep [] H4 H'/\H'[H4.length]? =some (.list xs)/\xs=((msS.take i).filter (hitC rw_ xc)).map V.ref) (λi v xs H' σ hv hh hc hσ=> ?_) (λxs H' hh=>stlS (hh.1 _ _ nofun gq4)) _ 0 [] _ _ (Nat.zero_add _) ⟨Keep.push,getN,rfl⟩ rfl rfl) λ_ H5 hh=> ?_
 ·obtain⟨K,ga,rfl⟩:=hh
  have hv':=hv
  rw [List.getElem?_map] at hv'
  obtain⟨k,hk,rfl⟩:=Option.map_eq_some_iff.mp hv'
  have hkm:=List.mem_of_getElem? hk
  obtain⟨lc,cl⟩:=σ
  obtain rfl:cl=_:=hc
  have hσ:lc.length=3:=hσ
  have hloc:(lc.set 1 (some (V.ref k)))[1]? =some (some (V.ref k)):=List.getElem?_set_self (by lia)
  have tk:msS.take (i + 1)=msS.take i ++ [k]:=by rw [List.take_add_one,hk];rfl
  have gC':=K _ _ nofun gC4
  have zh:run (n + 6) (P9 is) 39 [] [.ref C, .ref k] [] H'= .ok (.bool (hitC rw_ xc k)) H':=nd_hit gC' (I4.keep K nofun) (GS.sub k hkm)
  have zz:Pi ⟨run (n + 6) (P9 is),P9 is,⟨lc.set 1 (some (.ref k)),[none,none,some H.length]⟩,H'⟩ (.t (.truth (.meth (.cel 2) 23 [.loc 1] [] [])) (hitC rw_ xc k)):=p35 (p23 (p7 rfl (K _ _ nofun c4)) gC' rfl (p34 (p6 hloc) p33) zh rfl) p40
  refine⟨curS (K _ _ nofun gq4) hv,⟨lc.set 1 (some (.ref k)),_⟩,rfl,rfl,by rw [List.length_set];exact hσ,qB (qOk zz.ok ?_)⟩
  cases c:hitC rw_ xc k
  ·refine⟨λe=>Bool.noConfusion e,λ_=>⟨K, ?_, ?_⟩⟩
   ·exact ga
   ·rw [tk,List.filter_append,List.filter_cons_of_neg (by rw [c];decide)];simp
  ·refine⟨λ_=>eP (p6 hloc) ⟨ga, ?_,Keep.setN (Nat.le_refl _) K,getS ga, ?_⟩,λe=>Bool.noConfusion e⟩
   ·rw [List.length_map]
    have:=List.length_filter_le (hitC rw_ xc) (msS.take i)
    have:=List.length_take_le' i msS
    have:=GS.le
    lia
   ·rw [tk,List.filter_append,List.map_append,List.filter_cons_of_pos c];rfl
 obtain⟨xs5,K5,gP,hxs⟩:=hh
 rw [List.length_map,List.take_length] at hxs
 generalize hps:msS.filter (hitC rw_ xc)=ps at hxs
 subst hxs
 have psub:ps.Sublist msS:=hps▸List.filter_sublist
 have gS5:=K5 _ _ nofun gS4
 have gC5:=K5 _ _ nofun gC4
 have c5:=K5 _ _ nofun c4
 have I5:=I4.keep K5 nofun
 have MS5:=MS4.keep K5 nofun λx h=>(nomatch h)
 have MC5:=MC4.keep K5 nofun λx h=>(nomatch h)
 have aw5:=aw4.keep K5 λz _=>nofun
 have ag5:=ag4.keep K5 λz _=>nofun
 have ln5:=K5.len
 have fin: ∀ (H6:Hp) (lt:V) (dl:Int) (msC':List Nat) (x4:Option V),Keep [mS,C,mC] H5 H6->(lt= .ref S\/lt=g)->H6[C]? =some (nds h (.int xc) mC w lt dC qC)->DepAt H6 lt dl->0<=dl->MemAt H6 mC msC'->(∀k∈msC',k∈J)->msC'.length<=msC.length + msS.length->
  wq (exs (run (n + 6) (P9 is)) Dd (P9 is) [.expr (.meth (.cel 3) 74 [] [] []), .ret (.cel 3)] ⟨[some (.ref S),some (.bool h),some (.bool (!h)),none,x4,some (.ref H4.length)],[none,none,none,some H.length,none,none]⟩) H6 λr H'=>Q (flV r.1) H':=by
  intro H6 lt dl msC' x4 K6 hlt g6 al h0 M6 s6 l6
  have aw6:=aw5.keep K6 λz e=>ni3 (aw.ne e MS) (λh=>nw z e (h▸ .tail _ (.head _))) (aw.ne e MC)
  have c6:=K6 _ _ (ni3 (Nat.ne_of_gt MS.lt) (Nat.ne_of_gt lC') (Nat.ne_of_gt MC.lt)) c5
  have ltC: ∀z,lt= .ref z->z∉ [C]:=λz e=>ni1 (hlt.elim (λe2 h=>nSC ((V.refI (e2.symm.trans e)).trans h)) λe2 h=>ng z (e2.symm.trans e) (h▸ .tail _ (.head _)))
  have wC: ∀z,w= .ref z->z∉ [C]:=λz e hz=>nw z e (.tail _ hz)
  refine sExpr (eMeth (p7 rfl c6) g6 rfl p33 (qMono (ref_h g6 aw6 al) λv H7 h7=>⟨by rw [h7.1];rfl, ?_⟩))
  obtain⟨_,e7⟩:=h7
  have K7:Keep [C] H6 H7:=e7▸Keep.set (.head _)
  refine sRetP (p7 rfl (K7 _ _ (ni1 (Nat.ne_of_gt lC')) c6)) (kQ _ _ ⟨rfl,λz o hz e=> ?_,lt,dl,msC',hlt,e7▸getS g6,aw6.keep K7 wC,al.keep K7 ltC,h0,M6.keep K7 (ni1 (nd_ne g6 M6).symm) (all1 ⟨_,_,g6⟩),s6,l6⟩)
  refine K7 _ _ (λhx=>hz ((List.mem_singleton.mp hx)▸ .tail _ (.tail _ (.head _)))) (K6 _ _ (λhx=> ?_) (K5 _ _ nofun (K04 _ _ (λhx=> ?_) e)))
  ·exact hz (.tail _ hx)
  ·rcases List.mem_cons.mp hx with e2 | hx
   ·exact hz (e2▸ .head _)
   ·exact hz ((List.mem_singleton.mp hx)▸ .tail _ (.tail _ (.head _)))
 have aS5:DepAt H5 (.ref S) dS':= .inr ⟨S,_,_,_,_,_,rfl,gS5⟩
 show wq (exs _ _ _ _ ⟨[some (.ref S),some (.bool h),some (.bool (!h)),none,none,some (.ref H4.length)],[none,none,none,some H.length,none,none]⟩) H5 _
 by_cases hne:ps= []
 ·subst hne
  exact sIfF (p35 (p6 rfl) (rLE gP)) (sCat0 (fin H5 (.ref S) dS' msC none Keep.refl (.inl rfl) gC5 aS5 dS0 MC5 sC (Nat.le_add_right _ _)))
 ·refine sIfT (p35 (p6 rfl) (rLN gP hne)) (sCat1 (sFor (qB (eP (p6 rfl) (qOk (a:=(some H4.length,ps.map V.ref)) (okB (a:=H4.length) (okG gP rfl) (okB (a:=ps.map V.ref) (okG gP rfl) rfl)) ?_)))))
  have outX: ∀ {z:Nat},H.length<=z->z∉ [mS,C]:=λ {z} hz=>ni2 (Nat.ne_of_gt (Nat.lt_of_lt_of_le MS.lt hz)) (Nat.ne_of_gt (Nat.lt_of_lt_of_le lC' hz))
  have sX:S∉ [mS,C]:=ni2 (nd_ne gS MS) nSC
  have gX: ∀z,g= .ref z->z∉ [mS,C]:=λz e=>ni2 (ag.ne e MS) λh=>ng z e (h▸ .tail _ (.head _))
  have jX: ∀x∈ [mS,C],x∉J:=all2 (MS.elim λq h=>notJ hI h.1 (by decide)) (nJ _ (.tail _ (.head _)))
  have nX: ∀x∈ [mS,C],Ins H5 x:=all2 (MS5.elim λq h=>⟨_,_,h.1⟩) ⟨_,_,gC5⟩
  have pne:=GS.ne.sublist psub
  refine qMono (forGo (λi ρ H'=>(∃x4,ρ=⟨[some (.ref S),some (.bool h),some (.bool (!h)),none,x4,some (.ref H4.length)],[none,none,none,some H.length,none,none]⟩)/\Keep [mS,C] H5 H'/\MemAt H' mS (rest rw_ (ps.take i) msS)/\H'[C]? =some (nds h (.int xc) mC w (if(rest rw_ (ps.take i) msS).isEmpty then g else .ref S) dC qC)) (λv H'=>False) (λi v H' ρ hv hh=> ?_) (λ ρ H' hh=>stlS (hh.2.1 _ _ (outX (by lia)) gP)) _ 0 H5 _ (Nat.zero_add _) ⟨⟨_,rfl⟩,Keep.refl,MS5, ?_⟩) λr H' hh=> ?_
  ·obtain⟨⟨x4,rfl⟩,K,M,gC'⟩:=hh
   have hv':=hv
   rw [List.getElem?_map] at hv'
   obtain⟨k,hk,rfl⟩:=Option.map_eq_some_iff.mp hv'
   have hkm:=psub.subset (List.mem_of_getElem? hk)
   have tk:ps.take (i + 1)=ps.take i ++ [k]:=by rw [List.take_add_one,hk];rfl
   have kin:k∈rest rw_ (ps.take i) msS:=rest_mem _ hkm λp hp=>(List.pairwise_append.mp (tk▸pne.sublist (List.take_sublist (i + 1) ps))).2.2 p hp k (.head _)
   have nil:(rest rw_ (ps.take i) msS).isEmpty=false:=by
    cases c:rest rw_ (ps.take i) msS with
    | nil=>rw [c] at kin;exact nomatch kin
    | cons _ _=>rfl
   rw [nil,if_neg (by decide)] at gC'
   have gS':=K _ _ sX gS5
   have c':=K _ _ (outX (Nat.le_refl _)) c5
   refine⟨curS (K _ _ (outX (by lia)) gP) hv,_,rfl, ?_⟩
   refine sItem (l:=C) (k:=2) (f:=59) (at_:=ndsl h (.int xc) mC w (.ref S) dC qC) (x:= .bool (!h)) (eMeth (p19 (p7 rfl c') (p6 rfl) gC' rfl (get_l gC') rfl) gS' rfl (p34 (p6 rfl) p33) (qMono (nd_rem gS' (ag5.keep K gX) M (I5.keep K jX) (GS.sublist (rest_sub _ _)) kin) λv H2 h2=> ?_))
   obtain⟨K2,M2,rfl⟩:=h2
   have n2:C∉ [mS]:=ni1 (nd_ne gC MS)
   have gC2:=K2 _ _ n2 gC'
   refine⟨?_,itI (p7 rfl (K2 _ _ (ni1 (Nat.ne_of_gt MS.lt)) c')) (p6 rfl) gC2 rfl (qMono (set_l gC2) λr' H3 h3=>⟨h3.1, ?_⟩)⟩
   ·split
    ·exact ag.vit
    ·rfl
   ·obtain⟨_,e3⟩:=h3
    have K3:Keep [C] H2 H3:=e3▸Keep.set (.head _)
    have er:rest rw_ (ps.take (i + 1)) msS=del rw_ k (rest rw_ (ps.take i) msS):=by unfold rest;rw [tk,List.foldl_append];rfl
    rw [er]
    refine sNil ⟨⟨_,rfl⟩,(K.trans (K2.weaken (all1 (.head _)))).trans (K3.weaken (all1 (.tail _ (.head _)))),M2.keep K3 (ni1 (nd_ne gC MS).symm) (all1 ⟨_,_,gC2⟩),e3▸getS gC2⟩
  ·have nil:msS.isEmpty=false:=by
    cases c:msS with
    | nil=>rw [c] at psub;exact absurd (List.sublist_nil.mp psub) hne
    | cons _ _=>rfl
   show H5[C]? =some (nds h (.int xc) mC w (if msS.isEmpty=true then g else .ref S) dC qC)
   rw [nil];exact gC5
  ·obtain⟨f,ρ'⟩:=r
   cases f with
   | rt v=>exact hh.elim
   | nx =>
    obtain⟨⟨x4,e⟩,K,M,gC'⟩:=hh
    have e:ρ'=_:=e
    subst e
    have c':=K _ _ (outX (Nat.le_refl _)) c5
    have mX:mC∉ [mS,C]:=ni2 nm.symm (nd_ne gC MC).symm
    have M':=MC5.keep K mX nX
    have M0:=M'
    obtain⟨q0,h0,_⟩:=M0
    refine sCat1 (sExpr (eMeth (p8 (p7 rfl c') gC' rfl) h0 rfl (p34 (p6 rfl) p33) (qMono (mem_upd M' (I5.keep K jX) sC (λk hk=>GS.sub k (psub.subset hk)) (by have:=psub.length_le;have:=GS.le;lia) (.inr ⟨_,rfl,K _ _ (outX (by lia)) gP⟩)) λv H7 h7=>⟨by rw [h7.1];rfl,sCat0 ?_⟩)))
    obtain⟨_,K7,M7⟩:=h7
    have nC7:C∉ [mC]:=ni1 (nd_ne gC MC)
    have K57:Keep [mS,C,mC] H5 H7:=(K.weaken (all2 (.head _) (.tail _ (.head _)))).trans (K7.weaken (all1 (.tail _ (.tail _ (.head _)))))
    have sX7:S∉ [mC]:=ni1 (nd_ne gS MC)
    have gX7: ∀z,g= .ref z->z∉ [mC]:=λz e=>ni1 (ag.ne e MC)
    have len:(ps.foldl (ins rw_) msC).length<=msC.length + msS.length:=Nat.le_trans (fold_len ps) (Nat.add_le_add_left psub.length_le _)
    have sub7: ∀k∈ps.foldl (ins rw_) msC,k∈J:=λk hk=>(fold_sub ps hk).elim (sC k) λhk=>GS.sub k (psub.subset hk)
    have g7:=K7 _ _ nC7 gC'
    cases hE:(rest rw_ (ps.take (ps.map V.ref).length) msS).isEmpty
    ·rw [hE] at g7
     exact fin H7 (.ref S) dS' _ x4 K57 (.inl rfl) g7 (.inr ⟨S,_,_,_,_,_,rfl,K7 _ _ sX7 (K _ _ sX gS5)⟩) dS0 M7 sub7 len
    ·rw [hE] at g7
     exact fin H7 g dg _ x4 K57 (.inr rfl) g7 ((ag5.keep K gX).keep K7 gX7) hg.1 M7 sub7 len
end
theorem nds_swap {h:Bool}{x:V}{m:Nat}{a b:V}{d q:Int}:nds (!h) x m a b d q=nds h x m b a d q:=by cases h <;> rfl
section
variable {n:Nat}{is:List Int}{H:Hp}{S C G mS mC mG:Nat}{xs xc xg:Int}{dS qS dC qC dG qG:Int}{h:Bool}{rw_:Nat->Rw}{J msS msC msG:List Nat}
theorem nd6 {a b c d e f:Nat} (h: [a,b,c,d,e,f].Nodup):(a≠b/\a≠c/\a≠d/\a≠e/\a≠f)/\(b≠c/\b≠d/\b≠e/\b≠f)/\(c≠d/\c≠e/\c≠f)/\(d≠e/\d≠f)/\e≠f:=by
 simp only [List.nodup_cons,List.mem_cons,List.not_mem_nil,or_false,not_or] at h
 exact⟨h.1,h.2.1,h.2.2.1,h.2.2.2.1,h.2.2.2.2.1⟩
theorem sixA {a b c d e f:Nat}: ∀x∈ [c,d,e,f],x∈ [a,b,c,d,e,f]:=λx h=> .tail _ (.tail _ h)
theorem sixB {a b c d e f:Nat}: ∀x∈ [a,b,e,f],x∈ [a,b,c,d,e,f]:=cons2 λx h=> .tail _ (.tail _ h)
theorem drot (gS:H[S]? =some (nds h (.int xs) mS (.ref C) .none dS qS)) (hb:decide (qS > 0)=h) (gC:H[C]? =some (nds (!h) (.int xc) mC (.ref G) .none dC qC)) (hc:decide (qC > 0)= !h) (gG:H[G]? =some (nds (!h) (.int xg) mG .none .none dG qG))
 (MS:MemAt H mS msS) (GS:GoodM rw_ J xs msS) (MC:MemAt H mC msC) (GC:GoodM rw_ J xc msC) (MG:MemAt H mG msG) (GG:GoodM rw_ J xg msG) (hI:Iv rw_ J H) (hn: [S,mS,C,mC,G,mG].Nodup) :
 wq (run (n + 8) (P9 is) 45 [] [.ref S] []) H λv H'=>vIt v=none/\Keep [S,mS,C,mC,G,mG] H H':=by
 refine wqQ λQ kQ=> ?_
 obtain⟨⟨n1,n2,n3,n4,n5⟩,⟨n6,n7,n8,n9⟩,⟨n10,n11,n12⟩,⟨n13,n14⟩,n15⟩:=nd6 hn
 refine qRun (ρ:=⟨[some (.ref S),none,none],List.replicate 3 none⟩) rfl rfl rfl λDd=> ?_
 have z1:Pi ⟨run (n + 7) (P9 is),P9 is,⟨[some (.ref S),none,none],List.replicate 3 none⟩,H⟩ (.e (.cmp .Gt (.attr (.loc 0) 20) (.int 0)) (.bool h)):=hb▸p15 (p8 (p6 rfl) gS rfl) p3 p46
 refine sAsgN z1 ?_
 refine sItem (l:=S) (k:=2) (f:=59) (at_:=ndsl h (.int xs) mS (.ref C) .none dS qS) (x:= .bool h) (eMeth (p19 (p6 rfl) (p6 rfl) gS rfl (get_h gS) rfl) gC rfl p33 (qMono (srot gC hc gG (.inl ⟨rfl,rfl⟩) (.inl ⟨rfl,rfl⟩) ⟨Int.le_refl _,by decide⟩ MC GC MG GG.sub (Nat.le_trans GG.le (by decide)) hI n11 n14 nofun nofun) λv H2 h2=> ?_))
 obtain⟨rfl,K2,lt,dl,ms2,hlt,g2,_,al,d0,M2,s2,l2⟩:=h2
 have gS2:=K2 _ _ (ni4 n2 n3 n4 n5) gS
 refine⟨rfl,itI (p6 rfl) (p6 rfl) gS2 rfl (qMono (set_h gS2) λr' H3 h3=>⟨h3.1, ?_⟩)⟩
 obtain⟨_,e3⟩:=h3
 have K3:Keep [S] H2 H3:=e3▸Keep.set (.head _)
 have gS3:H3[S]? =some (nds h (.int xs) mS (.ref G) .none dS qS):=e3▸getS gS2
 have g3:=K3 _ _ (ni1 (Ne.symm n4)) g2
 rw [nds_swap] at g3
 have ltS: ∀ {X:List Nat},(∀z∈X,z≠C)->∀z,lt= .ref z->z∉X:=λ {X} hX z e hz=>by
  rcases hlt with e2 | e2
  ·exact hX z hz (V.refI (e.symm.trans e2))
  ·rw [e2] at e;exact nomatch e
 have al3:=al.keep K3 (ltS (all1 n2))
 have aG3:DepAt H3 (.ref G) (1 + (if(!h)=true then mx dl 0 else mx 0 dl)):= .inr ⟨G,_,_,_,_,_,rfl,g3⟩
 have dpos:1<=1 + (if(!h)=true then mx dl 0 else mx 0 dl):=by
  unfold mx
  split <;> split <;> lia
 generalize 1 + (if(!h)=true then mx dl 0 else mx 0 dl)=dG' at aG3 g3 dpos
 refine sExpr (eMeth (p6 rfl) gS3 rfl p33 (qMono (ref_h gS3 aG3 (.inl ⟨rfl,rfl⟩)) λv H4 h4=>⟨by rw [h4.1];rfl, ?_⟩))
 obtain⟨_,e4⟩:=h4
 have K4:Keep [S] H3 H4:=e4▸Keep.set (.head _)
 have gS4:=e4▸getS (o:=nds h (.int xs) mS (.ref G) .none (1 + (if h then mx 0 dG' else mx dG' 0)) (if h then dG' - 0 else 0 - dG')) gS3
 have hb4:decide ((if h=true then dG' - 0 else 0 - dG') > 0)=h:=by
  cases h
  ·exact decide_eq_false (by show¬ (0 - dG' > 0);lia)
  ·exact decide_eq_true (by show dG' - 0 > 0;lia)
 have nJ: ∀x∈ [S],x∉J:=all1 (notJ hI gS (by decide))
 have n2': ∀x∈ [C,mC,G,mG],x∉J:=all4 (notJ hI gC (by decide)) (MC.elim λq h=>notJ hI h.1 (by decide)) (notJ hI gG (by decide)) (MG.elim λq h=>notJ hI h.1 (by decide))
 have i2: ∀x∈ [C,mC,G,mG],Ins H x:=all4 ⟨_,_,gC⟩ (MC.elim λq h=>⟨_,_,h.1⟩) ⟨_,_,gG⟩ (MG.elim λq h=>⟨_,_,h.1⟩)
 have KS:Keep [S] H2 H4:=K3.trans K4
 have iS: ∀x∈ [S],Ins H2 x:=all1 ⟨_,_,gS2⟩
 have MS4:=(MS.keep K2 (ni4 n6 n7 n8 n9) i2).keep KS (ni1 (Ne.symm n1)) iS
 have MG4:=M2.keep KS (ni1 (Ne.symm n5)) iS
 have I4:=(hI.keep K2 n2').keep KS nJ
 have lz:ms2.length<=100:=by have:=GG.le;have:=GC.le;lia
 refine sAsg (eMeth (p6 rfl) gS4 rfl p33 (qMono (srot gS4 hb4 (K4 _ _ (ni1 (Ne.symm n4)) g3) (al3.keep K4 (ltS (all1 n2))) (.inl ⟨rfl,rfl⟩) ⟨Int.le_refl _,by decide⟩ MS4 GS MG4 s2 lz I4 n4 n9 (ltS (all2 n2 (Ne.symm n11))) nofun) λv H5 h5=>⟨by rw [h5.1];rfl,sRetP (p6 rfl) (kQ _ _ ⟨by rw [h5.1];rfl,(K2.weaken sixA).trans ((KS.weaken (all1 (.head _))).trans (h5.2.1.weaken sixB))⟩)⟩))
end
section
variable {n:Nat}{is:List Int}{H:Hp}{S mS j:Nat}{x:Int}{a b v:V}{d da db dS qS:Int}{fp fa fb:List Nat}{rw_:Nat->Rw}{J msS:List Nat}
theorem Lv.loc (h:Lv rw_ J H j v d fp): ∀z,v= .ref z->z∈fp:=by
 cases h with
 | nil=>exact λz e=>nomatch e
 | node _ _ _ _ _ _=>exact λz e=>(V.refI e)▸ .head _
theorem heavy (h:Bool) (L:Lv rw_ J H 2 v d fp) (hd:d=2): ∃C xc mC ms w g dw dg fw fg q,v= .ref C/\H[C]? =some (nds h (.int xc) mC w g q (if h then dw - dg else dg - dw))/\MemAt H mC ms/\GoodM rw_ J xc ms/\Lv rw_ J H 1 w dw fw/\Lv rw_ J H 1 g dg fg/\(C :: mC :: (fw ++ fg)).Nodup/\(∀z∈C :: mC :: (fw ++ fg),z∈fp):=by
 cases L with
 | nil=>exact nomatch hd
 | @node _ l m x ms a b da db fa fb g hm hg la lb hn=>
  cases h
  ·exact⟨l,x,m,ms,a,b,da,db,fa,fb,_,rfl,g,hm,hg,la,lb,hn,λz hz=>hz⟩
  ·have pm:(l :: m :: (fb ++ fa)).Perm (l :: m :: (fa ++ fb)):=(List.perm_append_comm.cons _).cons _
   exact⟨l,x,m,ms,b,a,db,da,fb,fa,_,rfl,g,hm,hg,lb,la,pm.nodup_iff.mpr hn,λz hz=>pm.mem_iff.mp hz⟩
theorem leaf1 (L:Lv rw_ J H 1 v d fp) (hd:d≠0): ∃G xg mG ms q r,v= .ref G/\H[G]? =some (nd (.int xg) mG .none .none q r)/\MemAt H mG ms/\GoodM rw_ J xg ms/\fp= [G,mG]:=by
 cases L with
 | nil=>exact absurd rfl hd
 | node g hm hg la lb hn=>
  cases la with
  | nil=>cases lb with
   | nil=>exact⟨_,_,_,_,_,_,rfl,g,hm,hg,rfl⟩
theorem nil0 (L:Lv rw_ J H j v d fp) (hd:d=0):v= .none/\fp= []:=by
 cases L with
 | nil=>exact⟨rfl,rfl⟩
 | node g hm hg la lb hn=>
  have:=la.depth;have:=lb.depth
  unfold mx at hd
  split at hd <;> lia
theorem side (La:Lv rw_ J H 2 a da fa) (Lb:Lv rw_ J H 2 b db fb) (hq: ¬ (db - da).natAbs < 2): ∃h hv fh,(∀d q,nd (.int x) mS a b d q=nds h (.int x) mS hv .none d q)/\decide (db - da > 0)=h/\Lv rw_ J H 2 hv 2 fh/\fh.Sublist (fa ++ fb):=by
 have ba:=La.depth
 have bb:=Lb.depth
 by_cases c:db - da > 0
 ·have e1:db=2:=by lia
  have e2:=nil0 La (by lia)
  rw [e2.1,e2.2]
  exact⟨true,b,fb,λ_ _=>rfl,decide_eq_true c,e1▸Lb,List.Sublist.refl _⟩
 ·have e1:da=2:=by lia
  have e2:=nil0 Lb (by lia)
  rw [e2.1,e2.2,List.append_nil]
  exact⟨false,a,fa,λ_ _=>rfl,decide_eq_false c,e1▸La,List.Sublist.refl _⟩
theorem signs {h:Bool}{dw dg:Int} (bw:0<=dw/\dw<=1) (bg:0<=dg/\dg<=1) (e:(h == decide ((if h=true then dw - dg else dg - dw) > 0) || decide ((if h=true then dw - dg else dg - dw)=0))=false):dw=0/\dg≠0/\decide ((if h=true then dw - dg else dg - dw) > 0)= !h:=by
 have d: ∀x y:Int,0<=x/\x<=1->0<=y/\y<=1->(x=0\/x=1)/\(y=0\/y=1):=by lia
 obtain⟨h1,h2⟩:=d dw dg bw bg
 rcases h1 with rfl | rfl <;> rcases h2 with rfl | rfl <;> cases h <;> revert e <;> decide
theorem rot_root (g:H[S]? =some (nd (.int x) mS a b 1 0)) (MS:MemAt H mS msS) (GS:GoodM rw_ J x msS) (La:Lv rw_ J H 2 a da fa) (Lb:Lv rw_ J H 2 b db fb) (hn:(S :: mS :: (fa ++ fb)).Nodup) (hI:Iv rw_ J H) :
 wq (run (n + 9) (P9 is) 43 [] [.ref S] []) H λv H'=>vIt v=none/\Keep (S :: mS :: (fa ++ fb)) H H':=by
 by_cases hq:(db - da).natAbs < 2
 ·exact qMono (nd_rot0 g La.dep Lb.dep hq) λv H' h=>⟨by rw [h.1];rfl,h.2▸Keep.set (.head _)⟩
 refine wqQ λQ kQ=> ?_
 obtain⟨h,hv,fh,hs,hb,Lh,hsub⟩:=side (x:=x) (mS:=mS) La Lb hq
 have hn2:(S :: mS :: fh).Nodup:=hn.sublist ((hsub.cons₂ _).cons₂ _)
 have big: ∀ {H':Hp},Keep (S :: mS :: fh) H H'->Keep (S :: mS :: (fa ++ fb)) H H':=λ {H'} K=>K.weaken λz hz=>((hsub.cons₂ _).cons₂ _).subset hz
 refine qRun (ρ:=⟨[some (.ref S),none,none,none],List.replicate 4 none⟩) rfl rfl rfl λDd=> ?_
 refine sExpr (eMeth (p6 rfl) g rfl p33 (qMono (nd_ref g La.dep Lb.dep) λv H1 h1=>⟨by rw [h1.1];rfl, ?_⟩))
 obtain⟨_,e1⟩:=h1
 have K1:Keep [S] H H1:=e1▸Keep.set (.head _)
 have gS:H1[S]? =some (nds h (.int x) mS hv .none (1 + mx da db) (db - da)):=by rw [<- hs];exact e1▸getS g
 have nS: ∀ {z:Nat},z∈mS :: fh->z∉ [S]:=λ {z} hz=>ni1 λe=>(List.nodup_cons.mp hn2).1 (e▸hz)
 have iS: ∀z∈ [S],Ins H z:=all1 ⟨_,_,g⟩
 have MS1:=MS.keep K1 (nS (.head _)) iS
 have Lh1:=Lh.keep K1 λz hz=>⟨λhf=>nS (.tail _ hf) hz,iS z hz⟩
 have I1:=hI.keep K1 (all1 (notJ hI g (by decide)))
 obtain⟨C,xc,mC,ms,w,gg,dw,dg,fw,fg,q,rfl,gC,MC,GC,Lw,Lg,nC,sC⟩:=heavy h Lh1 rfl
 have bw:=Lw.depth
 have bg:=Lg.depth
 refine sIf (p37 (p31 (p8 (p6 rfl) gS rfl)) p3 p45) (λe=> ?_) λ_=> ?_
 ·have:=of_decide_eq_true e
  lia
 have z1:Pi ⟨run (n + 8) (P9 is),P9 is,⟨[some (.ref S),none,none,none],List.replicate 4 none⟩,H1⟩ (.e (.cmp .Gt (.attr (.loc 0) 20) (.int 0)) (.bool h)):=hb▸p15 (p8 (p6 rfl) gS rfl) p3 p46
 refine sCat0 (sAsgN z1 (sAsgN (p15 (p8 (p19 (p6 rfl) (p6 rfl) gS rfl (get_h gS) rfl) gC rfl) p3 p46) ?_))
 have nd4:=List.nodup_cons.mp hn2
 have nd5:=List.nodup_cons.mp nd4.2
 have nSC:S≠C:=λe=>nd4.1 (.tail _ (e▸sC C (.head _)))
 have nm:mS≠mC:=λe=>nd5.1 (e▸sC mC (.tail _ (.head _)))
 have nC2:=List.nodup_cons.mp nC
 have off: ∀z∈fw ++ fg,z∉ [S,C]:=λz hz=>ni2 (λe=>nd4.1 (.tail _ (e▸sC z (.tail _ (.tail _ hz))))) λe=>nC2.1 (e▸ .tail _ hz)
 refine sIf (p38 (p37 (p6 rfl) (p6 rfl) p51) (p37 (p8 (p19 (p6 rfl) (p6 rfl) gS rfl (get_h gS) rfl) gC rfl) p3 p49)) (λ_=> ?_) λe=> ?_
 ·refine sRet (eMeth (p6 rfl) gS rfl p33 (qMono (srot gS hb gC Lw.dep Lg.dep ⟨bg.1,by lia⟩ MS1 GS MC GC.sub (Nat.le_trans GC.le (by decide)) I1 nSC nm (λz e=>off z (List.mem_append_left _ (Lw.loc z e))) λz e=>off z (List.mem_append_right _ (Lg.loc z e))) λv H2 h2=>have hv:vIt v=none:=h2.1▸rfl;⟨hv,kQ _ _ ⟨hv,big ((K1.weaken (all1 (.head _))).trans (h2.2.1.weaken (cons2 (all2 (sC _ (.head _)) (sC _ (.tail _ (.head _)))))))⟩⟩))
 ·obtain⟨hw,hg,hcq⟩:=signs bw bg e
  obtain⟨rfl,rfl⟩:=nil0 Lw hw
  obtain⟨G,xg,mG,msG,q',r',rfl,gG,MG,GG,rfl⟩:=leaf1 Lg hg
  have gC':=gC
  rw [<- nds_swap] at gC'
  have gG':H1[G]? =some (nds (!h) (.int xg) mG .none .none q' r'):=by cases h <;> exact gG
  have six: [S,mS,C,mC,G,mG].Nodup:=by
   refine List.nodup_cons.mpr ⟨λhx=> ?_,List.nodup_cons.mpr ⟨λhx=> ?_,nC⟩⟩
   ·rcases List.mem_cons.mp hx with e | hx
    ·exact nd4.1 (e▸ .head _)
    ·exact nd4.1 (.tail _ (sC _ hx))
   ·exact nd5.1 (sC _ hx)
  refine sRet (eMeth (p6 rfl) gS rfl p33 (qMono (drot gS hb gC' hcq gG' MS1 GS MC GC MG GG I1 six) λv H2 h2=>⟨h2.1,kQ _ _ ⟨h2.1,big ((K1.weaken (all1 (.head _))).trans (h2.2.weaken (cons2 sC)))⟩⟩))
theorem fs_root {li:Nat}{ls:List Nat} (hI:Iv rw_ J H) (hS:SL rw_ J ls) (hz:ls.length < 8) (gl:H[li]? =some (.list (ls.map V.ref))) :
 wq (run (n + 12) (P9 is) 37 [] [.g (.cls 2), .ref li] []) H λv H'=>vIt v=none/\Keep [] H H':=by
 have F1:FS is rw_ J 1 (n + 8):=fs_succ (n:=n) (fs_zero (n:=n + 5)) (by decide)
 have F2:FS is rw_ J 2 (n + 10):=fs_succ (n:=n + 2) F1 (by decide)
 by_cases hne:ls= []
 ·subst hne
  refine qRun (ρ:=⟨[some (.g (.cls 2)),some (.ref li),none,none],List.replicate 4 none⟩) rfl rfl rfl λDd=> ?_
  exact sIfT (p36 (r:=false) (p35 (p6 rfl) (rLE gl))) (sRetP p1 ⟨rfl,Keep.refl⟩)
 ·refine fs_go (n:=n + 4) (Q:=λv H'=>vIt v=none/\Keep [] H H') hI hne gl λH1 m0 K hlt g=>init_core (n:=n + 4) F2 (by decide) (hI.keep K nofun) hS hz hne (K _ _ nofun gl) g λH' x m ms a b da db fa fb K' g' M G La Lb hn hfr=> ?_
  refine qMono (rot_root (n:=n + 1) g' M G La Lb hn ((hI.keep K nofun).keep K' λz hz=>(List.mem_singleton.mp hz)▸notJ (hI.keep K nofun) g (by decide))) λv H2 h=>⟨h.1,h.1,h.1,λz o _ e=>h.2 _ _ (λhz=> ?_) (K' _ _ (λhz=> ?_) (K _ _ nofun e))⟩
  ·have:=ltL e
   rcases List.mem_cons.mp hz with e | hz
   ·lia
   ·have:=hfr z hz;lia
  ·have:=List.mem_singleton.mp hz
   have:=ltL e
   lia
end
noncomputable def rank (L:List Rw) (x:Rw):Nat:=(L.filter λy=>rlt y x).length
theorem rlt_neg {x y z:Rw} (h:rlt x y=false) (g:rlt z y=true):rlt z x=true:=by
 cases c:rlt y x
 ·have e:kl x=kl y:=List.le_antisymm (List.not_lt.mp (of_decide_eq_false c)) (List.not_lt.mp (of_decide_eq_false h))
  unfold rlt at g ⊢
  rw [e];exact g
 ·exact rlt_trans g c
theorem rank_lt {L:List Rw}{x y:Rw} (hx:x∈L):decide (rank L x < rank L y)=rlt x y:=by
 cases c:rlt x y
 ·refine decide_eq_false (Nat.not_lt.mpr ?_)
  unfold rank
  rw [<- List.countP_eq_length_filter, <- List.countP_eq_length_filter]
  exact List.countP_mono_left λz _ h=>rlt_neg c h
 ·refine decide_eq_true ?_
  unfold rank
  have s:(L.filter λz=>rlt z x).Sublist (L.filter λz=>rlt z y):=by
   rw [show(L.filter λz=>rlt z x)=(L.filter λz=>rlt z y).filter λz=>rlt z x by
    rw [List.filter_filter]
    refine List.filter_congr λz _=> ?_
    cases q:rlt z x
    ·rfl
    ·rw [rlt_trans q c];rfl]
   exact List.filter_sublist
  refine Nat.lt_of_le_of_ne s.length_le λe=> ?_
  have m:x∈L.filter λz=>rlt z y:=List.mem_filter.mpr ⟨hx,c⟩
  rw [<- s.eq_of_length e] at m
  have:=(List.mem_filter.mp m).2
  rw [rlt_irr] at this
  exact Bool.noConfusion this
section
variable {C:CallT}{P:Prog}{H:Hp}
theorem sortG {α:Type} (l:List α) (f:α->V) (row:α->Rw) (hz:l.length<=63) (hk:2<=l.length->kindOK (l.map f) H= .ok true H) (cmp: ∀a b,a∈l->b∈l->ltv false C P (f a) (f b) H= .ok (rlt (row a) (row b)) H) :
 ∃l':List α,l'.Perm l/\l'.Pairwise (λa b=>rlt (row b) (row a)=false)/\sortV C P (l.map f) H= .ok (l'.map f) H:=by
 unfold sortV
 rw [List.length_map]
 by_cases h2:l.length < 2
 ·rw [if_pos h2]
  refine⟨l, .refl _, ?_,rfl⟩
  match l,h2 with
  | [],_=>exact .nil
  | [a],_=>exact List.pairwise_singleton _ _
 rw [if_neg h2,if_neg (by lia)]
 have hne:0 < l.length:=by lia
 let d:=l[0]
 let r:Nat->Nat:=λi=>rank (l.map row) (row (l.getD i d))
 have gd: ∀i,i < l.length->(l.map f).getD i .none=f (l.getD i d)/\l.getD i d∈l:=λi hi=>by
  rw [List.getD_eq_getElem?_getD,List.getD_eq_getElem?_getD,List.getElem?_map,List.getElem?_eq_getElem hi]
  exact⟨rfl,List.getElem_mem hi⟩
 have cm: ∀i j,i < l.length->j < l.length->ltv false C P ((l.map f).getD i .none) ((l.map f).getD j .none) H= .ok (rcmp r i j) H:=λi j hi hj=>by
  rw [(gd i hi).1,(gd j hj).1,cmp _ _ (gd i hi).2 (gd j hj).2]
  exact congrArg (λb=>Res.ok b H) (rank_lt (List.mem_map_of_mem (gd i hi).2)).symm
 obtain⟨e,pg⟩:=runKas_pure cm (good_sort hne)
 obtain⟨pp,up⟩:=sort_run (r:=r) hne
 generalize krun (rcmp r) (kas_sort l.length)=p at e pg pp up
 have pm: ∀i∈p.toList,i < l.length:=λi hi=>List.mem_range.mp (pp.mem_iff.mp hi)
 have back:(List.range l.length).map (λi=>l.getD i d)=l:=by
  refine List.ext_getElem (by simp) λi h1 h2=> ?_
  rw [List.getElem_map,List.getElem_range,List.getD_eq_getElem?_getD,List.getElem?_eq_getElem h2];rfl
 refine⟨p.toList.map λi=>l.getD i d, ?_, ?_, ?_⟩
 ·have q:=pp.map λi=>l.getD i d
  rwa [back] at q
 ·rw [List.pairwise_map,List.pairwise_iff_getElem]
  intro i j hi hj hij
  have hj':j < l.length:=by
   have:=pp.length_eq
   rw [List.length_range] at this
   lia
  have u:=up i j hij hj'
  unfold KK at u
  have e1: ∀k (hk:k < p.toList.length),p.getD k 0=p.toList[k]:=λk hk=>by
   have hk':k < p.size:=by simpa using hk
   simp [Array.getD,hk']
  rw [e1 i hi,e1 j hj] at u
  have q:=rank_lt (L:=l.map row) (x:=row (l.getD p.toList[j] d)) (y:=row (l.getD p.toList[i] d)) (List.mem_map_of_mem (gd _ (pm _ (List.getElem_mem hj))).2)
  rw [<- q]
  exact decide_eq_false (Nat.not_lt.mpr u)
 ·refine okB (hk (by lia)) ?_
  rw [if_pos rfl]
  refine okB (runKas_noEx e) ?_
  show Res.ok _ H=_
  refine congrArg (λq=>Res.ok q H) ?_
  rw [List.map_map]
  exact List.map_congr_left λi hi=>(gd i (pm i hi)).1
end
section
variable {n:Nat}{is:List Int}{H:Hp}{rw_:Nat->Rw}{J ls:List Nat}
theorem ltv_iv {a b:Nat} (hI:Iv rw_ J H) (ha:a∈J) (hb:b∈J):ltv false (run (n + 3) (P9 is)) (P9 is) (.ref a) (.ref b) H= .ok (rlt (rw_ a) (rw_ b)) H:=by
 have ga:=hI.at_ a ha
 have gb:=hI.at_ b hb
 refine okB (a:=some 1) (okG ga rfl) (okB (a:=some 1) (okG gb rfl) (okB (a:=26) rfl ?_))
 rw [if_pos (.inl rfl)]
 exact okB (iv_lt ga gb (hI.ok a ha).d (hI.ok b hb).d) rfl
theorem kind_iv (hI:Iv rw_ J H) (hl: ∀k∈ls,k∈J) (hne:ls≠ []):kindOK (ls.map V.ref) H= .ok true H:=by
 have all: ∀ls:List Nat,(∀k∈ls,k∈J)->allCls 1 (ls.map V.ref) H= .ok true H:=by
  intro ls
  induction ls with
  | nil=>exact λ_=>rfl
  | cons l ls ih=>
   intro h
   refine okB (a:=some 1) (okG (hI.at_ l (h l (.head _))) rfl) ?_
   rw [if_pos rfl]
   exact ih λk hk=>h k (.tail _ hk)
 cases ls with
 | nil=>exact absurd rfl hne
 | cons l ls=>exact okB (a:=some 1) (okG (hI.at_ l (hl l (.head _))) rfl) (all (l :: ls) hl)
theorem sort_iv (hI:Iv rw_ J H) (hl: ∀k∈ls,k∈J) (hz:ls.length<=63): ∃ls':List Nat,ls'.Perm ls/\ls'.Pairwise (λa b=>rlt (rw_ b) (rw_ a)=false)/\sortV (run (n + 3) (P9 is)) (P9 is) (ls.map V.ref) H= .ok (ls'.map V.ref) H:=
 sortG ls V.ref rw_ hz (λh=>kind_iv hI hl λe=>by rw [e] at h;exact absurd h (by decide)) λa b ha hb=>ltv_iv hI (hl a ha) (hl b hb)
theorem sort_key {C:CallT}{rs:List Rw} (hd: ∀r∈rs,DOk r.d) (hz:rs.length<=63): ∃rs':List Rw,rs'.Perm rs/\rs'.Pairwise (λa b=>rlt b a=false)/\sortV C (P9 is) (rs.map key) H= .ok (rs'.map key) H:=
 sortG rs key id hz (λ_=>by
  unfold kindOK
  rw [if_pos (List.all_eq_true.mpr λv hv=>(List.mem_map.mp hv).elim λr h=>h.2▸rfl)];rfl) λa b ha hb=>by
  unfold ltv clsOf
  show(if(none:Option Nat)=none then ofLtR (P9 is) (pord false (key a) (key b)) else stuck) H=_
  rw [if_pos rfl,pord_key false (hd a ha) (hd b hb)];rfl
noncomputable def keyOf:List Int->V
 | b :: e :: k :: i :: cs=> .tup [.int b, .int e, .int k, .int i, .str ⟨(cs.map Int.toNat).toArray⟩]
 | _=> .none
theorem key_of (r:Rw):key r=keyOf (kl r):=by
 unfold keyOf kl key cpl
 dsimp only
 rw [List.map_map,show(Int.toNat ∘ Int.ofNat)=id from rfl,List.map_id]
theorem sorted_eq {l l':List Rw} (hp:(l.map kl).Perm (l'.map kl)) (h:l.Pairwise λa b=>rlt b a=false) (h':l'.Pairwise λa b=>rlt b a=false):l.map key=l'.map key:=by
 have e:l.map kl=l'.map kl:=by
  refine hp.eq_of_pairwise (le:=λa b=>¬b < a) (λa b _ _ h1 h2=>List.le_antisymm (List.not_lt.mp h1) (List.not_lt.mp h2)) ?_ ?_
  ·exact List.pairwise_map.mpr (h.imp λe=>of_decide_eq_false e)
  ·exact List.pairwise_map.mpr (h'.imp λe=>of_decide_eq_false e)
 have k: ∀l:List Rw,l.map key=(l.map kl).map keyOf:=λl=>by
  rw [List.map_map]
  exact List.map_congr_left λr _=>key_of r
 rw [k,k,e]
end
section
variable {C:CallT}{P:Prog}{ρ:Lo}{H:Hp}{Q:V->Hp->Prop}{e:X}{l:Nat}{vs ws:List V}
theorem eCall1 {b:B}{v:V} (h:Pi ⟨C,P,ρ,H⟩ (.e e v)) (z:wq (bcall C P b [v] []) H λr H1=>vIt r=none/\Q r H1):wq (ev C P (.call (.glob (.bi b)) [e] [] []) ρ) H Q:=
 qB (qOk (a:=V.g (.bi b)) rfl (qB (qOk (p34 h p33).ok (qB (qOk (a:= []) rfl (qChk z))))))
theorem eSort {v:V} (h:Pi ⟨C,P,ρ,H⟩ (.e e v)) (hv:vSet v=none) (hd:P.hd=false) (c:collectV C P v H= .ok vs H) (z:sortV C P vs H= .ok ws H) (k:Q (.ref H.length) (H ++ [.list ws])):wq (ev C P (.call (.glob (.bi .sorted)) [e] [] []) ρ) H Q:=by
 refine eCall1 h ?_
 show wq (if P.hd=true then stuck else om (vSet v) (collectV C P v >>= λvs=>sortV C P vs >>= λws=>alloc (.list ws) >>= λl=>pure (V.ref l)) _) H _
 rw [hd,hv]
 exact qB (qOk c (qB (qOk z (qB (show vIt (V.ref H.length)=none/\Q (.ref H.length) (H ++ [.list ws]) from⟨rfl,k⟩)))))
theorem colL (g:H[l]? =some (.list vs)):collectV C P (.ref l) H= .ok vs H:=okB (a:=l) rfl (okG g rfl)
theorem colI {k f q:Nat}{at_:List (Nat × V)} (g:H[l]? =some (.inst k at_)) (it:iterOf C P (.ref l) H= .ok (some q,vs) H) (gq:H[q]? =some (.list vs)) (h1:P.getM k nLen=some f) (z:C f [] [.ref l] [] H= .ok (.int vs.length) H) (hz:vs.length<=1000):collectV C P (.ref l) H= .ok vs H:=by
 refine okB (a:=l) rfl (okG g ?_)
 refine okB it (okB (a:=q) rfl (okG g (okB (a:=(k,at_)) rfl (okB (a:=(vs.length:Int)) ?_ (okB (show getLs q H= .ok vs H from okG gq rfl) ?_)))))
 ·refine okB (a:=f) (by rw [h1];rfl) (okB z (okB (a:=(vs.length:Int)) rfl ?_))
  rw [if_pos ⟨Int.natCast_nonneg _,by lia⟩];rfl
 ·rw [if_pos rfl];rfl
theorem eMethD {es:List X}{k f m:Nat} (h1:P.getM k m=some f) (h2:P.cms.contains f=true) (ha:wq (evs C P es ρ) H λvs H1=>wq (C f [] (.g (.cls k) :: vs) []) H1 λr H2=>vIt r=none/\Q r H2):wq (ev C P (.meth (.glob (.cls k)) m es [] []) ρ) H Q:=
 qB (qOk (a:=V.g (.cls k)) rfl (qB (qOk (a:=Mt.fn f (.g (.cls k))) (show(ofO (P.getM k m) >>= λf=>if P.cms.contains f=true then pure (Mt.fn f (.g (.cls k))) else stuck:M Mt) H=_ from okB (a:=f) (by rw [h1];rfl) (by rw [if_pos h2];rfl)) (qB (qMono ha λvs H1 h=>qB (qOk (a:= []) rfl (qChk h)))))))
end
section
variable {n:Nat}{is:List Int}{H:Hp}{m:Nat}{rw_:Nat->Rw}{J ms ls:List Nat}
theorem sl_of (hp:ls.Perm ms) (hs:ls.Pairwise λa b=>rlt (rw_ b) (rw_ a)=false) (sub: ∀k∈ms,k∈J) (ne:ms.Pairwise λa b=>kl (rw_ a)≠kl (rw_ b)):SL rw_ J ls:=
 ⟨λk hk=>sub k (hp.mem_iff.mp hk),hs.imp λ {a b} h=>Int.not_lt.mp λc=>(by
  have:rlt (rw_ b) (rw_ a)=true:=decide_eq_true (List.cons_lt_cons_iff.mpr (.inl c))
  rw [h] at this;exact Bool.noConfusion this),(hp.pairwise_iff λ {a b} h e=>h e.symm).mpr ne⟩
theorem from_int (hM:MemAt H m ms) (hI:Iv rw_ J H) (sub: ∀k∈ms,k∈J) (ne:ms.Pairwise λa b=>kl (rw_ a)≠kl (rw_ b)) (hz:ms.length < 8) :
 wq (run (n + 13) (P9 is) 36 [] [.g (.cls 2), .ref m] []) H λv H'=>vIt v=none/\Keep [] H H':=by
 obtain⟨q,gq,it⟩:=iter_mem (n:=n + 11) (is:=is) hM
 have zl:run (n + 12) (P9 is) 3 [] [.ref m] [] H= .ok (.int (ms.map V.ref).length) H:=by rw [List.length_map];exact mem_len hM
 have zb:run (n + 12) (P9 is) 4 [] [.ref m] [] H= .ok (.bool (decide (0 < ms.length))) H:=mem_bool hM
 obtain⟨ls,hp,hs,zs⟩:=sort_iv (n:=n + 9) (is:=is) hI sub (by lia)
 have M0:=hM
 obtain⟨q0,h1,_⟩:=M0
 refine qRun (ρ:=⟨[some (.g (.cls 2)),some (.ref m),none,none],List.replicate 4 none⟩) rfl rfl rfl λDd=> ?_
 refine sIf (p36 (p35 (p6 rfl) (p44 h1 rfl zb))) (λ_=>sRetP p1 ⟨rfl,Keep.refl⟩) λ_=> ?_
 refine sCat0 (sRet (eMethD rfl rfl (esC (eSort (p6 rfl) rfl rfl (colI h1 it gq rfl zl (by rw [List.length_map];lia)) zs (qOk (p33:Pi ⟨_,_,_,_⟩ _).ok ?_)))))
 refine qMono (fs_root (n:=n) (hI.keep (Keep.push (X:= [])) nofun) (sl_of hp hs sub ne) (by rw [hp.length_eq];exact hz) getN) λv H2 h=>⟨h.1,h.1,λz o hz e=>h.2 z o hz (getP e)⟩
end
structure DictOK (N:Nat) (kvs:List (Int × V)):Prop where
 int: ∀p∈kvs,∃i,p.2=V.int i
 le:kvs.length<=N
theorem dput_ok {N:Nat}{kvs:List (Int × V)}{k i:Int} (h:DictOK N kvs):DictOK (N + 1) (dput k (.int i) kvs):=by
 unfold dput
 split
 ·refine⟨λp hp=> ?_,by rw [List.length_map];exact Nat.le_succ_of_le h.le⟩
  obtain⟨q,hq,rfl⟩:=List.mem_map.mp hp
  split
  ·exact⟨_,rfl⟩
  ·exact h.int q hq
 ·refine⟨λp hp=>(List.mem_append.mp hp).elim (h.int p) λhp=>(List.mem_singleton.mp hp)▸⟨_,rfl⟩,by rw [List.length_append];exact Nat.succ_le_succ h.le⟩
theorem dget_ok {N:Nat}{kvs:List (Int × V)}{k:Int} (h:DictOK N kvs) (hk:(kvs.any λp=>p.1 == k)=true): ∃i,dget k kvs=some (.int i):=by
 unfold dget
 cases e:kvs.find? λp=>decide (p.1=k) with
 | none=>
  obtain⟨p,hp,hq⟩:=List.any_eq_true.mp hk
  have:=List.find?_eq_none.mp e p hp
  exact absurd (decide_eq_true (eq_of_beq hq)) this
 | some p=>
  obtain⟨i,hi⟩:=h.int p (List.mem_of_find?_eq_some e)
  exact⟨i,congrArg some hi⟩
section
variable {C D:CallT}{P:Prog}{ρ:Lo}{H:Hp}{Q:Fl × Lo->Hp->Prop}{o i x:X}{d:Nat}{kvs:List (Int × V)}{k c:Int}{r:List S}
theorem inD {K:Kx} (h:Pi K (.e i (.int k))) (h2:Pi K (.e o (.ref d))) (g:K.H[d]? =some (.dict kvs)):Pi K (.t (.cmp .In i o) (kvs.any λp=>p.1 == k)) :=
 okB h.ok (okB h2.ok (okB (a:=V.bool (kvs.any λp=>p.1 == k)) (okB (a:=kvs.any λp=>p.1 == k) (okG g rfl) rfl) rfl))
theorem setD (g:H[d]? =some (.dict kvs)) (hz:kvs.length<=1000):setItem C P (.ref d) (.int k) (.int c) H= .ok () (H.set d (.dict (dput k (.int c) kvs))) :=
 okG g (show(if kvs.length<=2 ^ 19 then setO d (.dict (dput k (.int c) kvs)) else stuck) H=_ by rw [if_pos (by lia)];rfl)
theorem sPutD (ho:Pi ⟨C,P,ρ,H⟩ (.e o (.ref d))) (hi:Pi ⟨C,P,ρ,H⟩ (.e i (.int k))) (hx:Pi ⟨C,P,ρ,H⟩ (.e x (.int c))) (g:H[d]? =some (.dict kvs)) (hz:kvs.length<=1000) (z:wq (exs C D P r ρ) (H.set d (.dict (dput k (.int c) kvs))) Q):wq (exs C D P (.assign (.sub o i) x :: r) ρ) H Q:=
 sStep (qB (qOk hx.ok (qB (qB (qOk ho.ok (qB (qOk hi.ok (qB (qOk (setD g hz) z)))))))))
theorem sAugD {a:Int} (ho:Pi ⟨C,P,ρ,H⟩ (.e o (.ref d))) (hi:Pi ⟨C,P,ρ,H⟩ (.e i (.int k))) (hx:Pi ⟨C,P,ρ,H⟩ (.e x (.int c))) (g:H[d]? =some (.dict kvs)) (hg:dget k kvs=some (.int a)) (hz:kvs.length<=1000) (z:wq (exs C D P r ρ) (H.set d (.dict (dput k (.int (a + c)) kvs))) Q):wq (exs C D P (.augSub o i .Add x :: r) ρ) H Q:=
 sStep (qB (qOk ho.ok (qB (qOk hi.ok (qB (qOk (a:=V.int a) (show getD (.ref d) (.int k) H=_ from okB (a:=d) rfl (okG g (okB (a:=kvs) rfl (okB (a:=k) rfl (by rw [hg];rfl))))) (qB (qOk hx.ok (qB (qOk (a:=V.int (a + c)) rfl (qB (qOk (setD g hz) z))))))))))))
end
section
variable {n:Nat}{is:List Int}{H:Hp}{t k D N:Nat}{kvs:List (Int × V)}{at_:List (Nat × V)}{rw_:Nat->Rw}{J ls ms:List Nat}
theorem eIfT {C:CallT}{P:Prog}{ρ:Lo}{Q:V->Hp->Prop}{c a b:X} (h:Pi ⟨C,P,ρ,H⟩ (.t c true)) (k:wq (ev C P a ρ) H Q):wq (ev C P (.ite c a b) ρ) H Q:=qB (qOk h.ok k)
theorem fold_dist (ls:List Nat): ∀ {ms:List Nat},ms.Pairwise (λa b=>kl (rw_ a)≠kl (rw_ b))->(ls.foldl (ins rw_) ms).Pairwise λa b=>kl (rw_ a)≠kl (rw_ b):=by
 induction ls with
 | nil=>exact λh=>h
 | cons l ls ih=>
  intro ms h
  refine ih ?_
  unfold ins
  split
  ·exact h
  ·rename_i c
   refine List.pairwise_append.mpr ⟨h,List.pairwise_singleton _ _,λa ha b hb e=>c ?_⟩
   rw [List.mem_singleton.mp hb] at e
   exact List.any_eq_true.mpr ⟨a,ha,decide_eq_true e⟩
theorem bnd {C D':CallT}{ρ:Lo}{Q:Fl × Lo->Hp->Prop}{o i:X}{r:List S}{b:Int} (ho: ∀H':Hp,Keep [D] H H'->Pi ⟨C,P9 is,ρ,H'⟩ (.e o (.ref D))) (hi: ∀H':Hp,Pi ⟨C,P9 is,ρ,H'⟩ (.e i (.int b))) (g:H[D]? =some (.dict kvs)) (ok:DictOK N kvs) (hN:N<=1000)
 (z: ∀H' kvs',Keep [D] H H'->H'[D]? =some (.dict kvs')->DictOK (N + 1) kvs'->wq (exs C D' (P9 is) r ρ) H' Q) :
 wq (exs C D' (P9 is) (.ite (.cmp .In i o) [.augSub o i .Add (.int 1)] [.assign (.sub o i) (.int 1)] :: r) ρ) H Q:=by
 have ho':=ho H Keep.refl
 have hz:kvs.length<=1000:=Nat.le_trans ok.le hN
 refine sIf (inD (hi H) ho' g) (λe=> ?_) λe=> ?_
 ·obtain⟨a,ha⟩:=dget_ok ok e
  exact sCat1 (sAugD ho' (hi H) p3 g ha hz (sCat0 (z _ _ (Keep.set (.head _)) (getS g) (dput_ok ok))))
 ·exact sCat1 (sPutD ho' (hi H) p3 g hz (sCat0 (z _ _ (Keep.set (.head _)) (getS g) (dput_ok ok))))
theorem add_bnd (hI:Iv rw_ J H) (hk:k∈J) (gt:H[t]? =some (.inst 3 at_)) (ha:at_.lookup 22=some (.ref D)) (g:H[D]? =some (.dict kvs)) (ok:DictOK N kvs) (hN:N + 1<=1000) :
 wq (run (n + 1) (P9 is) 65 [] [.ref t, .ref k] []) H λv H'=>v= .none/\Keep [D] H H'/\∃kvs',H'[D]? =some (.dict kvs')/\DictOK (N + 2) kvs':=by
 have ik:=hI.at_ k hk
 have nt:t∉ [D]:=λhx=>by
  rw [List.mem_singleton.mp hx,g] at gt
  exact O.noConfusion (Option.some.inj gt)
 have hat:attrOf (P9 is) 3 22 at_=some (.ref D):=ha
 refine qRun (ρ:=⟨[some (.ref t),some (.ref k),none,none],List.replicate 4 none⟩) rfl rfl rfl λDd=> ?_
 refine sAsgN (p8 (p6 rfl) ik rfl) (sAsgN (p8 (p6 rfl) ik rfl) ?_)
 refine bnd (D:=D) (N:=N) (λH' K=>p8 (p6 rfl) (K _ _ nt gt) hat) (λH'=>p6 rfl) g ok (by lia) λH1 k1 K1 g1 o1=> ?_
 refine bnd (D:=D) (N:=N + 1) (λH' K=>p8 (p6 rfl) (K _ _ nt (K1 _ _ nt gt)) hat) (λH'=>p6 rfl) g1 o1 hN λH2 k2 K2 g2 o2=> ?_
 exact sNil ⟨rfl,K1.trans K2,k2,g2,o2⟩
theorem set_up {li:Nat} (hI:Iv rw_ J H) (hl: ∀k∈ls,k∈J) (hz:ls.length<=7) (gl:H[li]? =some (.list (ls.map V.ref))) :
 wq (run (n + 15) (P9 is) 63 [] [.ref H.length, .ref li] []) (H ++ [.inst 3 []]) λv H'=>v= .none/\Keep [] H H'/\∃m at_,H'[H.length]? =some (.inst 3 at_)/\at_.lookup 18=some (.ref m)/\MemAt H' m (ls.foldl (ins rw_) []):=by
 refine wqQ λQ kQ=> ?_
 have IP:=hI.keep (Keep.push (X:= []) (o:=O.inst 3 [])) nofun
 refine qRun (ρ:=⟨[some (.ref H.length),some (.ref li),none,none,none,none],List.replicate 6 none⟩) rfl rfl rfl λDd=> ?_
 refine sAsg ?_
 have e0:Pi ⟨run (n + 14) (P9 is),P9 is,⟨[some (.ref H.length),some (.ref li),none,none,none,none],List.replicate 6 none⟩,H ++ [.inst 3 []]⟩ (.t (.cmp .IsNot (.loc 1) .none) true):=p37 (p6 rfl) p1 (p54 rfl)
 refine eIfT e0 (eMake (p34 (p6 rfl) p33) rfl (qMono (mem_init (n:=n + 9) IP hl (by lia) (.inr ⟨li,rfl,getP gl⟩)) λv H1 h1=>⟨h1.1, ?_⟩))
 obtain⟨_,K1,M1⟩:=h1
 generalize hm:(H ++ [O.inst 3 []]).length=m at M1 ⊢
 have hm':m=H.length + 1:=by rw [<- hm];simp
 have g1:=K1 _ _ nofun (getN (H:=H) (o:=O.inst 3 []))
 have I1:=IP.keep K1 nofun
 have sub1: ∀k∈ls.foldl (ins rw_) [],k∈J:=λk hk=>(fold_sub ls hk).elim (λh=>nomatch h) (hl k)
 have len1:(ls.foldl (ins rw_) []).length<=7:=by
  have:=fold_len (rw_:=rw_) ls (ms:= [])
  simp only [List.length_nil] at this
  lia
 generalize hms:ls.foldl (ins rw_) []=ms at M1 sub1 len1 ⊢
 show wq (exs _ _ _ _ ⟨[some (.ref H.length),some (.ref m),none,none,none,none],List.replicate 6 none⟩) H1 _
 obtain⟨q,gq,it⟩:=iter_mem (n:=n + 13) (is:=is) M1
 refine sFor (qB (eP (p6 rfl) (qOk it ?_)))
 refine qMono (forGo (λi ρ H'=>(∃x,ρ=⟨[some (.ref H.length),some (.ref m),x,none,none,none],List.replicate 6 none⟩)/\H'=H1) (λv H'=>False) (λi v H' ρ hv hh=> ?_) (λ ρ H' hh=>hh.2▸stlS gq) _ 0 H1 _ (Nat.zero_add _) ⟨⟨_,rfl⟩,rfl⟩) λr H' hh=> ?_
 ·obtain⟨⟨x,rfl⟩,rfl⟩:=hh
  have hv':=hv
  rw [List.getElem?_map] at hv'
  obtain⟨k,hk,rfl⟩:=Option.map_eq_some_iff.mp hv'
  have hkJ:=sub1 k (List.mem_of_getElem? hk)
  have ik:=I1.at_ k hkJ
  have z:run (n + 14) (P9 is) 22 [] [.ref k] [] H'= .ok (.bool (decide ((rw_ k).e<=(rw_ k).b))) H':=iv_null ik
  rw [decide_eq_false (Int.not_le.mpr (I1.ok k hkJ).be)] at z
  exact⟨curS gq hv,_,rfl,sIfF (p35 (p23 (p6 rfl) ik rfl p33 z rfl) p40) (sCat0 (sNil ⟨⟨_,rfl⟩,rfl⟩))⟩
 obtain⟨f,ρ'⟩:=r
 cases f with
 | rt v=>exact hh.elim
 | nx =>
  obtain⟨⟨x,e⟩,e2⟩:=hh
  have e:ρ'=_:=e
  have e2:H'=H1:=e2
  subst e e2
  refine sAttrP (p6 rfl) (p6 rfl) g1 rfl ?_
  have nm:m∉ [H.length]:=λhx=>by have:=List.mem_singleton.mp hx;lia
  have tJ: ∀x∈ [H.length],x∉J:=λx hx=>(List.mem_singleton.mp hx)▸notJ I1 g1 (by decide)
  have tI: ∀x∈ [H.length],Ins H' x:=λx hx=>(List.mem_singleton.mp hx)▸⟨_,_,g1⟩
  generalize hH2:H'.set H.length (.inst 3 (putA 18 (.ref m) []))=H2
  have K2:Keep [H.length] H' H2:=hH2▸Keep.set (.head _)
  have g2:H2[H.length]? =some (.inst 3 [(18, .ref m)]):=hH2▸getS g1
  have M2:=M1.keep K2 nm tI
  have I2:=I1.keep K2 tJ
  have ne:ms.Pairwise λa b=>kl (rw_ a)≠kl (rw_ b):=hms▸fold_dist ls .nil
  refine sAttr (l:=H.length) (k:=3) (at_:= [(18, .ref m)]) (eMethC rfl rfl (p34 (p8 (p6 rfl) g2 rfl) p33) (qMono (from_int (n:=n + 1) M2 I2 sub1 ne (by lia)) λv H3 h3=> ?_))
  obtain⟨hv,K3⟩:=h3
  have g3:=K3 _ _ nofun g2
  refine⟨hv,atI (p6 rfl) g3 rfl ?_⟩
  generalize hH4:H3.set H.length (.inst 3 (putA 93 v [(18, .ref m)]))=H4
  have K4:Keep [H.length] H3 H4:=hH4▸Keep.set (.head _)
  have g4:H4[H.length]? =some (.inst 3 [(18, .ref m),(93,v)]):=hH4▸getS g3
  have M4:=(M2.keep K3 nofun λx h=>(nomatch h)).keep K4 nm λx hx=>(List.mem_singleton.mp hx)▸⟨_,_,g3⟩
  have I4:=(I2.keep K3 nofun).keep K4 tJ
  refine sAttr (l:=H.length) (k:=3) (at_:= [(18, .ref m),(93,v)]) (eDict (atI (p6 rfl) (getP g4) rfl ?_))
  generalize hH5:(H4 ++ [O.dict []]).set H.length (.inst 3 (putA 22 (.ref H4.length) [(18, .ref m),(93,v)]))=H5
  have K5:Keep [H.length] H4 H5:=hH5▸Keep.push.trans (Keep.set (.head _))
  have g5:H5[H.length]? =some (.inst 3 [(18, .ref m),(93,v),(22, .ref H4.length)]):=hH5▸getS (getP g4)
  have lt4:=ltL g4
  have d5:H5[H4.length]? =some (.dict []):=hH5▸getO' (by lia) getN
  have M5:=M4.keep K5 nm λx hx=>(List.mem_singleton.mp hx)▸⟨_,_,g4⟩
  have I5:=I4.keep K5 tJ
  have K05:Keep [H.length] H H5:=λz o hz e=>K5 _ _ hz (K4 _ _ hz (K3 _ _ nofun (K2 _ _ hz (K1 _ _ nofun (getP e)))))
  obtain⟨q5,gq5,it5⟩:=iter_mem (n:=n + 13) (is:=is) M5
  refine sFor (qB (eP (p8 (p6 rfl) g5 rfl) (qOk it5 ?_)))
  have nD: ∀ {z:Nat}{o:O},H5[z]? =some o->(∀kvs,o≠ .dict kvs)->z∉ [H4.length]:=λ {z o} e ho hx=>by
   rw [List.mem_singleton.mp hx,d5] at e
   exact ho _ (Option.some.inj e).symm
  refine qMono (forGo (λi ρ H'=>(∃x,ρ=⟨[some (.ref H.length),some (.ref m),x,none,none,none],List.replicate 6 none⟩)/\Keep [H4.length] H5 H'/\∃kvs,H'[H4.length]? =some (.dict kvs)/\DictOK (2 * i) kvs) (λv H'=>False) (λi v H' ρ hv hh=> ?_) (λ ρ H' hh=>stlS (hh.2.1 _ _ (nD gq5 nofun) gq5)) _ 0 H5 _ (Nat.zero_add _) ⟨⟨_,rfl⟩,Keep.refl,[],d5,⟨λp h=>(nomatch h),Nat.le_refl _⟩⟩) λr H' hh=> ?_
  ·obtain⟨⟨x,rfl⟩,K,kvs,gk,ok⟩:=hh
   have hi:=(List.getElem?_eq_some_iff.mp hv).1
   have hv':=hv
   rw [List.getElem?_map] at hv'
   obtain⟨k,hk,rfl⟩:=Option.map_eq_some_iff.mp hv'
   have hkJ:=sub1 k (List.mem_of_getElem? hk)
   have gt:=K _ _ (nD g5 nofun) g5
   have IK:=I5.keep K λx hx hJ=>by
    have e:=I5.at_ x hJ
    rw [List.mem_singleton.mp hx,d5] at e
    exact O.noConfusion (Option.some.inj e)
   rw [List.length_map] at hi
   refine⟨curS (K _ _ (nD gq5 nofun) gq5) hv,_,rfl,sExpr (eMeth (p6 rfl) gt rfl (p34 (p6 rfl) p33) (qMono (add_bnd IK hkJ gt rfl gk ok (by lia)) λv H2 h2=>⟨by rw [h2.1];rfl,sNil ⟨⟨_,rfl⟩,K.trans h2.2.1, ?_⟩⟩))⟩
   exact h2.2.2
  obtain⟨f,ρ'⟩:=r
  cases f with
  | rt v=>exact hh.elim
  | nx =>
   obtain⟨_,K,_⟩:=hh
   refine sNil (kQ _ _ ⟨rfl,λz o _ e=>K _ _ ?_ (K05 _ _ ?_ e),m,_,K _ _ (nD g5 nofun) g5,rfl, ?_⟩)
   ·intro hx
    have:=ltL e
    have:=List.mem_singleton.mp hx
    lia
   ·intro hx
    have:=ltL e
    have:=List.mem_singleton.mp hx
    lia
   ·obtain⟨q,h1,h2⟩:=M5
    exact⟨q,K _ _ (nD h1 nofun) h1,hms.symm▸K _ _ (nD h2 nofun) h2⟩
end
section
variable {n:Nat}{is:List Int}{H:Hp}{t m:Nat}{at_:List (Nat × V)}{rw_:Nat->Rw}{J ls ms:List Nat}
theorem tree_init {li:Nat} (hI:Iv rw_ J H) (hl: ∀k∈ls,k∈J) (hz:ls.length<=7) (gl:H[li]? =some (.list (ls.map V.ref))) :
 wq (run (n + 16) (P9 is) 62 [] [.ref H.length, .ref li] []) (H ++ [.inst 3 []]) λv H'=>v= .none/\Keep [] H H'/\∃m at_,H'[H.length]? =some (.inst 3 at_)/\at_.lookup 18=some (.ref m)/\MemAt H' m (ls.foldl (ins rw_) []):=by
 refine qRun (ρ:=⟨[some (.ref H.length),some (.ref li)],List.replicate 2 none⟩) rfl rfl rfl λDd=> ?_
 exact sExpr (eMeth (p6 rfl) getN rfl (p34 (p6 rfl) p33) (qMono (set_up hI hl hz gl) λv H' h=>⟨by rw [h.1];rfl,sNil ⟨rfl,h.2⟩⟩))
theorem iter_tree (g:H[t]? =some (.inst 3 at_)) (ha:at_.lookup 18=some (.ref m)) (hM:MemAt H m ms): ∃q,H[q]? =some (.list (ms.map V.ref))/\iterOf (run (n + 2) (P9 is)) (P9 is) (.ref t) H= .ok (some q,ms.map V.ref) H:=by
 obtain⟨q,h1,h2⟩:=hM
 have z:run (n + 1) (P9 is) 2 [] [.ref m] [] H= .ok (.it q) H:=by
  refine qPur (qRun (ρ:=⟨[some (.ref m),none],List.replicate 2 none⟩) rfl rfl rfl λDd=>(sRetIt (qB (qOk (a:= .ref q) (show Pi ⟨_,_,_,_⟩ (.e _ _) by(with_reducible (repeat' first|assumption|apply p6|apply p8|with_unfolding_all exact rfl))) (qOk (a:=q) (okG h2 rfl) ⟨rfl,rfl⟩)))))
 have z2:run (n + 2) (P9 is) 106 [] [.ref t] [] H= .ok (.it q) H:=by
  have hat:attrOf (P9 is) 3 18 at_=some (.ref m):=ha
  exact qPur (qRun (ρ:=⟨[some (.ref t),none],List.replicate 2 none⟩) rfl rfl rfl λDd=>(sRetIt (qB (eP (p8 (p6 rfl) g hat) (qOk (a:=q) (okB (a:=m) rfl (okG h1 (okB (a:=2) rfl (okB z rfl)))) ⟨rfl,rfl⟩)))))
 exact⟨q,h2,okB (a:=q) (okB (a:=t) rfl (okG g (okB (a:=106) rfl (okB z2 rfl)))) (okB (a:=ms.map V.ref) (okG h2 rfl) rfl)⟩
end
theorem compMap {α:Type}{C:CallT}{P:Prog}{H:Hp}{lo:Option Nat}{elt:X}{N:Nat}{cel:List (Option Nat)} (l:List α) (f g:α->V) (hN:2<=N) (hz:l.length<=1000) (hlo: ∀k,lo=some k->H[k]? =some (.list (l.map f)))
 (he: ∀a∈l,∀ (H':Hp) (lc:List (Option V)),Keep [] H H'->lc[1]? =some (some (f a))->Pi ⟨C,P,⟨lc,cel⟩,H'⟩ (.e elt (g a))) {σ:Lo} (hc:σ.cel=cel) (hσ:σ.loc.length=N) :
 wq (compLoop (λ σ=>ev C P elt σ) (λ σ=>evTests C P [] σ) (.n 1) lo (l.map f) (l.map f).length 0 H.length σ) (H ++ [.list []]) λ_ H'=>Keep [] H H'/\H'[H.length]? =some (.list (l.map g)):=by
 have cur: ∀ {H':Hp}{i:Nat}{v:V},Keep [] H H'->(l.map f)[i]? =some v->curItem lo (l.map f) i H'= .ok v H':=λ {H' i v} K hv=>by
  cases lo with
  | none=>exact curN hv
  | some k=>exact curS (K _ _ nofun (hlo k rfl)) hv
 refine qMono (compGo (N:=N) (cel:=cel) (λi xs H'=>Keep [] H H'/\H'[H.length]? =some (.list xs)/\xs=(l.take i).map g) (λi v xs H' σ hv hh hc hσ=> ?_) (λxs H' hh=> ?_) _ 0 [] _ _ (Nat.zero_add _) ⟨Keep.push,getN,rfl⟩ hc hσ) λ_ H' hh=> ?_
 ·obtain⟨K,ga,rfl⟩:=hh
  have hv':=hv
  rw [List.getElem?_map] at hv'
  obtain⟨a,hk,rfl⟩:=Option.map_eq_some_iff.mp hv'
  obtain⟨lc,cl⟩:=σ
  obtain rfl:cl=_:=hc
  have hσ:lc.length=N:=hσ
  have hloc:(lc.set 1 (some (f a)))[1]? =some (some (f a)):=List.getElem?_set_self (by lia)
  refine⟨cur K hv,⟨lc.set 1 (some (f a)),_⟩,rfl,rfl,by rw [List.length_set];exact hσ,(show wq (pure true) H' _ from⟨λ_=>eP (he a (List.mem_of_getElem? hk) H' _ K hloc) ⟨ga, ?_,Keep.setN (Nat.le_refl _) K,getS ga, ?_⟩,λe=>Bool.noConfusion e⟩)⟩
  ·rw [List.length_map]
   have:=List.length_take_le' i l
   lia
  ·rw [List.take_add_one,hk,List.map_append];rfl
 ·cases lo with
  | none=>exact stlN
  | some k=>exact stlS (hh.1 _ _ nofun (hlo k rfl))
 ·obtain⟨xs,K,ga,rfl⟩:=hh
  rw [List.length_map,List.take_length] at ga
  exact⟨K,ga⟩
section
variable {C D:CallT}{P:Prog}{ρ:Lo}{H:Hp}{a b e:X}
theorem eCall1X {Q:V->Hp->Prop}{B':B} (h:wq (ev C P e ρ) H λv H1=>wq (bcall C P B' [v] []) H1 λr H2=>vIt r=none/\Q r H2):wq (ev C P (.call (.glob (.bi B')) [e] [] []) ρ) H Q:=
 qB (qOk (a:=V.g (.bi B')) rfl (qB (qB (qMono h λv H1 h=>qB (qOk (a:= []) rfl (qB (qOk (a:= []) rfl (qChk h))))))))
theorem bSortX {Q:V->Hp->Prop}{v:V}{vs ws:List V} (hv:vSet v=none) (hd:P.hd=false) (c:collectV C P v H= .ok vs H) (z:sortV C P vs H= .ok ws H) (k:Q (.ref H.length) (H ++ [.list ws])):wq (bcall C P .sorted [v] []) H λr H2=>vIt r=none/\Q r H2:=by
 show wq (if P.hd=true then stuck else om (vSet v) (collectV C P v >>= λvs=>sortV C P vs >>= λws=>alloc (.list ws) >>= λl=>pure (V.ref l)) _) H _
 rw [hd,hv]
 exact qB (qOk c (qB (qOk z (qB (show vIt (V.ref H.length)=none/\Q (.ref H.length) (H ++ [.list ws]) from⟨rfl,k⟩)))))
theorem oB' {α:Type}{o:Option α}{v:α} (h:o=some v):ofO o H= .ok v H:=by rw [h];rfl
theorem neL {x y:Nat}{vs ws:List V}{r:Bool} (gx:H[x]? =some (.list vs)) (gy:H[y]? =some (.list ws)) (h:peqL vs ws=some r):cmpOp C P .NotEq (.ref x) (.ref y) H= .ok (.bool (!r)) H:=
 okB (a:=none) (okG gx rfl) (okB (a:=r) (okB (a:=none) (okG gx rfl) (okB (a:=y) rfl (okB (show getLs x H= .ok vs H from okG gx rfl) (okB (show getLs y H= .ok ws H from okG gy rfl) (oB' h))))) rfl)
theorem tCmpX {op:CmpOp}{Q:Bool->Hp->Prop} (h:wq (ev C P a ρ) H λx H1=>wq (ev C P b ρ) H1 λy H2=>∃r,cmpOp C P op x y H2= .ok (.bool r) H2/\Q r H2):wq (evT C P (.cmp op a b) ρ) H Q:=
 qB (qMono h λx H1 h=>qB (qMono h λy H2 h=>h.elim λr h=>qB (qOk h.1 h.2)))
theorem sIfX {Q:Fl × Lo->Hp->Prop}{r:List S}{t:X}{A B':List S} (h:wq (evT C P t ρ) H λc H1=>c=false/\wq (exs C D P (B' ++ r) ρ) H1 Q):wq (exs C D P (.ite t A B' :: r) ρ) H Q:=
 sStep (qB (qMono h λc H1 h=>by rw [h.1];exact sCat h.2))
theorem sUnp {Q:Fl × Lo->Hp->Prop}{r:List S}{i j:Nat}{x y:V} (hd:P.hd=false) (h:Pi ⟨C,P,ρ,H⟩ (.e e (.tup [x,y]))) (k:wq (exs C D P r ⟨(ρ.loc.set i (some x)).set j (some y),ρ.cel⟩) H Q):wq (exs C D P (.unpack [i,j] e :: r) ρ) H Q:=by
 refine sStep ?_
 show wq (if P.hd=true then stuck else ev C P e ρ >>= λv=>ofO (vTup v) >>= λvs=>bindIs [i,j] vs ρ >>= λ ρ=>pure (Fl.nx,ρ)) H _
 rw [hd]
 exact qB (qOk h.ok (qB (qOk (a:= [x,y]) rfl (qB (qOk (a:=⟨(ρ.loc.set i (some x)).set j (some y),ρ.cel⟩) rfl k)))))
end
section
variable {K:Kx}{a b:X}{x k f:Nat}{y:V}{p:List (Nat × V)}{r:Bool}{dd:Option Nat}
theorem pLtI (g:Bool) (h:Pi K (.e a (.ref x))) (h2:Pi K (.e b y)) (ga:K.H[x]? =some (.inst k p)) (gb:clsOf y K.H= .ok dd K.H) (hd:dd=some k\/isInt y=true) (h1:K.P.getM k (if g then nGt else nLt)=some f) (z:K.C f [] [.ref x,y] [] K.H= .ok (.bool r) K.H):Pi K (.e (.cmp (if g then .Gt else .Lt) a b) (.bool r)):=by
 have e:ltv g K.C K.P (.ref x) y K.H= .ok r K.H:=okB (a:=some k) (okG ga rfl) (okB gb (show(ofO (K.P.getM k (if g then nGt else nLt)) >>= λf=>if dd=some k\/isInt y=true then K.C f [] [.ref x,y] [] >>= asBool else stuck) K.H=_ from
  okB (a:=f) (by rw [h1];rfl) (by rw [if_pos hd];exact okB z rfl)))
 cases g <;> exact okB h.ok (okB h2.ok (okB e rfl))
end
noncomputable def pk (r:Rw):PyData:= .tuple [.int r.b, .int r.e, .int (rk r.d), .int (intOf r.d), .str (strOf r.d)]
theorem toPy_pk {r:Rw} (h:DOk r.d):toPy (key r)=some (pk r):=toPy_key h
theorem sh_pk {r:Rw} (h:DOk r.d):PyData.canLay0 (pk r)=true/\(pk r).depth=1:=by
 unfold pk
 refine⟨?_,rfl⟩
 show(true && (true && (true && (true && (PyData.strOk (strOf r.d) && true)))))=true
 rw [strOf_ok h];rfl
theorem eqv_pk (a b:Rw):PyData.eqv (pk a) (pk b)=decide (kl a=kl b):=by
 show(a.b == b.b && (a.e == b.e && (rk a.d == rk b.d && (intOf a.d == intOf b.d && (strOf a.d == strOf b.d && true)))))=_
 have s:(strOf a.d == strOf b.d)=decide (cpl a.d=cpl b.d):=by
  by_cases e:strOf a.d=strOf b.d
  ·rw [e,beq_self_eq_true,decide_eq_true (by unfold cpl;rw [e])]
  ·rw [beq_false_of_ne e,decide_eq_false (p:=cpl a.d=cpl b.d) λc=>e (congrArg Str.mk (Array.toList_inj.mp (map_inj c)))]
 rw [s]
 have ii: ∀x y:Int,(x == y)=decide (x=y):=λx y=>rfl
 rw [ii,ii,ii,ii,Bool.and_true, <- Bool.decide_and, <- Bool.decide_and, <- Bool.decide_and, <- Bool.decide_and]
 refine decide_eq_decide.mpr ?_
 unfold kl
 rw [List.cons.injEq,List.cons.injEq,List.cons.injEq,List.cons.injEq]
theorem peq_key {a b:Rw} (h:DOk a.d) (h':DOk b.d):peq (key a) (key b)=some (decide (kl a=kl b)):=by
 unfold peq peqO
 rw [toPy_pk h,toPy_pk h']
 show(if(SeqAt.shaped (pk a) && SeqAt.shaped (pk b))=true then some (PyData.eqv (pk a) (pk b)) else none)=_
 have s: ∀ {r:Rw},DOk r.d->SeqAt.shaped (pk r)=true:=λ {r} h=>by
  unfold SeqAt.shaped
  rw [(sh_pk h).1,(sh_pk h).2];rfl
 rw [s h,s h',eqv_pk];rfl
theorem peqL_key {l:List Rw} (h: ∀r∈l,DOk r.d):peqL (l.map key) (l.map key)=some true:=by
 have t:toPys (l.map key)=some (l.map pk):=by
  induction l with
  | nil=>rfl
  | cons r l ih=>
   show(toPy (key r)).bind (λd=>(toPys (l.map key)).map (d :: ·))=_
   rw [toPy_pk (h r (.head _)),ih λr hr=>h r (.tail _ hr)];rfl
 have c:PyData.canLayAll0 (l.map pk)=true:=by
  clear t
  induction l with
  | nil=>rfl
  | cons r l ih=>
   show(PyData.canLay0 (pk r) && PyData.canLayAll0 (l.map pk))=true
   rw [(sh_pk (h r (.head _))).1,ih λr hr=>h r (.tail _ hr)];rfl
 have d:PyData.depthAll (l.map pk)<=1:=by
  clear t c
  induction l with
  | nil=>exact Nat.zero_le _
  | cons r l ih=>
   show max (pk r).depth (PyData.depthAll (l.map pk))<=1
   rw [(sh_pk (h r (.head _))).2]
   exact Nat.max_le.mpr ⟨Nat.le_refl _,ih λr hr=>h r (.tail _ hr)⟩
 have e:PyData.eqvAll (l.map pk) (l.map pk)=true:=by
  clear t c d h
  induction l with
  | nil=>rfl
  | cons r l ih=>
   show(PyData.eqv (pk r) (pk r) && PyData.eqvAll (l.map pk) (l.map pk))=true
   rw [eqv_pk,decide_eq_true rfl,ih];rfl
 unfold peqL peqO
 rw [t]
 show(if(SeqAt.shaped (.list (l.map pk)) && SeqAt.shaped (.list (l.map pk)))=true then some (PyData.eqvAll (l.map pk) (l.map pk)) else none)=_
 have s:SeqAt.shaped (.list (l.map pk))=true:=by
  unfold SeqAt.shaped
  rw [show PyData.canLay0 (.list (l.map pk))=true from c]
  refine decide_eq_true ?_
  show PyData.depthAll (l.map pk) + 1<=64
  lia
 rw [s,e];rfl
noncomputable def insR (A:List Rw) (r:Rw):List Rw:=if A.any (λa=>decide (kl a=kl r)) then A else A ++ [r]
theorem dedup_key (l:List Rw): ∀ {A:List Rw},(∀r∈A,DOk r.d)->(∀r∈l,DOk r.d)->dedup (A.map key) (l.map key)=some ((l.foldl insR A).map key):=by
 induction l with
 | nil=>exact λ_ _=>rfl
 | cons r l ih=>
  intro A hA hl
  have m:(A.map key).mapM (λy=>peq y (key r))=some (A.map λa=>decide (kl a=kl r)):=by
   have hr:=hl r (.head _)
   clear ih
   induction A with
   | nil=>rfl
   | cons a A ihA=>
    rw [List.map_cons,List.mapM_cons,peq_key (hA a (.head _)) hr,ihA λr hr=>hA r (.tail _ hr)];rfl
  show(match (A.map key).mapM (λy=>peq y (key r)) with
   | some bs=>if bs.any id then dedup (A.map key) (l.map key) else dedup (A.map key ++ [key r]) (l.map key)
   | none=>Option.none)=_
  rw [m]
  show(if(A.map λa=>decide (kl a=kl r)).any id=true then dedup (A.map key) (l.map key) else dedup (A.map key ++ [key r]) (l.map key))=_
  rw [List.any_map]
  show(if(A.any λa=>decide (kl a=kl r))=true then _ else _)=some ((l.foldl insR (insR A r)).map key)
  unfold insR
  by_cases c:(A.any λa=>decide (kl a=kl r))=true
  ·rw [if_pos c,if_pos c]
   exact ih hA λr hr=>hl r (.tail _ hr)
  ·rw [if_neg c,if_neg c]
   have e:A.map key ++ [key r]=(A ++ [r]).map key:=by rw [List.map_append];rfl
   rw [e]
   exact ih (λx hx=>(List.mem_append.mp hx).elim (hA x) λhx=>(List.mem_singleton.mp hx)▸hl r (.head _)) λr hr=>hl r (.tail _ hr)
theorem insR_nd (l:List Rw): ∀ {A:List Rw},(A.map kl).Nodup->((l.foldl insR A).map kl).Nodup/\∀x,x∈(l.foldl insR A).map kl ↔ x∈A.map kl\/x∈l.map kl:=by
 induction l with
 | nil=>exact λh=>⟨h,λx=>⟨.inl,λh=>h.elim id λh=>nomatch h⟩⟩
 | cons r l ih=>
  intro A h
  have z :((insR A r).map kl).Nodup/\∀x,x∈(insR A r).map kl ↔ x∈A.map kl\/x=kl r:=by
   unfold insR
   by_cases c:(A.any λa=>decide (kl a=kl r))=true
   ·rw [if_pos c]
    refine⟨h,λx=>⟨.inl,λq=>q.elim id λe=> ?_⟩⟩
    obtain⟨a,ha,e2⟩:=List.any_eq_true.mp c
    rw [e, <- of_decide_eq_true e2]
    exact List.mem_map_of_mem ha
   ·rw [if_neg c,List.map_append]
    refine⟨List.nodup_append.mpr ⟨h,List.nodup_cons.mpr ⟨nofun,List.nodup_nil⟩,λa ha b hb e=>c ?_⟩,λx=> ?_⟩
    ·obtain⟨a',ha',rfl⟩:=List.mem_map.mp ha
     rw [List.mem_singleton.mp hb] at e
     exact List.any_eq_true.mpr ⟨a',ha',decide_eq_true e⟩
    ·rw [List.mem_append]
     exact or_congr_right List.mem_singleton
  refine⟨(ih z.1).1,λx=>((ih z.1).2 x).trans ?_⟩
  rw [z.2,List.map_cons,List.mem_cons,or_assoc]
theorem ins_rows {rw_:Nat->Rw} (ls:List Nat): ∀ {ms:List Nat},(ls.foldl (ins rw_) ms).map rw_=(ls.map rw_).foldl insR (ms.map rw_):=by
 induction ls with
 | nil=>exact rfl
 | cons l ls ih=>
  intro ms
  rw [List.foldl_cons,ih,List.map_cons,List.foldl_cons]
  refine congrArg (λA=>(ls.map rw_).foldl insR A) ?_
  unfold ins insR
  rw [List.any_map]
  show(if(ms.any (same rw_ l))=true then ms else ms ++ [l]).map rw_=(if(ms.any λa=>decide (kl (rw_ a)=kl (rw_ l)))=true then ms.map rw_ else ms.map rw_ ++ [rw_ l])
  by_cases c:ms.any (same rw_ l)=true
  ·rw [if_pos c,if_pos (show(ms.any λa=>decide (kl (rw_ a)=kl (rw_ l)))=true from c)]
  ·rw [if_neg c,if_neg (show¬ (ms.any λa=>decide (kl (rw_ a)=kl (rw_ l)))=true from c),List.map_append];rfl
noncomputable def insS (x:Rw):List Rw->List Rw
 | []=> [x]
 | y :: r=>if rlt y x then y :: insS x r else x :: y :: r
noncomputable def isS:List Rw->List Rw
 | []=> []
 | x :: r=>insS x (isS r)
theorem plt_key {a b:Rw} (h:DOk a.d) (h':DOk b.d):plt (key a) (key b)=rlt a b/\pge (key a) (key b)= !rlt a b:=by
 unfold plt pge
 rw [pord_key false h h']
 rw [if_neg nofun]
 cases rlt a b <;> exact⟨rfl,rfl⟩
theorem insS_key {x:Rw} (hx:DOk x.d) (l:List Rw):(∀r∈l,DOk r.d)->insV (key x) (l.map key)=(insS x l).map key:=by
 induction l with
 | nil=>exact λ_=>rfl
 | cons y l ih=>
  intro h
  show(if plt (key y) (key x)=true then key y :: insV (key x) (l.map key) else key x :: key y :: l.map key)=(if rlt y x=true then y :: insS x l else x :: y :: l).map key
  rw [(plt_key (h y (.head _)) hx).1]
  by_cases c:rlt y x=true
  ·rw [if_pos c,if_pos c,ih λr hr=>h r (.tail _ hr)];rfl
  ·rw [if_neg c,if_neg c];rfl
theorem insS_perm (x:Rw) (l:List Rw):(insS x l).Perm (x :: l):=by
 induction l with
 | nil=>exact .refl _
 | cons y l ih=>
  show(if rlt y x=true then y :: insS x l else x :: y :: l).Perm _
  split
  ·exact(ih.cons y).trans (.swap _ _ _)
  ·exact .refl _
theorem isS_perm (l:List Rw):(isS l).Perm l:=by
 induction l with
 | nil=>exact .refl _
 | cons x l ih=>exact(insS_perm x (isS l)).trans (ih.cons x)
theorem isS_key (l:List Rw):(∀r∈l,DOk r.d)->isortV (l.map key)=(isS l).map key:=by
 induction l with
 | nil=>exact λ_=>rfl
 | cons x l ih=>
  intro h
  show insV (key x) (isortV (l.map key))=_
  rw [ih λr hr=>h r (.tail _ hr)]
  exact insS_key (h x (.head _)) _ λr hr=>h r (.tail _ ((isS_perm l).mem_iff.mp hr))
theorem insS_asc (x:Rw) (l:List Rw):l.Pairwise (λa b=>rlt b a=false)->(insS x l).Pairwise (λa b=>rlt b a=false):=by
 induction l with
 | nil=>exact λ_=>List.pairwise_singleton _ _
 | cons y l ih=>
  intro h
  have h':=List.pairwise_cons.mp h
  show(if rlt y x=true then y :: insS x l else x :: y :: l).Pairwise _
  by_cases c:rlt y x=true
  ·rw [if_pos c]
   refine List.pairwise_cons.mpr ⟨λz hz=> ?_,ih h'.2⟩
   rcases List.mem_cons.mp ((insS_perm x l).mem_iff.mp hz) with rfl | hz
   ·exact rlt_asy c
   ·exact h'.1 z hz
  ·rw [if_neg c]
   refine List.pairwise_cons.mpr ⟨λz hz=> ?_,h⟩
   have c:rlt y x=false:=Bool.eq_false_iff.mpr c
   rcases mcons hz with rfl | hz
   ·exact c
   ·cases q:rlt z x
    ·rfl
    ·have:=rlt_neg c q
     rw [h'.1 z hz] at this
     exact Bool.noConfusion this
theorem isS_asc (l:List Rw):(isS l).Pairwise (λa b=>rlt b a=false):=by
 induction l with
 | nil=>exact .nil
 | cons x l ih=>exact insS_asc x _ ih
theorem strict_key (l:List Rw):(∀r∈l,DOk r.d)->l.Pairwise (λa b=>rlt b a=false)->(l.map kl).Nodup->strictV (l.map key)=true:=by
 induction l with
 | nil=>exact λ_ _ _=>rfl
 | cons x l ih=>
  intro h ha hn
  have ha':=List.pairwise_cons.mp ha
  have hn':=List.nodup_cons.mp hn
  show((l.map key).all (λy=>plt (key x) y && pge y (key x)) && strictV (l.map key))=true
  rw [ih (λr hr=>h r (.tail _ hr)) ha'.2 hn'.2,Bool.and_true,List.all_eq_true]
  intro v hv
  obtain⟨y,hy,rfl⟩:=List.mem_map.mp hv
  rw [(plt_key (h x (.head _)) (h y (.tail _ hy))).1,(plt_key (h y (.tail _ hy)) (h x (.head _))).2,ha'.1 y hy]
  cases c:rlt x y
  ·exact absurd (List.mem_map.mpr ⟨y,hy,(List.le_antisymm (List.not_lt.mp (of_decide_eq_false (ha'.1 y hy))) (List.not_lt.mp (of_decide_eq_false c))).symm⟩) hn'.1
  ·rfl
section
variable {C:CallT}{P:Prog}{H:Hp}{Q:V->Hp->Prop}{l:Nat}{rs:List Rw}
theorem bSetX (hd:P.hd=false) (g:H[l]? =some (.list (rs.map key))) (hk: ∀r∈rs,DOk r.d) (hz:rs.length<=63) (k:Q (.set ((rs.foldl insR []).map key)) H):wq (bcall C P .set [.ref l] []) H λr H2=>vIt r=none/\Q r H2:=by
 show wq (if P.hd=true then stuck else getLs l >>= λvs=>if(vs.all isFlat && decide (vs.length<=63))=true then(ofO (dedup [] vs) >>= λws=>pure (V.set ws)) else stuck) H _
 rw [hd]
 refine qB (qOk (show getLs l H= .ok (rs.map key) H from okG g rfl) ?_)
 rw [if_pos (by
  rw [List.length_map,decide_eq_true hz,Bool.and_true,List.all_eq_true]
  intro v hv
  obtain⟨r,_,rfl⟩:=List.mem_map.mp hv
  rfl)]
 exact qB (qOk (oB' (dedup_key rs (A:= []) (λ_ h=>nomatch h) hk)) ⟨rfl,k⟩)
theorem bSortS (hd:P.hd=false) (hk: ∀r∈rs,DOk r.d) (hn:(rs.map kl).Nodup) (hz:rs.length<=63) (k:Q (.ref H.length) (H ++ [.list ((isS rs).map key)])):wq (bcall C P .sorted [.set (rs.map key)] []) H λr H2=>vIt r=none/\Q r H2:=by
 show wq (if P.hd=true then stuck else if((rs.map key).all isTupI && strictV (isortV (rs.map key)) && (rs.map key).all (λv=>pge v v) && decide ((rs.map key).length<=63))=true then(alloc (.list (isortV (rs.map key))) >>= λl=>pure (V.ref l)) else stuck) H _
 rw [hd,isS_key rs hk]
 have hp:=isS_perm rs
 have c:((rs.map key).all isTupI && strictV ((isS rs).map key) && (rs.map key).all (λv=>pge v v) && decide ((rs.map key).length<=63))=true:=by
  rw [strict_key _ (λr hr=>hk r (hp.mem_iff.mp hr)) (isS_asc rs) ((hp.map kl).nodup_iff.mpr hn),List.length_map,decide_eq_true hz,Bool.and_true,Bool.and_true,Bool.and_eq_true,List.all_eq_true,List.all_eq_true]
  refine⟨λv hv=> ?_,λv hv=> ?_⟩
  ·obtain⟨r,_,rfl⟩:=List.mem_map.mp hv
   rfl
  ·obtain⟨r,hr,rfl⟩:=List.mem_map.mp hv
   rw [(plt_key (hk r hr) (hk r hr)).2,rlt_irr];rfl
 show wq (if _ then _ else stuck) H _
 rw [if_pos c]
 exact qB (show vIt (V.ref H.length)=none/\Q (.ref H.length) (H ++ [.list ((isS rs).map key)]) from⟨rfl,k⟩)
end
theorem pRange {K:Kx}{e:X}{m:Int} (h:Pi K (.e e (.int m))) (hz:m.natAbs < 2 ^ 20):Pi K (.e (.call (.glob (.bi .range)) [e] [] []) (.rng 0 m)) :=
 callK (okB h.ok (okB rfl rfl)) (show(if m.natAbs < 2 ^ 20 then pure (V.rng 0 m) else stuck:M V) K.H=_ by rw [if_pos hz];rfl) rfl
theorem itR {C:CallT}{P:Prog}{H:Hp}{m:Nat} (hd:P.hd=false) (hz:m < 1000):iterOf C P (.rng 0 (m:Int)) H= .ok (none,(List.range m).map λ (k:Nat)=>V.int (0 + (k:Int))) H:=by
 show(if P.hd=true then stuck else if(0:Int).natAbs < 2 ^ 20/\((m:Int)).natAbs < 2 ^ 20 then pure (none,rngItems 0 m) else stuck:M (Option Nat × List V)) H=_
 rw [hd,if_neg (by decide),if_pos ⟨by decide,by rw [Int.natAbs_natCast];lia⟩]
 unfold rngItems
 rw [Int.sub_zero,Int.toNat_natCast];rfl
theorem itL {C:CallT}{P:Prog}{H:Hp}{q:Nat}{vs:List V} (hd:P.hd=false) (g:H[q]? =some (.list vs)):iterOf C P (.ref q) H= .ok (some q,vs) H:=by
 show(if P.hd=true then stuck else openIt C P (.ref q) >>= λk=>getLs k >>= λvs=>pure (some k,vs)) H=_
 rw [hd]
 exact okB (a:=q) (okB (a:=q) rfl (okG g rfl)) (okB (show getLs q H= .ok vs H from okG g rfl) rfl)
section
variable {n:Nat}{is:List Int}{H:Hp}{ρ:Lo}{Q:V->Hp->Prop}
noncomputable def num9 (is:List Int):Nat:=(2 + (at9 is 0).fmod 6).toNat
noncomputable def rows9 (is:List Int):List Rw:=(List.range (num9 is)).map λk=>row9' is (1 + 4 * k)
theorem num_le (is:List Int):((num9 is:Nat):Int)=2 + (at9 is 0).fmod 6/\num9 is<=7:=by
 have h:=fmodP (at9 is 0) (m:=6) (by decide)
 have h1:0<=(at9 is 0).fmod 6:=h.1
 have h2:(at9 is 0).fmod 6 < 6:=h.2.2
 unfold num9
 lia
theorem rows_ok {r:Rw} (h:r∈rows9 is):RwOK r:=by
 obtain⟨k,_,rfl⟩:=List.mem_map.mp h
 exact row9_ok is _
theorem rows_len:(rows9 is).length=num9 is:=by unfold rows9;rw [List.length_map,List.length_range]
theorem lawA {c:Nat} (hc:ρ.cel[0]? =some (some c)) (g:H[c]? =some (.cell (some .scr))) (k: ∀H',Keep [] H H'->H'[H.length]? =some (.list ((rows9 is).map rv))->Q (.ref H.length) H') :
 wq (ev (run (n + 2) (P9 is)) (P9 is) (.comp 4 [(3,0)] (.call (.glob (.fn 111)) [(.cel 3),(.bin .Add (.int 1) (.bin .Mult (.int 4) (.loc 1)))] [] []) (.n 1) (.call (.glob (.bi .range)) [(.bin .Add (.int 2) (.bin .Mod (.call (.glob (.fn 109)) [(.cel 0),(.int 0)] [] []) (.int 6)))] [] []) []) ρ) H Q:=by
 have hn:=num_le is
 have a0:run (n + 2) (P9 is) 109 [] [.scr, .int 0] [] H= .ok (.int (at9 is 0)) H:=law_at (k:=0)
 have e:Pi ⟨run (n + 2) (P9 is),P9 is,ρ,H⟩ (.e (.bin .Add (.int 2) (.bin .Mod (.call (.glob (.fn 109)) [(.cel 0),(.int 0)] [] []) (.int 6))) (.int (num9 is))):=hn.1▸p10 p3 (p12 (p24 (p34 (p7 hc g) (p34 p3 p33)) a0 rfl) p3 (by decide))
 refine eComp (qB (eP (pRange e (by rw [Int.natAbs_natCast];lia)) (qOk (itR rfl (by lia)) ?_)))
 have ec:(compEnv 4 [(3,0)] ρ).cel= [none,none,none,some c]:=by
  show(List.replicate 4 none).set 3 (match ρ.cel[0]? with | some c=>c | none=>none)=_
  rw [hc];rfl
 refine qMono (compGo (N:=4) (cel:= [none,none,none,some c]) (λi xs H'=>Keep [] H H'/\H'[H.length]? =some (.list xs)/\xs=(((List.range (num9 is)).take i).map λk=>rv (row9' is (1 + 4 * k)))) (λi v xs H' σ hv hh hc' hσ=> ?_) (λxs H' h=>stlN) _ 0 [] _ _ (Nat.zero_add _) ⟨Keep.push,getN,rfl⟩ ec rfl) λ_ H' hh=> ?_
 ·obtain⟨K,ga,rfl⟩:=hh
  have hv':=hv
  rw [List.getElem?_map] at hv'
  obtain⟨j,hj,rfl⟩:=Option.map_eq_some_iff.mp hv'
  obtain⟨hi,hj'⟩:=List.getElem?_eq_some_iff.mp hj
  rw [List.getElem_range] at hj'
  subst hj'
  rw [List.length_range] at hi
  obtain⟨lc,cl⟩:=σ
  obtain rfl:cl=_:=hc'
  have hσ:lc.length=4:=hσ
  have hloc:(lc.set 1 (some (V.int (0 + (i:Int)))))[1]? =some (some (V.int (0 + (i:Int)))):=List.getElem?_set_self (by lia)
  have ei:(1:Int) + 4 * (0 + (i:Int))=((1 + 4 * i:Nat):Int):=by lia
  have ha:Pi ⟨run (n + 2) (P9 is),P9 is,⟨lc.set 1 (some (V.int (0 + (i:Int)))),[none,none,none,some c]⟩,H'⟩ (.l [(.cel 3),(.bin .Add (.int 1) (.bin .Mult (.int 4) (.loc 1)))] [.scr, .int ((1 + 4 * i:Nat):Int)]):=ei▸p34 (p7 rfl (K _ _ nofun g)) (p34 (p10 p3 (pMul p3 (p6 hloc) (by decide +kernel))) p33)
  refine⟨curN hv,⟨lc.set 1 _,_⟩,rfl,rfl,by rw [List.length_set];exact hσ,(show wq (pure true) H' _ from⟨λ_=>eFn ha (qMono (law_row (n:=n) (k:=1 + 4 * i)) λv H4 h4=> ?_),λe=>Bool.noConfusion e⟩)⟩
  obtain⟨rfl,K4⟩:=h4
  have ga4:=K4 _ _ nofun ga
  refine⟨rfl,ga4, ?_,Keep.setN (Nat.le_refl _) (K.trans K4),getS ga4, ?_⟩
  ·rw [List.length_map,List.length_take,List.length_range];lia
  ·rw [List.take_add_one,List.getElem?_range hi,List.map_append];rfl
 ·obtain⟨xs,K,ga,rfl⟩:=hh
  refine k H' K ?_
  rw [ga]
  unfold rows9
  rw [List.length_map,List.length_range,List.take_of_length_le (by rw [List.length_range];exact Nat.le_refl _),List.map_map];rfl
theorem lawB {R:Nat}{rs:List Rw} (hR:ρ.loc[2]? =some (some (.ref R))) (g:H[R]? =some (.list (rs.map rv))) (ok: ∀r∈rs,RwOK r) (hz:rs.length<=7)
 (k: ∀H' rw_ ml,Keep [] H H'->H'[H.length]? =some (.list (ml.map V.ref))->ml.map rw_=rs->Iv rw_ ml H'->Q (.ref H.length) H') :
 wq (ev (run (n + 2) (P9 is)) (P9 is) (.comp 5 [] (.call (.glob (.cls 1)) [(.loc 1),(.loc 2),(.loc 3)] [] []) (.t [1,2,3]) (.loc 2) []) ρ) H Q:=by
 refine eComp (qB (eP (p6 hR) (qOk (itL rfl g) ?_)))
 refine qMono (compGo (N:=5) (cel:=List.replicate 5 none) (λi xs H'=>Keep [] H H'/\H'[H.length]? =some (.list xs)/\∃rw_ ml,xs=ml.map V.ref/\ml.map rw_=rs.take i/\Iv rw_ ml H') (λi v xs H' σ hv hh hc' hσ=> ?_) (λxs H' h=>stlS (h.1 _ _ nofun g)) _ 0 [] _ _ (Nat.zero_add _) ⟨Keep.push,getN,λ_=>⟨0,0, .none⟩,[],rfl,rfl,λl h=>(nomatch h),λl h=>(nomatch h)⟩ rfl rfl) λ_ H' hh=> ?_
 ·obtain ⟨K,ga,rw_,ml,rfl,hm,I⟩:=hh
  have hv':=hv
  rw [List.getElem?_map] at hv'
  obtain⟨r,hr,rfl⟩:=Option.map_eq_some_iff.mp hv'
  have okr:=ok r (List.mem_of_getElem? hr)
  obtain⟨lc,cl⟩:=σ
  obtain rfl:cl=_:=hc'
  have hσ:lc.length=5:=hσ
  obtain⟨b,e,d⟩:=r
  have l1:(((lc.set 1 (some (V.int b))).set 2 (some (V.int e))).set 3 (some d))[1]? =some (some (V.int b)):=by rw [List.getElem?_set_ne (by decide),List.getElem?_set_ne (by decide)];exact List.getElem?_set_self (by lia)
  have l2:(((lc.set 1 (some (V.int b))).set 2 (some (V.int e))).set 3 (some d))[2]? =some (some (V.int e)):=by rw [List.getElem?_set_ne (by decide)];exact List.getElem?_set_self (by rw [List.length_set];lia)
  have l3:(((lc.set 1 (some (V.int b))).set 2 (some (V.int e))).set 3 (some d))[3]? =some (some d):=List.getElem?_set_self (by rw [List.length_set,List.length_set];lia)
  refine⟨curS (K _ _ nofun g) hv,⟨((lc.set 1 (some (V.int b))).set 2 (some (V.int e))).set 3 (some d),_⟩,rfl,rfl,by rw [List.length_set,List.length_set,List.length_set];exact hσ,(show wq (pure true) H' _ from⟨λ_=>eMake (p34 (p6 l1) (p34 (p6 l2) (p34 (p6 l3) p33))) rfl (qMono (iv_init (n:=n + 1) (H:=H')) λv H4 h4=>⟨h4.1, ?_⟩),λe=>Bool.noConfusion e⟩)⟩
  obtain⟨_,rfl⟩:=h4
  have ga4:(H' ++ [ivo ⟨b,e,d⟩])[H.length]? =some (.list (ml.map V.ref)):=getP ga
  have lm:ml.length<=i:=by
   have:=congrArg List.length hm
   rw [List.length_map,List.length_take] at this
   lia
  have hi:=(List.getElem?_eq_some_iff.mp hr).1
  have fresh: ∀l∈ml,l≠H'.length:=λl hl=>Nat.ne_of_lt (I.lt hl)
  refine⟨ga4,by rw [List.length_map];lia,Keep.setN (Nat.le_refl _) (K.trans Keep.push),getS ga4,λz=>if z=H'.length then⟨b,e,d⟩ else rw_ z,ml ++ [H'.length],by rw [List.map_append];rfl, ?_, ?_, ?_⟩
  ·rw [List.take_add_one,hr,List.map_append, <- hm]
   refine congr (congrArg HAppend.hAppend (List.map_congr_left λl hl=>if_neg (fresh l hl))) ?_
   show [if H'.length=H'.length then _ else _]=_
   rw [if_pos rfl];rfl
  ·intro l hl
   rcases List.mem_append.mp hl with hl | hl
   ·rw [if_neg (fresh l hl)]
    exact getO' (λe=>by
     have g1:=I.at_ l hl
     rw [<- e,ga] at g1
     exact O.noConfusion (Option.some.inj g1)) (getP (I.at_ l hl))
   ·obtain rfl:=in1 hl
    rw [if_pos rfl]
    exact getO' (Nat.ne_of_lt (ltL ga)) getN
  ·intro l hl
   rcases List.mem_append.mp hl with hl | hl
   ·rw [if_neg (fresh l hl)];exact I.ok l hl
   ·rw [if_pos (List.mem_singleton.mp hl)];exact okr
 ·obtain⟨xs,K,ga,rw_,ml,rfl,hm,I⟩:=hh
  rw [List.length_map,List.take_length] at hm
  exact k H' rw_ ml K ga hm I
end
theorem lidxZ {vs:List V}{i:Nat}:lidx vs (0 + (i:Int))=vs[i]? :=by
 unfold lidx
 rw [Int.zero_add,if_pos (Int.natCast_nonneg _),Int.toNat_natCast]
theorem c3_due (r r':Rw):((if rlt r' r=true then 1 else 0) - (if rlt r r'=true then 1 else 0):Int)=c3 r r':=by
 unfold c3
 cases a:rlt r r'
 ·cases rlt r' r <;> rfl
 ·rw [rlt_asy a];rfl
theorem c3_zero (r r':Rw):decide (c3 r r'=0)=decide (kl r=kl r'):=by
 by_cases e:kl r=kl r'
 ·rw [c3_eq e,decide_eq_true e];rfl
 ·rw [c3_ne e,decide_eq_false e]
  cases rlt r r' <;> rfl
noncomputable abbrev loC (R M:Nat) (ce:List (Option Nat)) (x1 x4 x5 x6 x7:Option V):Lo:=⟨[none,x1,some (.ref R),some (.ref M),x4,x5,x6,x7,none,none,none,none,none,none,none,none,none,none],ce⟩
section
variable {n:Nat}{is:List Int}{H:Hp}{D:CallT}{R M:Nat}{ce:List (Option Nat)}{rs:List Rw}{ml:List Nat}{rw_:Nat->Rw}{Q:Fl × Lo->Hp->Prop}{r:List S}
theorem pair9 {i j:Nat}{l1 l2:Nat}{x5 x6 x7:Option V} (gR:H[R]? =some (.list (rs.map rv))) (gM:H[M]? =some (.list (ml.map V.ref))) (hm:ml.map rw_=rs) (I:Iv rw_ ml H) (h1:ml[i]? =some l1) (h2:ml[j]? =some l2)
 (k:wq (exs (run (n + 20) (P9 is)) D (P9 is) r (loC R M ce (some (.int (0 + (i:Int)))) (some (.int (0 + (j:Int)))) (some (key (rw_ l1))) (some (key (rw_ l2))) (some (.int (c3 (rw_ l1) (rw_ l2)))))) H Q) :
 wq (exs (run (n + 20) (P9 is)) D (P9 is) (.unpack [5,6] (.tup [(.call (.glob (.fn 110)) [(.sub (.loc 2) (.loc 1))] [] []),(.call (.glob (.fn 110)) [(.sub (.loc 2) (.loc 4))] [] [])]) :: .assign (.n 7) (.bin .Sub (.call (.glob (.bi .int)) [(.cmp .Gt (.loc 5) (.loc 6))] [] []) (.call (.glob (.bi .int)) [(.cmp .Lt (.loc 5) (.loc 6))] [] [])) ::
  .ite (.or (.cmp .NotEq (.meth (.sub (.loc 3) (.loc 1)) 26 [(.sub (.loc 3) (.loc 4))] [] []) (.loc 7)) (.cmp .NotEq (.cmp .Eq (.sub (.loc 3) (.loc 1)) (.sub (.loc 3) (.loc 4))) (.cmp .Eq (.loc 7) (.int 0)))) [.ret (.bool false)] [] ::
  .ite (.or (.cmp .NotEq (.cmp .Lt (.sub (.loc 3) (.loc 1)) (.sub (.loc 3) (.loc 4))) (.cmp .Lt (.loc 7) (.int 0))) (.cmp .NotEq (.cmp .Gt (.sub (.loc 3) (.loc 1)) (.sub (.loc 3) (.loc 4))) (.cmp .Gt (.loc 7) (.int 0)))) [.ret (.bool false)] [] :: r) (loC R M ce (some (.int (0 + (i:Int)))) (some (.int (0 + (j:Int)))) x5 x6 x7)) H Q:=by
 have m1:=List.mem_of_getElem? h1
 have m2:=List.mem_of_getElem? h2
 have g1:=I.at_ l1 m1
 have g2:=I.at_ l2 m2
 have d1:=(I.ok l1 m1).d
 have d2:=(I.ok l2 m2).d
 have e1:lidx (rs.map rv) (0 + (i:Int))=some (rv (rw_ l1)):=by rw [lidxZ, <- hm,List.map_map,List.getElem?_map,h1];rfl
 have e2:lidx (rs.map rv) (0 + (j:Int))=some (rv (rw_ l2)):=by rw [lidxZ, <- hm,List.map_map,List.getElem?_map,h2];rfl
 have f1:lidx (ml.map V.ref) (0 + (i:Int))=some (.ref l1):=by rw [lidxZ,List.getElem?_map,h1];rfl
 have f2:lidx (ml.map V.ref) (0 + (j:Int))=some (.ref l2):=by rw [lidxZ,List.getElem?_map,h2];rfl
 refine sUnp rfl (p9 (p34 (p24 (p34 (p20 (p6 rfl) (p6 rfl) gR e1) p33) (law_key (n:=n + 19) d1) rfl) (p34 (p24 (p34 (p20 (p6 rfl) (p6 rfl) gR e2) p33) (law_key (n:=n + 19) d2) rfl) p33))) ?_
 show wq (exs _ _ _ _ (loC R M ce _ _ (some (key (rw_ l1))) (some (key (rw_ l2))) x7)) H Q
 have gt:PC .Gt (key (rw_ l1)) (key (rw_ l2)) (rlt (rw_ l2) (rw_ l1)):=cGt rfl rfl (pord_key true d1 d2)
 have lt:PC .Lt (key (rw_ l1)) (key (rw_ l2)) (rlt (rw_ l1) (rw_ l2)):=cLt rfl rfl (pord_key false d1 d2)
 refine sAsgN (c3_due (rw_ l1) (rw_ l2)▸p11 (p32 (p15 (p6 rfl) (p6 rfl) (p55 gt))) (p32 (p15 (p6 rfl) (p6 rfl) (p55 lt)))) ?_
 show wq (exs _ _ _ _ (loC R M ce (some (.int (0 + (i:Int)))) (some (.int (0 + (j:Int)))) (some (key (rw_ l1))) (some (key (rw_ l2))) (some (.int (c3 (rw_ l1) (rw_ l2)))))) H Q
 have s1:Pi ⟨run (n + 20) (P9 is),P9 is,loC R M ce (some (.int (0 + (i:Int)))) (some (.int (0 + (j:Int)))) (some (key (rw_ l1))) (some (key (rw_ l2))) (some (.int (c3 (rw_ l1) (rw_ l2)))),H⟩ (.e (.sub (.loc 3) (.loc 1)) (.ref l1)):=p20 (p6 rfl) (p6 rfl) gM f1
 have s2:Pi ⟨run (n + 20) (P9 is),P9 is,loC R M ce (some (.int (0 + (i:Int)))) (some (.int (0 + (j:Int)))) (some (key (rw_ l1))) (some (key (rw_ l2))) (some (.int (c3 (rw_ l1) (rw_ l2)))),H⟩ (.e (.sub (.loc 3) (.loc 4)) (.ref l2)):=p20 (p6 rfl) (p6 rfl) gM f2
 have cl2:clsOf (.ref l2) H= .ok (some 1) H:=okG g2 rfl
 have t1:(!decide (c3 (rw_ l1) (rw_ l2)=c3 (rw_ l1) (rw_ l2)) || !(decide (kl (rw_ l1)=kl (rw_ l2)) == decide (c3 (rw_ l1) (rw_ l2)=0)))=false:=by
  rw [c3_zero,decide_eq_true rfl,beq_self_eq_true];rfl
 have t2:(!(rlt (rw_ l1) (rw_ l2) == decide (c3 (rw_ l1) (rw_ l2) < 0)) || !(rlt (rw_ l2) (rw_ l1) == decide (c3 (rw_ l1) (rw_ l2) > 0)))=false:=by
  rw [c3_lt,c3_gt,beq_self_eq_true,beq_self_eq_true];rfl
 refine sIfF (t1▸p38 (p37 (p23 s1 g1 rfl (p34 s2 p33) (iv_cmp (n:=n + 18) g1 g2 d1 d2) rfl) (p6 rfl) p50) (p37 (pEqI s1 s2 g1 g2 rfl (iv_eq (n:=n + 19) g1 g2 d1 d2)) (p15 (p6 rfl) p3 p49) p52)) (sCat0 ?_)
 exact sIfF (t2▸p38 (p37 (pLtI false s1 s2 g1 cl2 (.inl rfl) rfl (iv_lt (n:=n + 17) g1 g2 d1 d2)) (p15 (p6 rfl) p3 p45) p52) (p37 (pLtI true s1 s2 g1 cl2 (.inl rfl) rfl (iv_gt (n:=n + 17) g1 g2 d1 d2)) (p15 (p6 rfl) p3 p46) p52)) (sCat0 k)
end
section
variable {n:Nat}{is:List Int}{H:Hp}{D:CallT}{R M:Nat}{ce:List (Option Nat)}{rs:List Rw}{ml:List Nat}{rw_:Nat->Rw}{Q:Fl × Lo->Hp->Prop}{r:List S}
theorem insR_sub: ∀ (l A:List Rw),∀r∈l.foldl insR A,r∈A\/r∈l:=by
 intro l
 induction l with
 | nil=>exact λA r h=> .inl h
 | cons x l ih=>
  intro A r h
  rcases ih _ r h with h | h
  ·unfold insR at h
   split at h
   ·exact .inl h
   ·rcases List.mem_append.mp h with h | h
    ·exact .inl h
    ·obtain rfl:=in1 h
     exact .inr (.head _)
  ·exact .inr (.tail _ h)
theorem pairs9 {B2:List S} (gR:H[R]? =some (.list (rs.map rv))) (hl:ml.length=rs.length) (hz:rs.length<=7)
 (body: ∀ (i j l1 l2:Nat) (x5 x6 x7:Option V) (Q:Fl × Lo->Hp->Prop),ml[i]? =some l1->ml[j]? =some l2->(∀y5 y6 y7,Q (.nx,loC R M ce (some (.int (0 + (i:Int)))) (some (.int (0 + (j:Int)))) y5 y6 y7) H)->wq (exs (run (n + 20) (P9 is)) D (P9 is) B2 (loC R M ce (some (.int (0 + (i:Int)))) (some (.int (0 + (j:Int)))) x5 x6 x7)) H Q)
 (k: ∀x1 x4 x5 x6 x7,wq (exs (run (n + 20) (P9 is)) D (P9 is) r (loC R M ce x1 x4 x5 x6 x7)) H Q) :
 wq (exs (run (n + 20) (P9 is)) D (P9 is) (.for_ (.n 1) (.call (.glob (.bi .range)) [(.call (.glob (.bi .len)) [(.loc 2)] [] [])] [] []) [.for_ (.n 4) (.call (.glob (.bi .range)) [(.call (.glob (.bi .len)) [(.loc 2)] [] [])] [] []) B2] :: r) (loC R M ce none none none none none)) H Q:=by
 have hm:(rs.map rv).length=rs.length:=List.length_map ..
 have rng: ∀ρ:Lo,ρ.loc[2]? =some (some (.ref R))->Pi ⟨run (n + 20) (P9 is),P9 is,ρ,H⟩ (.e (.call (.glob (.bi .range)) [(.call (.glob (.bi .len)) [(.loc 2)] [] [])] [] []) (.rng 0 (rs.length:Int))):=λ ρ h=>pRange (hm▸p26 (p6 h) gR) (by rw [Int.natAbs_natCast];lia)
 have item: ∀ {i:Nat}{v:V},((List.range rs.length).map λ (k:Nat)=>V.int (0 + (k:Int)))[i]? =some v->v= .int (0 + (i:Int))/\i < rs.length:=λ {i v} hv=>by
  rw [List.getElem?_map] at hv
  obtain⟨j,hj,rfl⟩:=Option.map_eq_some_iff.mp hv
  obtain⟨hi,hj'⟩:=List.getElem?_eq_some_iff.mp hj
  rw [List.getElem_range] at hj'
  subst hj'
  rw [List.length_range] at hi
  exact⟨rfl,hi⟩
 have get: ∀ {i:Nat},i < rs.length->∃l,ml[i]? =some l:=λ {i} h=>⟨_,List.getElem?_eq_getElem (hl▸h)⟩
 refine sFor (qB (eP (rng _ rfl) (qOk (itR rfl (by lia)) ?_)))
 refine qMono (forGo (λi ρ H'=>H'=H/\∃x1 x4 x5 x6 x7,ρ=loC R M ce x1 x4 x5 x6 x7) (λv H'=>False) (λi v H' ρ hv hh=> ?_) (λ ρ H' hh=>stlN) _ 0 H _ (Nat.zero_add _) ⟨rfl,_,_,_,_,_,rfl⟩) λq H' hh=> ?_
 ·obtain⟨rfl,x1,x4,x5,x6,x7,rfl⟩:=hh
  have hv':=item hv
  obtain⟨rfl,hi⟩:=hv'
  obtain⟨l1,h1⟩:=get hi
  refine⟨curN hv,loC R M ce (some (.int (0 + (i:Int)))) x4 x5 x6 x7,rfl, ?_⟩
  refine sFor (qB (eP (rng _ rfl) (qOk (itR rfl (by lia)) ?_)))
  refine qMono (forGo (λj ρ H2=>H2=H'/\∃x4 x5 x6 x7,ρ=loC R M ce (some (.int (0 + (i:Int)))) x4 x5 x6 x7) (λv H'=>False) (λj v H2 ρ hv hh=> ?_) (λ ρ H' hh=>stlN) _ 0 H' _ (Nat.zero_add _) ⟨rfl,_,_,_,_,rfl⟩) λq H2 hh=> ?_
  ·obtain⟨rfl,x4,x5,x6,x7,rfl⟩:=hh
   have hv':=item hv
   obtain⟨rfl,hj⟩:=hv'
   obtain⟨l2,h2⟩:=get hj
   exact⟨curN hv,loC R M ce (some (.int (0 + (i:Int)))) (some (.int (0 + (j:Int)))) x5 x6 x7,rfl,body i j l1 l2 x5 x6 x7 _ h1 h2 λy5 y6 y7=>⟨rfl,_,_,_,_,rfl⟩⟩
  ·obtain⟨f,ρ'⟩:=q
   cases f with
   | rt v=>exact hh.elim
   | nx=>
    obtain⟨e,x4,x5,x6,x7,e2⟩:=hh
    have e2:ρ'=_:=e2
    subst e e2
    exact sNil ⟨rfl,_,_,_,_,_,rfl⟩
 ·obtain⟨f,ρ'⟩:=q
  cases f with
  | rt v=>exact hh.elim
  | nx=>
   obtain⟨e,x1,x4,x5,x6,x7,e2⟩:=hh
   have e2:ρ'=_:=e2
   subst e e2
   exact k _ _ _ _ _
theorem keyA {ρ:Lo}{l:Nat} (I:Iv rw_ ml H) (hl:l∈ml) (h:ρ.loc[1]? =some (some (.ref l))):Pi ⟨run (n + 20) (P9 is),P9 is,ρ,H⟩ (.e (.call (.glob (.fn 110)) [(.tup [(.attr (.loc 1) 21),(.attr (.loc 1) 41),(.attr (.loc 1) 33)])] [] []) (key (rw_ l))):=by
 have g:=I.at_ l hl
 exact p24 (p34 (p9 (p34 (p8 (p6 h) g rfl) (p34 (p8 (p6 h) g rfl) (p34 (p8 (p6 h) g rfl) p33)))) p33) (law_key (n:=n + 19) (r:=rw_ l) (I.ok l hl).d) rfl
theorem keyR {ρ:Lo}{r:Rw} (d:DOk r.d) (h:ρ.loc[1]? =some (some (rv r))):Pi ⟨run (n + 20) (P9 is),P9 is,ρ,H⟩ (.e (.call (.glob (.fn 110)) [(.loc 1)] [] []) (key r)):=p24 (p34 (p6 h) p33) (law_key (n:=n + 19) d) rfl
section
variable {ρ:Lo}{Q:V->Hp->Prop}
theorem lawD (hM:ρ.loc[3]? =some (some (.ref M))) (gM:H[M]? =some (.list (ml.map V.ref))) (I:Iv rw_ ml H) (hz:ml.length<=7)
 (k: ∀ (H':Hp) (l:Nat) (ls:List Nat),Keep [] H H'->ls.Perm ml->ls.Pairwise (λa b=>rlt (rw_ b) (rw_ a)=false)->H'[l]? =some (.list ((ls.map rw_).map key))->Q (.ref l) H') :
 wq (ev (run (n + 20) (P9 is)) (P9 is) (.comp 3 [] (.call (.glob (.fn 110)) [(.tup [(.attr (.loc 1) 21),(.attr (.loc 1) 41),(.attr (.loc 1) 33)])] [] []) (.n 1) (.call (.glob (.bi .sorted)) [(.loc 3)] [] []) []) ρ) H Q:=by
 obtain⟨ls,hp,hs,z⟩:=sort_iv (n:=n + 17) (is:=is) I (λk h=>h) (by lia)
 have K1:Keep [] H (H ++ [O.list (ls.map V.ref)]):=Keep.push
 have hl:ls.length<=7:=by rw [hp.length_eq];exact hz
 refine eComp (qB (eSort (p6 hM) rfl rfl (colL gM) z (qOk (itL rfl getN) ?_)))
 refine qMono (compMap (cel:=List.replicate 3 none) (N:=3) ls V.ref (λl=>key (rw_ l)) (by decide) (by lia) (λk e=>(Option.some.inj e)▸getN) (λa ha H' lc K h=>keyA ((I.keep K1 nofun).keep K nofun) (hp.mem_iff.mp ha) h) rfl rfl) λ_ H' h=>k H' _ ls (K1.trans h.1) hp hs ?_
 rw [List.map_map];exact h.2
theorem lawE (hR:ρ.loc[2]? =some (some (.ref R))) (gR:H[R]? =some (.list (rs.map rv))) (ok: ∀r∈rs,DOk r.d) (hz:rs.length<=7)
 (k: ∀ (H':Hp) (l:Nat) (rs':List Rw),Keep [] H H'->rs'.Perm rs->rs'.Pairwise (λa b=>rlt b a=false)->H'[l]? =some (.list (rs'.map key))->Q (.ref l) H') :
 wq (ev (run (n + 20) (P9 is)) (P9 is) (.call (.glob (.bi .sorted)) [(.comp 3 [] (.call (.glob (.fn 110)) [(.loc 1)] [] []) (.n 1) (.loc 2) [])] [] []) ρ) H Q:=by
 refine eCall1X (eComp (qB (eP (p6 hR) (qOk (itL rfl gR) ?_))))
 refine qMono (compMap (cel:=List.replicate 3 none) (N:=3) rs rv key (by decide) (by lia) (λk e=>(Option.some.inj e)▸gR) (λa ha H' lc K h=>keyR (ok a ha) h) rfl rfl) λ_ H' h=> ?_
 obtain⟨rs',hp,hs,z⟩:=sort_key (is:=is) (H:=H') (C:=run (n + 20) (P9 is)) ok (by lia)
 exact bSortX rfl rfl (colL h.2) z (k _ _ rs' (h.1.trans Keep.push) hp hs getN)
theorem lawF (hM:ρ.loc[3]? =some (some (.ref M))) (gM:H[M]? =some (.list (ml.map V.ref))) (I:Iv rw_ ml H) (hz:ml.length<=7)
 (k: ∀ (H':Hp) (l:Nat) (rs':List Rw),Keep [] H H'->rs'.Perm ((ml.foldl (ins rw_) []).map rw_)->rs'.Pairwise (λa b=>rlt b a=false)->H'[l]? =some (.list (rs'.map key))->Q (.ref l) H') :
 wq (ev (run (n + 20) (P9 is)) (P9 is) (.call (.glob (.bi .sorted)) [(.comp 3 [] (.call (.glob (.fn 110)) [(.tup [(.attr (.loc 1) 21),(.attr (.loc 1) 41),(.attr (.loc 1) 33)])] [] []) (.n 1) (.call (.glob (.cls 3)) [(.loc 3)] [] []) [])] [] []) ρ) H Q:=by
 refine eCall1X (eComp (qB (eMake (p34 (p6 hM) p33) rfl (qMono (tree_init (n:=n + 4) I (λk h=>h) hz gM) λv H1 h1=>⟨h1.1, ?_⟩))))
 obtain⟨_,K1,m,at_,g,ha,M1⟩:=h1
 obtain⟨q,gq,it⟩:=iter_tree (n:=n + 18) (is:=is) g ha M1
 have sub: ∀k∈ml.foldl (ins rw_) [],k∈ml:=λk hk=>(fold_sub ml hk).elim (λh=>nomatch h) id
 have len:(ml.foldl (ins rw_) []).length<=7:=by
  have:=fold_len (rw_:=rw_) ml (ms:= [])
  simp only [List.length_nil] at this
  lia
 refine qOk it ?_
 refine qMono (compMap (cel:=List.replicate 3 none) (N:=3) (ml.foldl (ins rw_) []) V.ref (λl=>key (rw_ l)) (by decide) (by lia) (λk e=>(Option.some.inj e)▸gq) (λa ha H' lc K h=>keyA ((I.keep K1 nofun).keep K nofun) (sub a ha) h) rfl rfl) λ_ H' h=> ?_
 have ok: ∀r∈(ml.foldl (ins rw_) []).map rw_,DOk r.d:=λr hr=>(List.mem_map.mp hr).elim λl hl=>hl.2▸(I.ok l (sub l hl.1)).d
 obtain⟨rs',hp,hs,z⟩:=sort_key (is:=is) (H:=H') (C:=run (n + 20) (P9 is)) ok (by rw [List.length_map];lia)
 refine bSortX rfl rfl (colL (vs:=((ml.foldl (ins rw_) []).map rw_).map key) ?_) z (k _ _ rs' ((K1.trans h.1).trans Keep.push) hp hs getN)
 rw [List.map_map];exact h.2
theorem lawG {l8:Nat}{r8:List Rw} (h8:ρ.loc[8]? =some (some (.ref l8))) (g8:H[l8]? =some (.list (r8.map key))) (ok: ∀r∈r8,DOk r.d) (hz:r8.length<=7)
 (k:Q (.ref H.length) (H ++ [.list ((isS (r8.foldl insR [])).map key)])) :
 wq (ev (run (n + 20) (P9 is)) (P9 is) (.call (.glob (.bi .sorted)) [(.call (.glob (.bi .set)) [(.loc 8)] [] [])] [] []) ρ) H Q:=by
 have nd:=insR_nd r8 (A:= []) List.nodup_nil
 have hlen: ∀ (l A:List Rw),(l.foldl insR A).length<=A.length + l.length:=by
  intro l
  induction l with
  | nil=>exact λA=>Nat.le_refl _
  | cons x l ih=>
   intro A
   refine Nat.le_trans (ih _) ?_
   have:(insR A x).length<=A.length + 1:=by
    unfold insR
    split
    ·lia
    ·rw [List.length_append];exact Nat.le_refl _
   rw [List.length_cons]
   lia
 have l7:=hlen r8 []
 rw [List.length_nil] at l7
 exact eCall1X (eCall1 (p6 h8) (bSetX rfl g8 ok (by lia) (bSortS rfl (λr hr=>(insR_sub r8 [] r hr).elim (λh=>nomatch h) (ok r)) nd.1 (by lia) k)))
end
end
section
variable {n:Nat}{is:List Int}{H:Hp}{D:CallT}{M:Nat}{ml:List Nat}{rw_:Nat->Rw}{Q:Fl × Lo->Hp->Prop}{r:List S}{p:Int}{ρ:Lo}
theorem points9 (hM:ρ.loc[3]? =some (some (.ref M))) (h9:ρ.loc[9]? =some (some (.int p))) (h5:5 < ρ.loc.length) (gM:H[M]? =some (.list (ml.map V.ref))) (I:Iv rw_ ml H)
 (k: ∀ρ',wq (exs (run (n + 20) (P9 is)) D (P9 is) r ρ') H Q) :
 wq (exs (run (n + 20) (P9 is)) D (P9 is) (.for_ (.n 5) (.loc 3) [.ite (.or (.cmp .NotEq (.meth (.loc 5) 26 [(.loc 9)] [] []) (.ite (.cmp .Lt (.attr (.loc 5) 21) (.loc 9)) (.neg (.int 1)) (.int 1))) (.cmp .NotEq (.cmp .Lt (.loc 5) (.loc 9)) (.cmp .Lt (.attr (.loc 5) 21) (.loc 9)))) [.ret (.bool false)] [], .ite (.cmp .NotEq (.cmp .Gt (.loc 5) (.loc 9)) (.cmp .GtE (.attr (.loc 5) 21) (.loc 9))) [.ret (.bool false)] []] :: r) ρ) H Q:=by
 refine sFor (qB (eP (p6 hM) (qOk (itL rfl gM) ?_)))
 refine qMono (forGo (λi ρ' H'=>H'=H/\ρ'.loc[9]? =some (some (.int p))/\5 < ρ'.loc.length) (λv H'=>False) (λi v H' ρ' hv hh=> ?_) (λ ρ' H' hh=>hh.1▸stlS gM) _ 0 H _ (Nat.zero_add _) ⟨rfl,h9,h5⟩) λq H' hh=> ?_
 ·obtain⟨rfl,h9,h5⟩:=hh
  have hv':=hv
  rw [List.getElem?_map] at hv'
  obtain⟨l,hl,rfl⟩:=Option.map_eq_some_iff.mp hv'
  have hlm:=List.mem_of_getElem? hl
  have g:=I.at_ l hlm
  have e5:(ρ'.loc.set 5 (some (V.ref l)))[5]? =some (some (V.ref l)):=List.getElem?_set_self h5
  have e9:(ρ'.loc.set 5 (some (V.ref l)))[9]? =some (some (.int p)):=by rw [List.getElem?_set_ne (by decide)];exact h9
  have lt9: ∀ {C:CallT},Pi ⟨C,P9 is,⟨ρ'.loc.set 5 (some (V.ref l)),ρ'.cel⟩,H'⟩ (.t (.cmp .Lt (.attr (.loc 5) 21) (.loc 9)) (decide ((rw_ l).b < p))):=p37 (p8 (p6 e5) g rfl) (p6 e9) p45
  have val:(if decide ((rw_ l).b < p)=true then V.int (-1) else V.int 1)= .int (if(rw_ l).b < p then -1 else 1):=by
   by_cases c:(rw_ l).b < p
   ·rw [if_pos c,if_pos (decide_eq_true c)]
   ·rw [if_neg c,if_neg λe=>c (of_decide_eq_true e)]
  have iff9: ∀ {C:CallT},Pi ⟨C,P9 is,⟨ρ'.loc.set 5 (some (V.ref l)),ρ'.cel⟩,H'⟩ (.e (.ite (.cmp .Lt (.attr (.loc 5) 21) (.loc 9)) (.neg (.int 1)) (.int 1)) (.int (if(rw_ l).b < p then -1 else 1))):=λ {C}=>val▸pIfB lt9 p13 p3
  have t1:(!decide ((if(rw_ l).b < p then(-1:Int) else 1)=(if(rw_ l).b < p then -1 else 1)) || !(decide ((rw_ l).b < p) == decide ((rw_ l).b < p)))=false:=by rw [decide_eq_true rfl,beq_self_eq_true];rfl
  have t2:(!(decide (p<=(rw_ l).b) == decide (p<=(rw_ l).b)))=false:=by rw [beq_self_eq_true];rfl
  refine⟨curS gM hv,⟨ρ'.loc.set 5 (some (V.ref l)),ρ'.cel⟩,rfl, ?_⟩
  refine sIfF (t1▸p38 (p37 (p23 (p6 e5) g rfl (p34 (p6 e9) p33) (iv_cmpP (n:=n + 19) g) rfl) iff9 p50) (p37 (pLtI false (p6 e5) (p6 e9) g rfl (.inr rfl) rfl (iv_ltP (n:=n + 18) g)) (p15 (p8 (p6 e5) g rfl) (p6 e9) p45) p52)) (sCat0 ?_)
  refine sIfF (t2▸p37 (pLtI true (p6 e5) (p6 e9) g rfl (.inr rfl) rfl (iv_gtP (n:=n + 18) g)) (p15 (p8 (p6 e5) g rfl) (p6 e9) p48) p52) (sCat0 (sNil ⟨rfl,e9,by rw [List.length_set];exact h5⟩))
 ·obtain⟨f,ρ'⟩:=q
  cases f with
  | rt v=>exact hh.elim
  | nx=>
   have e:H'=H:=hh.1
   subst e
   exact k ρ'
end
theorem main9 (is:List Int): ∃H',run 21 (P9 is) 112 [] [.scr] [] []= .ok (.bool true) H':=by
 suffices h:wq (run 21 (P9 is) 112 [] [.scr] []) [] λv _=>v= .bool true by
  obtain⟨v,H',e,rfl⟩:=qEx h
  exact⟨H',e⟩
 have len:=rows_len (is:=is)
 have n7:=(num_le is).2
 have ok: ∀r∈rows9 is,RwOK r:=λr hr=>rows_ok hr
 refine qRun (ρ:=⟨List.replicate 18 none,(List.replicate 18 none).set 0 (some 0)⟩) (H1:= [.cell (some .scr)]) rfl rfl rfl λDd=> ?_
 refine sAsg (lawA (n:=18) (c:=0) rfl rfl λH1 K1 g1=> ?_)
 refine sAsg (lawB (n:=18) (rs:=rows9 is) rfl g1 ok (by lia) λH2 rw_ ml K2 g2 hm I2=> ?_)
 have hl:ml.length=(rows9 is).length:=by rw [<- hm,List.length_map]
 have gR:=K2 _ _ nofun g1
 show wq (exs _ _ _ _ (loC _ _ ((List.replicate 18 none).set 0 (some 0)) none none none none none)) H2 _
 refine pairs9 (n:=0) gR hl (by lia) (λi j l1 l2 x5 x6 x7 Q h1 h2 k=>pair9 (n:=0) gR g2 hm I2 h1 h2 (sNil (k _ _ _))) λx1 x4 x5 x6 x7=> ?_
 refine sAsg (lawD (n:=0) rfl g2 I2 (by lia) λH3 l8 ls K3 hp hs g8=> ?_)
 have I3:=I2.keep K3 nofun
 have hp2:(ls.map rw_).Perm (rows9 is):=hm▸hp.map rw_
 have ok3: ∀r∈ls.map rw_,DOk r.d:=λr hr=>(ok r (hp2.mem_iff.mp hr)).d
 have asc3:(ls.map rw_).Pairwise λa b=>rlt b a=false:=List.pairwise_map.mpr hs
 refine sIfX (tCmpX (eP (p6 rfl) (lawE (n:=0) (rs:=rows9 is) rfl (K3 _ _ nofun gR) (λr hr=>(ok r hr).d) (by lia) λH4 l rs' K4 hp4 hs4 g4=> ?_)))
 have same4:(ls.map rw_).map key=rs'.map key:=sorted_eq ((hp2.trans hp4.symm).map kl) asc3 hs4
 have g84:=K4 _ _ nofun g8
 refine⟨_,neL (r:=true) g84 g4 (by rw [<- same4];exact peqL_key ok3),rfl,sCat0 ?_⟩
 have I4:=I3.keep K4 nofun
 refine sIfX (tCmpX (lawF (n:=0) rfl (K4 _ _ nofun (K3 _ _ nofun g2)) I4 (by lia) λH5 l5 rs5 K5 hp5 hs5 g5=> ?_))
 have g85:=K5 _ _ nofun g84
 refine lawG (n:=0) (r8:=ls.map rw_) rfl g85 ok3 (by rw [List.length_map,hp.length_eq];lia) ?_
 have nd1:=insR_nd (ml.map rw_) (A:= []) List.nodup_nil
 have nd2:=insR_nd (ls.map rw_) (A:= []) List.nodup_nil
 rw [ins_rows] at hp5
 have mem: ∀x,x∈(((ml.map rw_).foldl insR []).map kl) ↔ x∈(((ls.map rw_).foldl insR []).map kl):=λx=>by
  rw [nd1.2,nd2.2]
  refine or_congr_right ?_
  have q:=((hp.map rw_).map kl).mem_iff (a:=x)
  exact q.symm
 have pm:(rs5.map kl).Perm ((isS ((ls.map rw_).foldl insR [])).map kl):=(hp5.map kl).trans (((List.perm_ext_iff_of_nodup nd1.1 nd2.1).mpr mem).trans ((isS_perm _).map kl).symm)
 have same5:rs5.map key=(isS ((ls.map rw_).foldl insR [])).map key:=sorted_eq pm hs5 (isS_asc _)
 have ok5: ∀r∈rs5,DOk r.d:=λr hr=>(insR_sub _ [] r (hp5.mem_iff.mp hr)).elim (λh=>nomatch h) λh=>(ok r (hm▸h)).d
 refine⟨_,neL (r:=true) (getP g5) getN (by rw [<- same5];exact peqL_key ok5),rfl,sCat0 ?_⟩
 have c0:(H5 ++ [O.list ((isS ((ls.map rw_).foldl insR [])).map key)])[0]? =some (.cell (some .scr)):=getP (K5 _ _ nofun (K4 _ _ nofun (K3 _ _ nofun (K2 _ _ nofun (K1 _ _ nofun rfl)))))
 refine sAsgN (p12 (p24 (p34 (p7 rfl c0) (p34 p3 p33)) (law_at (n:=19) (k:=2)) rfl) p3 (by decide)) ?_
 refine points9 (n:=0) rfl rfl (by show 5 < 18;decide) (getP (K5 _ _ nofun (K4 _ _ nofun (K3 _ _ nofun g2)))) ((I4.keep K5 nofun).keep (Keep.push (X:= [])) nofun) λ ρ'=> ?_
 exact sRetP p2 rfl
end Mini
theorem PySem.Challenge.cw_ji0043_09_holds : PySem.Challenge.rw_ji0043_09.Holds :=
 Mini.law9 λis _=>let ⟨H,h⟩:=Mini.main9 is;⟨20,H,by decide,h⟩
