import PyProof.Rows.All
import PyProof.ForAny
import PyProof.StrLawsReplace
import OpenK.KWalk
import OpenK.KOwn
import OpenK.KCls
import OpenK.KRaise
import OpenK.TopRead
import Open.FastT9
import Open.Line
import OpenK.KMake
import Wide.FinOn
import Wide.Built
import KE.KSetDisp
import PyProof.LetGo
import PyProof.IsRules
import PyProof.StrCalls5
import PyProof.StrCalls6
import PyProof.DictTable
import ObjForm.LawKit
import KE.KDictList
import PySem.Challenge.RW_ai0038_02

set_option Elab.async false
set_option backward.match.sparseCases false
namespace Mine.Ly
set_option genInjectivity false
set_option genSizeOf false
inductive LT where
  | v (i:Nat) | n (k:Nat) | a (x y:LT) | s (x y:LT) | g (x:LT) | c (x:LT) | t (x:LT) | m (x y:LT) | k (k:Nat) (x:LT)
inductive LF where
  | le (b:Bool) (x y:LT) | lt (b:Bool) (x y:LT) | eq (b:Bool) (x y:LT) | no (f:LF) | an (f g:LF) | or (f g:LF) | im (f g:LF)
noncomputable def LT.den (ns:List Nat) (zs:List Int) (t:LT):Nat × Int:=
  LT.rec (motive:=fun _=>Nat × Int) (fun i=>(ns.getD i 0,zs.getD i 0)) (fun k=>(k,Int.ofNat k)) (fun _ _ p q=>(p.1+q.1,p.2+q.2)) (fun _ _ p q=>(p.1 - q.1,p.2 - q.2))
    (fun _ p=>(0,-p.2)) (fun _ p=>(p.1,Int.ofNat p.1)) (fun _ p=>(p.2.toNat,Int.ofNat p.2.toNat)) (fun _ _ p q=>(min p.1 q.1,min p.2 q.2)) (fun k _ p=>(k * p.1,Int.ofNat k * p.2)) t
noncomputable def LF.den (ns:List Nat) (zs:List Int) (f:LF):Prop:=
  LF.rec (motive:=fun _=>Prop) (fun b x y=>bif b then (x.den ns zs).1≤(y.den ns zs).1 else (x.den ns zs).2≤(y.den ns zs).2) (fun b x y=>bif b then (x.den ns zs).1 < (y.den ns zs).1 else (x.den ns zs).2 < (y.den ns zs).2)
    (fun b x y=>bif b then (x.den ns zs).1=(y.den ns zs).1 else (x.den ns zs).2=(y.den ns zs).2) (fun _ p=>¬ p) (fun _ _ p q=>p∧q) (fun _ _ p q=>p∨q) (fun _ _ p q=>p→q) f
noncomputable abbrev LP:=Int × List Int
noncomputable def evL (l:List Int):(Nat→Int)→Int:=List.rec (motive:=fun _=>(Nat→Int)→Int) (fun _=>0) (fun x _ ih E=>x * E 0+ih fun i=>E (i+1)) l
noncomputable def evP (p:LP) (E:Nat→Int):Int:=p.1+evL p.2 E
noncomputable def scL (a:Int) (l:List Int):List Int:=List.rec (motive:=fun _=>List Int) [] (fun x _ ih=>(a * x)::ih) l
noncomputable def adL (l:List Int):List Int→List Int:=List.rec (motive:=fun _=>List Int→List Int) (fun m=>m) (fun x l ih m=>List.rec (motive:=fun _=>List Int) (x::l) (fun y m _=>(x+y)::ih m) m) l
noncomputable def cmb (a:Int) (p:LP) (b:Int) (q:LP) (c:Int):LP:=(a * p.1+b * q.1+c,adL (scL a p.2) (scL b q.2))
theorem evL_sc (a:Int) (l:List Int):∀ E,evL (scL a l) E=a * evL l E:=by
  induction l with
  | nil=>exact fun E=>(Int.mul_zero a).symm
  | cons x l ih=>exact fun E=>(congr (congrArg (·+·) (Int.mul_assoc a x (E 0))) (ih _)).trans (Int.mul_add a _ _).symm
theorem ad4 (a b c d:Int):a+b+(c+d)=(a+c)+(b+d):=by lia
theorem evL_ad (l:List Int):∀ m E,evL (adL l m) E=evL l E+evL m E:=by
  induction l with
  | nil=>exact fun m E=>(Int.zero_add _).symm
  | cons x l ih=>
    intro m E
    cases m with
    | nil=>exact (Int.add_zero _).symm
    | cons y m=>
      show (x+y) * E 0+evL (adL l m) _=_
      rw [ih m,Int.add_mul]
      exact ad4 _ _ _ _
theorem ev_cmb (a:Int) (p:LP) (b:Int) (q:LP) (c:Int) (E:Nat→Int):evP (cmb a p b q c) E=a * evP p E+b * evP q E+c:=by
  show a * p.1+b * q.1+c+evL (adL (scL a p.2) (scL b q.2)) E=a * (p.1+evL p.2 E)+b * (q.1+evL q.2 E)+c
  rw [evL_ad,evL_sc,evL_sc]
  lia
noncomputable def Hold (cs:List LP) (E:Nat→Int):Prop:=∀ p∈cs,0≤evP p E
noncomputable def hdP (p:LP):Int:=p.2.headD 0
noncomputable def tlP (p:LP):LP:=(p.1,p.2.tail)
theorem ev_tl (p:LP) (E:Nat→Int):evP p E=hdP p * E 0+evP (tlP p) fun i=>E (i+1):=by
  obtain ⟨c,l⟩:=p
  cases l with
  | nil=>exact (congrArg (·+_) (Int.zero_mul _)).symm▸(Int.zero_add _).symm
  | cons x l=>exact Int.add_left_comm _ _ _
noncomputable def ng (a:Int):Bool:=Int.rec (fun _=>false) (fun _=>true) a
theorem ng_lt {a:Int}:ng a=true→a < 0:=Int.rec (motive:=fun a=>ng a=true→a < 0) (fun _ h=>(Bool.false_ne_true h).elim) (fun n _=>Int.negSucc_lt_zero n) a
theorem ng_ge {a:Int}:ng a=false→0≤a:=Int.rec (motive:=fun a=>ng a=false→0≤a) (fun n _=>Int.natCast_nonneg n) (fun _ h=>(Bool.false_ne_true h.symm).elim) a
noncomputable def ps (a:Int):Bool:=Int.rec (fun n=>Nat.rec false (fun _ _=>true) n) (fun _=>false) a
theorem ps_gt {a:Int}:ps a=true→0 < a:=Int.rec (motive:=fun a=>ps a=true→0 < a) (fun n=>Nat.rec (motive:=fun n=>ps (Int.ofNat n)=true→0 < Int.ofNat n) (fun h=>(Bool.false_ne_true h).elim) (fun n _ _=>Int.natCast_pos.mpr n.succ_pos) n) (fun _ h=>(Bool.false_ne_true h).elim) a
theorem ps_le {a:Int}:ps a=false→a≤0:=Int.rec (motive:=fun a=>ps a=false→a≤0) (fun n=>Nat.rec (motive:=fun n=>ps (Int.ofNat n)=false→Int.ofNat n≤0) (fun _=>Int.le_refl 0) (fun n _ h=>(Bool.false_ne_true h.symm).elim) n) (fun n _=>Int.le_of_lt (Int.negSucc_lt_zero n)) a
noncomputable def el1 (p:LP) (q:LP):List LP:=bif ng (hdP q) then [cmb (-hdP q) (tlP p) (hdP p) (tlP q) 0] else []
noncomputable def elim (cs:List LP):List LP:=cs.flatMap fun p=>bif ps (hdP p) then cs.flatMap (el1 p) else bif ng (hdP p) then [] else [tlP p]
theorem and2 {a b:Bool} (h:(a&&b)=true):a=true∧b=true:=Bool.and_eq_true_iff.mp h
theorem mul_out (a b e:Int):-b * (a * e)+a * (b * e)=0:=by
  rw [← Int.mul_assoc,← Int.mul_assoc,← Int.add_mul,Int.neg_mul,Int.mul_comm b a,Int.add_left_neg,Int.zero_mul]
theorem el1_num {a b e u v:Int} (hb:b < 0) (ha:0 < a) (hp:0≤a * e+u) (hq:0≤b * e+v):0≤-b * u+a * v+0:=by
  have h3:=Int.add_nonneg (Int.mul_nonneg (Int.neg_nonneg_of_nonpos (Int.le_of_lt hb)) hp) (Int.mul_nonneg (Int.le_of_lt ha) hq)
  rw [Int.mul_add,Int.mul_add,ad4,mul_out,Int.zero_add] at h3
  exact (Int.add_zero _).symm▸h3
theorem el1_ok {p q:LP} {E:Nat→Int} (g:ps (hdP p)=true) (hp:0≤evP p E) (hq:0≤evP q E):Hold (el1 p q) fun i=>E (i+1):=by
  intro r
  unfold el1
  cases h:ng (hdP q)
  · exact fun hr=>absurd hr List.not_mem_nil
  · intro hr
    rw [List.mem_singleton.mp hr,ev_cmb]
    exact el1_num (ng_lt h) (ps_gt g) (ev_tl p E▸hp) (ev_tl q E▸hq)
theorem elim_ok {cs:List LP} {E:Nat→Int} (h:Hold cs E):Hold (elim cs) fun i=>E (i+1):=by
  intro r hr
  obtain ⟨p,hp,hr⟩:=List.mem_flatMap.mp hr
  cases h1:ps (hdP p) with
  | true=>
    rw [h1] at hr
    obtain ⟨q,hq,hr⟩:=List.mem_flatMap.mp hr
    exact el1_ok h1 (h p hp) (h q hq) r hr
  | false=>
    cases h2:ng (hdP p) with
    | true=>rw [h1,h2] at hr;exact absurd hr List.not_mem_nil
    | false=>
      rw [h1,h2] at hr
      have hp:=h p hp
      rw [ev_tl,Int.le_antisymm (ps_le h1) (ng_ge h2),Int.zero_mul,Int.zero_add] at hp
      exact List.mem_singleton.mp hr▸hp
noncomputable def bad (p:LP):Bool:=p.2.isEmpty&&ng p.1
theorem bad_ok {p:LP} {E:Nat→Int} (hp:0≤evP p E) (h:bad p=true):False:=by
  have e:evP p E=p.1:=by unfold evP;rw [List.isEmpty_iff.mp (and2 h).1];exact Int.add_zero _
  exact Int.not_lt.mpr hp (e▸ng_lt (and2 h).2)
noncomputable def fm (n:Nat):List LP→Bool:=Nat.rec (motive:=fun _=>List LP→Bool) (fun cs=>cs.any bad) (fun _ ih cs=>ih (elim cs)) n
theorem fm_ok (n:Nat):∀ cs E,Hold cs E→fm n cs=true→False:=by
  induction n with
  | zero=>
    intro cs E h q
    obtain ⟨p,hp,q⟩:=List.any_eq_true.mp q
    exact bad_ok (h p hp) q
  | succ n ih=>exact fun cs E h q=>ih _ _ (elim_ok h) q
noncomputable def envL (ns:List Nat) (zs:List Int) (i:Nat):Int:=bif i.testBit 0 then zs.getD (i / 2) 0 else Int.ofNat (ns.getD (i / 2) 0)
noncomputable def unit (i:Nat):LP:=(0,Nat.rec (motive:=fun _=>List Int) [1] (fun _ ih=>0::ih) i)
noncomputable abbrev LK:=List LP→Bool
noncomputable def rfT (t:LT):Bool→List LP→(LP→LK)→Bool:=
  LT.rec (motive:=fun _=>Bool→List LP→(LP→LK)→Bool) (fun i s cs k=>k (unit (bif s then 2 * i else 2 * i+1)) cs) (fun n _ cs k=>k (Int.ofNat n,[]) cs)
    (fun _ _ p q s cs k=>p s cs fun x cs=>q s cs fun y cs=>k (cmb 1 x 1 y 0) cs)
    (fun _ _ p q s cs k=>p s cs fun x cs=>q s cs fun y cs=>bif s then k (cmb 1 x (-1) y 0) (cmb 1 x (-1) y 0::cs)&&k (0,[]) (cmb 1 y (-1) x (-1)::cs) else k (cmb 1 x (-1) y 0) cs)
    (fun _ p s cs k=>bif s then k (0,[]) cs else p false cs fun x cs=>k (cmb (-1) x 0 x 0) cs)
    (fun _ p _ cs k=>p true cs k)
    (fun _ p _ cs k=>p false cs fun x cs=>k x (x::cs)&&k (0,[]) (cmb (-1) x 0 x (-1)::cs))
    (fun _ _ p q s cs k=>p s cs fun x cs=>q s cs fun y cs=>k x (cmb 1 y (-1) x 0::cs)&&k y (cmb 1 x (-1) y (-1)::cs))
    (fun n _ p s cs k=>p s cs fun x cs=>k (cmb (.ofNat n) x 0 x 0) cs) t
noncomputable def vlT (ns:List Nat) (zs:List Int) (s:Bool) (t:LT):Int:=bif s then Int.ofNat (t.den ns zs).1 else (t.den ns zs).2
noncomputable def SndT (ns:List Nat) (zs:List Int) (t:LT):Prop:=∀ s cs k,Hold cs (envL ns zs)→rfT t s cs k=true→(∀ p cs,Hold cs (envL ns zs)→evP p (envL ns zs)=vlT ns zs s t→k p cs=true→False)→False
theorem hold_cons {p:LP} {cs:List LP} {E:Nat→Int} (h:0≤evP p E) (hc:Hold cs E):Hold (p::cs) E:=fun q hq=>(List.mem_cons.mp hq).elim (fun e=>e▸h) (hc q)
theorem ev_unit (i:Nat):∀ E,evP (unit i) E=E i:=by
  induction i with
  | zero=>exact fun E=>(Int.zero_add _).trans ((Int.add_zero _).trans (Int.one_mul _))
  | succ i ih=>exact fun E=>((congrArg (0+·) ((congrArg (·+_) (Int.zero_mul _)).trans (Int.zero_add _))).trans (ih fun j=>E (j+1)))
theorem env_n (ns:List Nat) (zs:List Int) (i:Nat):envL ns zs (2 * i)=Int.ofNat (ns.getD i 0):=by
  have h:(2 * i).testBit 0=false:=by simp
  unfold envL;rw [h,Nat.mul_div_cancel_left i (by decide)];rfl
theorem env_z (ns:List Nat) (zs:List Int) (i:Nat):envL ns zs (2 * i+1)=zs.getD i 0:=by
  have h:(2 * i+1).testBit 0=true:=by simp
  unfold envL;rw [h,show (2 * i+1) / 2=i by lia];rfl
section
variable {ns:List Nat} {zs:List Int}
theorem sn_v (i:Nat):SndT ns zs (.v i):=fun s cs k hc h K=>K _ _ hc (by
  cases s
  · exact (ev_unit _ _).trans (env_z ns zs i)
  · exact (ev_unit _ _).trans (env_n ns zs i)) h
theorem ev_num (c:Int) (E:Nat→Int):evP (c,[]) E=c:=Int.add_zero c
theorem sn_a {x y:LT} (hx:SndT ns zs x) (hy:SndT ns zs y):SndT ns zs (.a x y):=fun s cs k hc h K=>hx _ _ _ hc h fun p cs hc e h=>hy _ _ _ hc h fun q cs hc e' h=>K _ _ hc (by
  rw [ev_cmb,e,e']
  cases s
  · show 1 * (x.den ns zs).2+1 * (y.den ns zs).2+0=(x.den ns zs).2+(y.den ns zs).2
    lia
  · show 1 * ((x.den ns zs).1:Int)+1 * ((y.den ns zs).1:Int)+0=(((x.den ns zs).1+(y.den ns zs).1:Nat):Int)
    lia) h
theorem ly_sub (a b:Nat) (h:0≤1 * (a:Int)+(-1) * (b:Int)+0):1 * (a:Int)+(-1) * (b:Int)+0=((a - b:Nat):Int):=by lia
theorem ly_sub0 (a b:Nat) (h:¬ 0≤1 * (a:Int)+(-1) * (b:Int)+0):0≤1 * (b:Int)+(-1) * (a:Int)+(-1)∧0=((a - b:Nat):Int):=by lia
theorem sn_s {x y:LT} (hx:SndT ns zs x) (hy:SndT ns zs y):SndT ns zs (.s x y):=fun s cs k hc h K=>hx _ _ _ hc h fun p cs hc e h=>hy _ _ _ hc h fun q cs hc e' h=>by
  cases s
  · refine K _ _ hc ?_ h
    rw [ev_cmb,e,e']
    show 1 * (x.den ns zs).2+(-1) * (y.den ns zs).2+0=(x.den ns zs).2 - (y.den ns zs).2
    lia
  · obtain ⟨h1,h2⟩:=and2 h
    have d:=ev_cmb 1 p (-1) q 0 (envL ns zs)
    rw [e,e'] at d
    rcases Decidable.em (0≤1 * vlT ns zs true x+(-1) * vlT ns zs true y+0) with g | g
    · exact K _ _ (hold_cons (d▸g) hc) (d.trans (ly_sub _ _ g)) h1
    · have d:=ev_cmb 1 q (-1) p (-1) (envL ns zs)
      rw [e,e'] at d
      exact K _ _ (hold_cons (d▸(ly_sub0 _ _ g).1) hc) ((ev_num _ _).trans (ly_sub0 _ _ g).2) h2
theorem neg_is (a b:Int):-1 * a+0 * b+0=-a:=by lia
theorem neg_is1 (a b:Int) (h:¬ 0≤a):0≤-1 * a+0 * b+-1:=by lia
theorem sn_g {x:LT} (hx:SndT ns zs x):SndT ns zs (.g x):=fun s cs k hc h K=>by
  cases s
  · exact hx _ _ _ hc h fun p cs hc e h=>K _ _ hc ((ev_cmb _ _ _ _ _ _).trans ((neg_is _ _).trans (congrArg (- ·) e))) h
  · exact K _ _ hc (ev_num _ _) h
theorem sn_c {x:LT} (hx:SndT ns zs x):SndT ns zs (.c x):=fun s cs k hc h K=>hx _ _ _ hc h fun p cs hc e h=>K _ _ hc (by cases s<;>exact e) h
theorem sn_t {x:LT} (hx:SndT ns zs x):SndT ns zs (.t x):=fun s cs k hc h K=>hx _ _ _ hc h fun p cs hc e h=>by
  obtain ⟨h1,h2⟩:=and2 h
  have e:evP p (envL ns zs)=(x.den ns zs).2:=e
  have v:vlT ns zs s (.t x)=Int.ofNat (x.den ns zs).2.toNat:=by cases s<;>rfl
  rcases Decidable.em (0≤evP p (envL ns zs)) with g | g
  · exact K _ _ (hold_cons g hc) (by rw [v,← e];exact (Int.toNat_of_nonneg g).symm) h1
  · exact K _ _ (hold_cons (by rw [ev_cmb];exact neg_is1 _ _ g) hc) (by rw [v,← e,Int.toNat_of_nonpos (Int.le_of_lt (Int.not_le.mp g))];exact ev_num _ _) h2
theorem ly_le (a b:Int) (h:a≤b):0≤1 * b+(-1) * a+0:=by lia
theorem ly_gt (a b:Int) (h:¬ a≤b):0≤1 * a+(-1) * b+(-1):=by lia
theorem min_c (a b:Nat):((min a b:Nat):Int)=if (a:Int)≤b then (a:Int) else b:=by
  rw [Nat.min_def]
  by_cases h:a≤b
  · rw [if_pos h,if_pos (Int.ofNat_le.mpr h)]
  · rw [if_neg h,if_neg fun g=>h (Int.ofNat_le.mp g)]
theorem vl_min (s:Bool) (x y:LT):vlT ns zs s (.m x y)=if vlT ns zs s x≤vlT ns zs s y then vlT ns zs s x else vlT ns zs s y:=by
  cases s
  · exact Int.min_def _ _
  · exact min_c _ _
theorem sn_m {x y:LT} (hx:SndT ns zs x) (hy:SndT ns zs y):SndT ns zs (.m x y):=fun s cs k hc h K=>hx _ _ _ hc h fun p cs hc e h=>hy _ _ _ hc h fun q cs hc e' h=>by
  obtain ⟨h1,h2⟩:=and2 h
  rcases Decidable.em (evP p (envL ns zs)≤evP q (envL ns zs)) with g | g
  · exact K _ _ (hold_cons (by rw [ev_cmb];exact ly_le _ _ g) hc) (by rw [vl_min,← e,← e',if_pos g]) h1
  · exact K _ _ (hold_cons (by rw [ev_cmb];exact ly_gt _ _ g) hc) (by rw [vl_min,← e,← e',if_neg g]) h2
theorem mul_is (k a b:Int):k * a+0 * b+0=k * a:=by rw [Int.zero_mul];exact (Int.add_zero _).trans (Int.add_zero _)
theorem sn_k {x:LT} (n:Nat) (hx:SndT ns zs x):SndT ns zs (.k n x):=fun s cs k hc h K=>hx _ _ _ hc h fun p cs hc e h=>K _ _ hc (by
  rw [ev_cmb,mul_is,e]
  cases s
  · rfl
  · exact (Int.natCast_mul _ _).symm) h
theorem snd (t:LT):SndT ns zs t:=LT.rec sn_v (fun n s cs k hc h K=>K _ _ hc ((ev_num _ _).trans (by cases s<;>rfl)) h) (fun _ _=>sn_a) (fun _ _=>sn_s) (fun _=>sn_g) (fun _=>sn_c) (fun _=>sn_t) (fun _ _=>sn_m) (fun n _=>sn_k n) t
noncomputable def rf2 (b:Bool) (x y:LT) (cs:List LP) (k:LP→LP→LK):Bool:=rfT x b cs fun p cs=>rfT y b cs fun q cs=>k p q cs
theorem rf2_ok {b:Bool} {x y:LT} {cs:List LP} {k:LP→LP→LK} (hc:Hold cs (envL ns zs)) (h:rf2 b x y cs k=true) (K:∀ p q cs,Hold cs (envL ns zs)→evP p (envL ns zs)=vlT ns zs b x→evP q (envL ns zs)=vlT ns zs b y→k p q cs=true→False):False:=
  snd x _ _ _ hc h fun _ _ hc e h=>snd y _ _ _ hc h fun _ _ hc e' h=>K _ _ _ hc e e' h
noncomputable def rfF (f:LF):Bool→List LP→LK→Bool:=LF.rec (motive:=fun _=>Bool→List LP→LK→Bool)
  (fun b x y s cs k=>rf2 b x y cs fun p q cs=>k ((bif s then cmb 1 q (-1) p 0 else cmb 1 p (-1) q (-1))::cs))
  (fun b x y s cs k=>rf2 b x y cs fun p q cs=>k ((bif s then cmb 1 q (-1) p (-1) else cmb 1 p (-1) q 0)::cs))
  (fun b x y s cs k=>rf2 b x y cs fun p q cs=>bif s then k (cmb 1 p (-1) q 0::cmb 1 q (-1) p 0::cs) else k (cmb 1 q (-1) p (-1)::cs)&&k (cmb 1 p (-1) q (-1)::cs))
  (fun _ f s cs k=>f (!s) cs k)
  (fun _ _ f g s cs k=>bif s then f true cs fun cs=>g true cs k else f false cs k&&g false cs k)
  (fun _ _ f g s cs k=>bif s then f true cs k&&g true cs k else f false cs fun cs=>g false cs k)
  (fun _ _ f g s cs k=>bif s then f false cs k&&g true cs k else f true cs fun cs=>g false cs k) f
noncomputable def SndF (ns:List Nat) (zs:List Int) (f:LF):Prop:=∀ s cs k,Hold cs (envL ns zs)→(bif s then f.den ns zs else ¬ f.den ns zs)→rfF f s cs k=true→(∀ cs,Hold cs (envL ns zs)→k cs=true→False)→False
theorem vl_le {b:Bool} {x y:LT}:(LF.le b x y).den ns zs↔vlT ns zs b x≤vlT ns zs b y:=by
  cases b
  · exact Iff.rfl
  · exact Int.ofNat_le.symm
theorem vl_lt {b:Bool} {x y:LT}:(LF.lt b x y).den ns zs↔vlT ns zs b x < vlT ns zs b y:=by
  cases b
  · exact Iff.rfl
  · exact Int.ofNat_lt.symm
theorem vl_eq {b:Bool} {x y:LT}:(LF.eq b x y).den ns zs↔vlT ns zs b x=vlT ns zs b y:=by
  cases b
  · exact Iff.rfl
  · exact Int.ofNat_inj.symm
theorem sf_le (b:Bool) (x y:LT):SndF ns zs (.le b x y):=fun s cs k hc d h K=>rf2_ok hc h fun p q cs hc e e' h=>K _ (hold_cons (by
  cases s
  · have d:=(not_congr vl_le).mp d
    rw [← e,← e'] at d
    show 0≤evP (cmb _ _ _ _ _) _
    rw [ev_cmb];exact ly_gt _ _ d
  · have d:=vl_le.mp d
    rw [← e,← e'] at d
    show 0≤evP (cmb _ _ _ _ _) _
    rw [ev_cmb];exact ly_le _ _ d) hc) h
theorem sf_lt (b:Bool) (x y:LT):SndF ns zs (.lt b x y):=fun s cs k hc d h K=>rf2_ok hc h fun p q cs hc e e' h=>K _ (hold_cons (by
  cases s
  · have d:=(not_congr vl_lt).mp d
    rw [← e,← e'] at d
    show 0≤evP (cmb _ _ _ _ _) _
    rw [ev_cmb];exact ly_le _ _ (Int.not_lt.mp d)
  · have d:=vl_lt.mp d
    rw [← e,← e'] at d
    show 0≤evP (cmb _ _ _ _ _) _
    rw [ev_cmb];exact ly_gt _ _ (Int.not_le.mpr d)) hc) h
theorem sf_eq (b:Bool) (x y:LT):SndF ns zs (.eq b x y):=fun s cs k hc d h K=>rf2_ok hc h fun p q cs hc e e' h=>by
  have c (a b:Int) (u v:LP):=ev_cmb 1 u (-1) v a (envL ns zs)
  cases s
  · have d:=(not_congr vl_eq).mp d
    rw [← e,← e'] at d
    obtain ⟨h1,h2⟩:=and2 h
    rcases Int.lt_or_gt_of_ne d with g | g
    · exact K _ (hold_cons ((c _ 0 _ _).symm▸ly_gt _ _ (Int.not_le.mpr g)) hc) h1
    · exact K _ (hold_cons ((c _ 0 _ _).symm▸ly_gt _ _ (Int.not_le.mpr g)) hc) h2
  · have d:=vl_eq.mp d
    rw [← e,← e'] at d
    exact K _ (hold_cons ((c _ 0 _ _).symm▸ly_le _ _ (Int.le_of_eq d.symm)) (hold_cons ((c _ 0 _ _).symm▸ly_le _ _ (Int.le_of_eq d)) hc)) h
theorem sf_no (f:LF) (hf:SndF ns zs f):SndF ns zs (.no f):=fun s cs k hc d h K=>hf (!s) cs k hc (by
  cases s
  · exact Classical.not_not.mp d
  · exact d) h K
theorem sf_an (f g:LF) (hf:SndF ns zs f) (hg:SndF ns zs g):SndF ns zs (.an f g):=fun s cs k hc d h K=>by
  cases s
  · obtain ⟨h1,h2⟩:=and2 h
    rcases Classical.not_and_iff_not_or_not.mp d with d | d
    · exact hf false _ _ hc d h1 K
    · exact hg false _ _ hc d h2 K
  · exact hf true _ _ hc d.1 h fun cs hc h=>hg true _ _ hc d.2 h K
theorem sf_or (f g:LF) (hf:SndF ns zs f) (hg:SndF ns zs g):SndF ns zs (.or f g):=fun s cs k hc d h K=>by
  cases s
  · exact hf false _ _ hc (fun x=>d (.inl x)) h fun cs hc h=>hg false _ _ hc (fun x=>d (.inr x)) h K
  · obtain ⟨h1,h2⟩:=and2 h
    rcases d with d | d
    · exact hf true _ _ hc d h1 K
    · exact hg true _ _ hc d h2 K
theorem sf_im (f g:LF) (hf:SndF ns zs f) (hg:SndF ns zs g):SndF ns zs (.im f g):=fun s cs k hc d h K=>by
  cases s
  · exact hf true _ _ hc (Classical.not_imp.mp d).1 h fun cs hc h=>hg false _ _ hc (Classical.not_imp.mp d).2 h K
  · obtain ⟨h1,h2⟩:=and2 h
    rcases Classical.em (f.den ns zs) with e | e
    · exact hg true _ _ hc (d e) h2 K
    · exact hf false _ _ hc e h1 K
theorem sndF (f:LF):SndF ns zs f:=LF.rec sf_le sf_lt sf_eq sf_no sf_an sf_or sf_im f
end
noncomputable def nn (n:Nat):List LP:=Nat.rec (motive:=fun _=>List LP) [] (fun i l=>unit (2 * i)::l) n
theorem nn_ok (ns:List Nat) (zs:List Int) (n:Nat):Hold (nn n) (envL ns zs):=by
  induction n with
  | zero=>exact fun _ h=>absurd h List.not_mem_nil
  | succ n ih=>exact hold_cons (by rw [ev_unit,env_n];exact Int.natCast_nonneg _) ih
noncomputable def LF.N:=LF.le true
noncomputable def LF.Z:=LF.le false
noncomputable def LF.M:=LF.lt true
noncomputable def LF.Y:=LF.lt false
noncomputable def LF.E:=LF.eq true
noncomputable def LF.F:=LF.eq false
noncomputable def LT.A:=LT.v 0
noncomputable def LT.B:=LT.v 1
noncomputable def LT.C:=LT.v 2
noncomputable def LT.D:=LT.v 3
noncomputable def LT.O:=LT.n 0
noncomputable def LT.I:=LT.n 1
theorem lin (f:LF) (ns:List Nat:=[]) (zs:List Int:=[]) (n:Nat:=3) (d:Nat:=6) (h:rfF f false (nn n) (fm d)=true:=by kernel_rfl):f.den ns zs:=
  Classical.byContradiction fun q=>sndF f false _ _ (nn_ok ns zs n) q h fun cs hc h=>fm_ok d cs _ hc h
theorem dvi (x:Int) (k:Nat):((k+1:Nat):Int) * (x / ((k+1:Nat):Int))≤x∧x < ((k+1:Nat):Int) * (x / ((k+1:Nat):Int))+((k+1:Nat):Int):=
  ⟨Int.mul_ediv_self_le (Int.ne_of_gt (Int.natCast_pos.mpr k.succ_pos)),Int.lt_mul_ediv_self_add (Int.natCast_pos.mpr k.succ_pos)⟩
theorem dvn (x k:Nat):(k+1) * (x / (k+1))≤x∧x < (k+1) * (x / (k+1))+(k+1):=
  ⟨Nat.mul_div_le x _,Nat.lt_mul_div_succ x k.succ_pos⟩
theorem mx (z:Int):(0≤max 0 z∧z≤max 0 z)∧(max 0 z=0∨max 0 z=z):=⟨⟨Int.le_max_left _ _,Int.le_max_right _ _⟩,(Int.le_total 0 z).elim (fun h=>.inr (Int.max_eq_right h)) fun h=>.inl (Int.max_eq_left h)⟩
theorem md (x:Int) (k:Nat):0≤x % ((k+1:Nat):Int)∧x % ((k+1:Nat):Int) < ((k+1:Nat):Int):=⟨Int.emod_nonneg _ (Int.ne_of_gt (Int.natCast_pos.mpr k.succ_pos)),Int.emod_lt_of_pos _ (Int.natCast_pos.mpr k.succ_pos)⟩
end Mine.Ly

set_option Elab.async false
set_option backward.match.sparseCases false
namespace Mine
theorem ar_ci5t:(0:Int)=0:=Ly.lin (.F .O .O)
theorem ar_gzj6:(0:Int)≤0:=Ly.lin (.Z .O .O)
theorem ar_ebwt:(0:Int)≤1:=Ly.lin (.Z .O .I)
theorem ar_q6r3:(0:Int)≤2:=Ly.lin (.Z .O (.n 2))
theorem ar_da6f{a:Int}:a≤a:=Ly.lin (.Z .A .A) [] [a]
theorem ar_hskg{a:Nat}:a≤a:=Ly.lin (.N .A .A) [a]
theorem ar_rilc:(11:Nat)≤30:=Ly.lin (.N (.n 11) (.n 30))
theorem ar_zo4n:(8:Int)≤4000:=Ly.lin (.Z (.n 8) (.n 4000))
theorem ar_h9j9:¬(0:Int)<0:=Ly.lin (.no (.Y .O .O))
theorem ar_14vk:¬(0:Nat)<0:=Ly.lin (.no (.M .O .O))
theorem ar_ryi5:((-1):Int)≤4000:=Ly.lin (.Z (.g .I) (.n 4000))
theorem ar_knj1:((-4000):Int)≤8:=Ly.lin (.Z (.g (.n 4000)) (.n 8))
theorem ar_micu{a:Nat}:0≤a:=Ly.lin (.N .O .A) [a]
theorem ar_0qg8:((-4000):Int)≤(-1):=Ly.lin (.Z (.g (.n 4000)) (.g .I))
theorem ar_315b{a:Int}:a+0=a:=Ly.lin (.F (.a .A .O) .A) [] [a]
theorem ar_gszt{a:Int}:a-0=a:=Ly.lin (.F (.s .A .O) .A) [] [a]
theorem ar_ox3x{a:Int}:a-0≤a:=Ly.lin (.Z (.s .A .O) .A) [] [a]
theorem ar_uged{a:Int}:a-1≤a:=Ly.lin (.Z (.s .A .I) .A) [] [a]
theorem ar_fyt5{a:Int}:a≤a+1:=Ly.lin (.Z .A (.a .A .I)) [] [a]
theorem ar_4ikx{a:Nat}:0+a=a:=Ly.lin (.E (.a .O .A) .A) [a]
theorem ar_oncm{a:Nat}:a-1≤a:=Ly.lin (.N (.s .A .I) .A) [a]
theorem ar_7vek{a:Nat}:a≤a+1:=Ly.lin (.N .A (.a .A .I)) [a]
theorem ar_7tkd{a:Nat}:a≤a+4:=Ly.lin (.N .A (.a .A (.n 4))) [a]
theorem ar_wqu4:(0:Int)<2^62:=Ly.lin (.Y .O (.n 4611686018427387904))
theorem ar_pl02{a:Nat}:a≤a+10:=Ly.lin (.N .A (.a .A (.n 10))) [a]
theorem ar_8h8t:((-(2^62)):Int)≤0:=Ly.lin (.Z (.g (.n 4611686018427387904)) .O)
theorem ar_fjln{a b:Nat}:a-b≤a:=Ly.lin (.N (.s .A .B) .A) [a,b]
theorem ar_v1iw{a b:Nat}:a≤a+b:=Ly.lin (.N .A (.a .A .B)) [a,b]
theorem ar_i68u{a:Nat}:0<a+1:=Ly.lin (.M .O (.a .A .I)) [a]
theorem ar_wuya{a b:Int}:a=b→a≤b:=Ly.lin (.im (.F .A .B) (.Z .A .B)) [] [a,b]
theorem ar_65wq{a b:Nat}:a<b→a≤b:=Ly.lin (.im (.M .A .B) (.N .A .B)) [a,b]
theorem ar_fpix{a:Nat}:0≤(a:Int):=Ly.lin (.Z .O (.c .A)) [a]
theorem ar_kjr5{a b:Int}:a-(a-b)=b:=Ly.lin (.F (.s .A (.s .A .B)) .B) [] [a,b]
theorem ar_luyy{a b:Int}:a-(b-b)=a:=Ly.lin (.F (.s .A (.s .B .B)) .A) [] [a,b]
theorem ar_9a7h{a b:Nat}:a≤b+(a-b):=Ly.lin (.N .A (.a .B (.s .A .B))) [a,b]
theorem ar_zpfb{a:Int}:0<a→0≤a:=Ly.lin (.im (.Y .O .A) (.Z .O .A)) [] [a]
theorem ar_1sxu{a:Int}:a=0→0≤a:=Ly.lin (.im (.F .A .O) (.Z .O .A)) [] [a]
theorem ar_dxm6{a:Nat}:1<a→0<a:=Ly.lin (.im (.M .I .A) (.M .O .A)) [a]
theorem ar_4gxg{a:Nat}:a<2→a≤1:=Ly.lin (.im (.M .A (.n 2)) (.N .A .I)) [a]
theorem ar_a3rb{a b:Int}:a=b→¬a<b:=Ly.lin (.im (.F .A .B) (.no (.Y .A .B))) [] [a,b]
theorem ar_kljz{a b:Int}:¬a<b→b≤a:=Ly.lin (.im (.no (.Y .A .B)) (.Z .B .A)) [] [a,b]
theorem ar_238p{a b:Nat}:a<b→¬b<a:=Ly.lin (.im (.M .A .B) (.no (.M .B .A))) [a,b]
theorem ar_n3le{a b:Nat}:¬a<b→b≤a:=Ly.lin (.im (.no (.M .A .B)) (.N .B .A)) [a,b]
theorem ar_p04i{a:Nat}:a+1≤a+1:=Ly.lin (.N (.a .A .I) (.a .A .I)) [a]
theorem ar_itef{a:Nat}:a+1≤a+4:=Ly.lin (.N (.a .A .I) (.a .A (.n 4))) [a]
theorem ar_j2i4{a:Nat}:a+3≤a+4:=Ly.lin (.N (.a .A (.n 3)) (.a .A (.n 4))) [a]
theorem ar_1wh9{a:Nat}:a+4≤a+4:=Ly.lin (.N (.a .A (.n 4)) (.a .A (.n 4))) [a]
theorem ar_30gn{a:Nat}:a<29→a<30:=Ly.lin (.im (.M .A (.n 29)) (.M .A (.n 30))) [a]
theorem ar_fxx9{a:Nat}:a≤a-1+1:=Ly.lin (.N .A (.a (.s .A .I) .I)) [a]
theorem ar_r083{a:Nat}:a≤10→a≤14:=Ly.lin (.im (.N .A (.n 10)) (.N .A (.n 14))) [a]
theorem ar_nrvs{a:Nat}:Int.toNat (a:Int)=a:=Ly.lin (.E (.t (.c .A)) .A) [a]
theorem ar_0l8s{a:Nat}:a≤10→a≤100:=Ly.lin (.im (.N .A (.n 10)) (.N .A (.n 100))) [a]
theorem ar_gsfu{a:Nat}:a≤2→a≤3000:=Ly.lin (.im (.N .A (.n 2)) (.N .A (.n 3000))) [a]
theorem ar_c9ev{a:Nat}:a≤3→a≤1000:=Ly.lin (.im (.N .A (.n 3)) (.N .A (.n 1000))) [a]
theorem ar_urov{a:Nat}:a≤3→a≤3000:=Ly.lin (.im (.N .A (.n 3)) (.N .A (.n 3000))) [a]
theorem ar_px8e{a:Nat}:a≤3→a≤4000:=Ly.lin (.im (.N .A (.n 3)) (.N .A (.n 4000))) [a]
theorem ar_a1xg{a:Nat}:a≤a+20*0:=Ly.lin (.N .A (.a .A (.k 20 .O))) [a]
theorem ar_wztw{a:Int}:0<a→¬a=0:=Ly.lin (.im (.Y .O .A) (.no (.F .A .O))) [] [a]
theorem ar_kilx{a:Int}:0≤a→¬a<0:=Ly.lin (.im (.Z .O .A) (.no (.Y .A .O))) [] [a]
theorem ar_2n2l{a:Int}:a=1→¬a=6:=Ly.lin (.im (.F .A .I) (.no (.F .A (.n 6)))) [] [a]
theorem ar_yr2p{a:Int}:a=2→¬a=6:=Ly.lin (.im (.F .A (.n 2)) (.no (.F .A (.n 6)))) [] [a]
theorem ar_x8ac{a:Int}:a=3→¬a=6:=Ly.lin (.im (.F .A (.n 3)) (.no (.F .A (.n 6)))) [] [a]
theorem ar_cxau{a:Int}:a=4→¬a=6:=Ly.lin (.im (.F .A (.n 4)) (.no (.F .A (.n 6)))) [] [a]
theorem ar_kge1{a:Int}:a=5→¬a=6:=Ly.lin (.im (.F .A (.n 5)) (.no (.F .A (.n 6)))) [] [a]
theorem ar_sgxk{a:Nat}:(-4000)≤(a:Int):=Ly.lin (.Z (.g (.n 4000)) (.c .A)) [a]
theorem ar_6zr2{a:Nat}:a≤63→a≤4000:=Ly.lin (.im (.N .A (.n 63)) (.N .A (.n 4000))) [a]
theorem ar_0uu2{a:Nat}:¬0<a→a=0:=Ly.lin (.im (.no (.M .O .A)) (.E .A .O)) [a]
theorem ar_eh58{a b:Nat}:a≤b→b<a→False:=Ly.lin (.im (.N .A .B) (.no (.M .B .A))) [a,b]
theorem ar_ejt1{a:Nat}:a=11→¬a≤2:=Ly.lin (.im (.E .A (.n 11)) (.no (.N .A (.n 2)))) [a]
theorem ar_qpkv{a:Nat}:a≤100→a≤4000:=Ly.lin (.im (.N .A (.n 100)) (.N .A (.n 4000))) [a]
theorem ar_p3pe{a:Nat}:a≤400→a≤2000:=Ly.lin (.im (.N .A (.n 400)) (.N .A (.n 2000))) [a]
theorem ar_z4uc{a:Nat}:a≤400→a≤2500:=Ly.lin (.im (.N .A (.n 400)) (.N .A (.n 2500))) [a]
theorem ar_vqrv{a b:Nat}:a<a+1+b:=Ly.lin (.M .A (.a (.a .A .I) .B)) [a,b]
theorem ar_z7ij{a:Nat}:a≤1000→a≤4000:=Ly.lin (.im (.N .A (.n 1000)) (.N .A (.n 4000))) [a]
theorem ar_qzfs{a:Nat}:a≤2000→a≤2900:=Ly.lin (.im (.N .A (.n 2000)) (.N .A (.n 2900))) [a]
theorem ar_21a0{a:Nat}:a≤2000→a≤3000:=Ly.lin (.im (.N .A (.n 2000)) (.N .A (.n 3000))) [a]
theorem ar_cd8p{a:Nat}:a≤2010→a≤2900:=Ly.lin (.im (.N .A (.n 2010)) (.N .A (.n 2900))) [a]
theorem ar_cxje{a:Nat}:a≤2500→a≤3000:=Ly.lin (.im (.N .A (.n 2500)) (.N .A (.n 3000))) [a]
theorem ar_px36{a:Nat}:a≤2900→a≤3000:=Ly.lin (.im (.N .A (.n 2900)) (.N .A (.n 3000))) [a]
theorem ar_n37v{a:Nat}:a≤2910→a≤3000:=Ly.lin (.im (.N .A (.n 2910)) (.N .A (.n 3000))) [a]
theorem ar_1mx0{a:Nat}:a≤3000→a≤4000:=Ly.lin (.im (.N .A (.n 3000)) (.N .A (.n 4000))) [a]
theorem ar_zqw4{a:Nat}:0<a→a-1<a:=Ly.lin (.im (.M .O .A) (.M (.s .A .I) .A)) [a]
theorem ar_k804{a:Nat}:1<a→a-1<a:=Ly.lin (.im (.M .I .A) (.M (.s .A .I) .A)) [a]
theorem ar_scwq{a:Nat}:1<a→a-2<a:=Ly.lin (.im (.M .I .A) (.M (.s .A (.n 2)) .A)) [a]
theorem ar_plsu{a b:Nat}:min (a-b) a=a-b:=Ly.lin (.E (.m (.s .A .B) .A) (.s .A .B)) [a,b]
theorem ar_fvri{a:Nat}:(a:Int)≤(a:Int):=Ly.lin (.Z (.c .A) (.c .A)) [a]
theorem ar_hvqu{a b:Int}:a≤b→b<a→b=a:=Ly.lin (.im (.Z .A .B) (.im (.Y .B .A) (.F .B .A))) [] [a,b]
theorem ar_rv58{a:Int}{b:Nat}:a-(b:Int)≤a:=Ly.lin (.Z (.s .A (.c .A)) .A) [b] [a]
theorem ar_x67q{a:Int}{b:Nat}:a≤a+(b:Int):=Ly.lin (.Z .A (.a .A (.c .A))) [b] [a]
theorem ar_hohe{a:Int}:a≤1000→a≤1000000:=Ly.lin (.im (.Z .A (.n 1000)) (.Z .A (.n 1000000))) [] [a]
theorem ar_0vco{a b:Nat}:a≤b→b≤a→a=b:=Ly.lin (.im (.N .A .B) (.im (.N .B .A) (.E .A .B))) [a,b]
theorem ar_8pb7{a b:Nat}:a≤b→b≤a→b=a:=Ly.lin (.im (.N .A .B) (.im (.N .B .A) (.E .B .A))) [a,b]
theorem ar_05d3{a:Nat}:0+1≤a+1:=Ly.lin (.N (.a .O .I) (.a .A .I)) [a]
theorem ar_pmov{a:Nat}:0<a+1+1:=Ly.lin (.M .O (.a (.a .A .I) .I)) [a]
theorem ar_brqv{a:Nat}:a≤4000→a≤1048576:=Ly.lin (.im (.N .A (.n 4000)) (.N .A (.n 1048576))) [a]
theorem ar_46gs{a:Nat}:a≤3000→a≤16777216:=Ly.lin (.im (.N .A (.n 3000)) (.N .A (.n 16777216))) [a]
theorem ar_xrg6{a:Nat}:a≤4000→a≤16777216:=Ly.lin (.im (.N .A (.n 4000)) (.N .A (.n 16777216))) [a]
theorem ar_gz02{a b:Int}:a<b→a+1≤b:=Ly.lin (.im (.Y .A .B) (.Z (.a .A .I) .B)) [] [a,b]
theorem ar_130w{a b:Int}:a=b→b-(b-a)≤b:=Ly.lin (.im (.F .A .B) (.Z (.s .B (.s .B .A)) .B)) [] [a,b]
theorem ar_loau{a b:Int}:a=b→b-a=0:=Ly.lin (.im (.F .A .B) (.F (.s .B .A) .O)) [] [a,b]
theorem ar_tb2v{a b:Nat}:a≤b→a≤b+4:=Ly.lin (.im (.N .A .B) (.N .A (.a .B (.n 4)))) [a,b]
theorem ar_hka3{a:Int}:a.toNat-1≤a.toNat:=Ly.lin (.N (.s (.t .A) .I) (.t .A)) [] [a]
theorem ar_x1nv{a:Int}:a/3%5≤4000:=Ly.lin (.im (.an (.Z .O .A) (.Y .A (.n 5))) (.Z .A (.n 4000))) [] [a/3%5] 3 6 (by kernel_rfl) (Ly.md _ 4)
theorem ar_po8a{a:Int}:0<a→0<a.toNat:=Ly.lin (.im (.Y .O .A) (.M .O (.t .A))) [] [a]
theorem ar_9jkl{a:Int}:0<a.toNat→0<a:=Ly.lin (.im (.M .O (.t .A)) (.Y .O .A)) [] [a]
theorem ar_4uhz{a:Int}:a.toNat≤a.toNat+1:=Ly.lin (.N (.t .A) (.a (.t .A) .I)) [] [a]
theorem ar_xkrs{a b c:Nat}:min a b≤b+c:=Ly.lin (.N (.m .A .B) (.a .B .C)) [a,b,c]
theorem ar_ral5{a:Nat}:0≤2+(a:Int):=Ly.lin (.Z .O (.a (.n 2) (.c .A))) [a]
theorem ar_vm96{a b:Int}:a-(a-(b-b))=0:=Ly.lin (.F (.s .A (.s .A (.s .B .B))) .O) [] [a,b]
theorem ar_3i68{a b:Nat}:a≤a+(b-a)/2:=by intros;first|lia|omega
theorem ar_fk51{a b:Nat}:a≤b→¬b=a→a<b:=Ly.lin (.im (.N .A .B) (.im (.no (.E .B .A)) (.M .A .B))) [a,b]
theorem ar_gj94{a:Int}:0<a→0≤a-1:=Ly.lin (.im (.Y .O .A) (.Z .O (.s .A .I))) [] [a]
theorem ar_khmm{a:Int}:0≤a→0≤a+1:=Ly.lin (.im (.Z .O .A) (.Z .O (.a .A .I))) [] [a]
theorem ar_5p3n{a:Int}:0≤a→0≤a+4:=Ly.lin (.im (.Z .O .A) (.Z .O (.a .A (.n 4)))) [] [a]
theorem ar_vy5k{a:Int}:2≤a→0≤a+1:=Ly.lin (.im (.Z (.n 2) .A) (.Z .O (.a .A .I))) [] [a]
theorem ar_yo4b{a:Nat}:a≤2→0+a≤2:=Ly.lin (.im (.N .A (.n 2)) (.N (.a .O .A) (.n 2))) [a]
theorem ar_82vn{a:Nat}:a≤2→a+1≤3:=Ly.lin (.im (.N .A (.n 2)) (.N (.a .A .I) (.n 3))) [a]
theorem ar_3nez{a:Int}:(-4000)≤a/3%5:=Ly.lin (.im (.an (.Z .O .A) (.Y .A (.n 5))) (.Z (.g (.n 4000)) .A)) [] [a/3%5] 3 6 (by kernel_rfl) (Ly.md _ 4)
theorem ar_g0lk{a b c:Nat}:a=b-c→a≤b:=Ly.lin (.im (.E .A (.s .B .C)) (.N .A .B)) [a,b,c]
theorem ar_dvk1{a b c:Nat}:a≤b-c→a≤b:=Ly.lin (.im (.N .A (.s .B .C)) (.N .A .B)) [a,b,c]
theorem ar_ov4j{a b:Nat}:a=b+1→¬b=a:=Ly.lin (.im (.E .A (.a .B .I)) (.no (.E .B .A))) [a,b]
theorem ar_rbgu{a b:Nat}:¬a≤b+1→b<a:=Ly.lin (.im (.no (.N .A (.a .B .I))) (.M .B .A)) [a,b]
theorem ar_z2eh{a b:Nat}:¬a≤b→b-a=0:=Ly.lin (.im (.no (.N .A .B)) (.E (.s .B .A) .O)) [a,b]
theorem ar_t2si{a:Int}:a+0+1=a+1:=Ly.lin (.F (.a (.a .A .O) .I) (.a .A .I)) [] [a]
theorem ar_pd50{a:Nat}:2*a≤2*(a+1):=Ly.lin (.N (.k 2 .A) (.k 2 (.a .A .I))) [a]
theorem ar_skje{a:Nat}:a+1=17→a=16:=Ly.lin (.im (.E (.a .A .I) (.n 17)) (.E .A (.n 16))) [a]
theorem ar_5bwv{a:Nat}:a≤a-2+1+1:=Ly.lin (.N .A (.a (.a (.s .A (.n 2)) .I) .I)) [a]
theorem ar_znwl{a:Nat}:0<a→0<(a:Int):=Ly.lin (.im (.M .O .A) (.Y .O (.c .A))) [a]
theorem ar_gb11{a:Nat}:2≤a→2≤(a:Int):=Ly.lin (.im (.N (.n 2) .A) (.Z (.n 2) (.c .A))) [a]
theorem ar_e02e{a:Nat}:Int.toNat ((a:Int)-0)=a:=Ly.lin (.E (.t (.s (.c .A) .O)) .A) [a]
theorem ar_ogd0{a:Nat}:(a:Int)<2→a<2:=Ly.lin (.im (.Y (.c .A) (.n 2)) (.M .A (.n 2))) [a]
theorem ar_p4zk{a:Nat}:a≤2→a+1≤4000:=Ly.lin (.im (.N .A (.n 2)) (.N (.a .A .I) (.n 4000))) [a]
theorem ar_wkk8{a:Int}:0≤a→¬a+4<0:=Ly.lin (.im (.Z .O .A) (.no (.Y (.a .A (.n 4)) .O))) [] [a]
theorem ar_pfqt{a:Int}:a<4000→a<2^63:=Ly.lin (.im (.Y .A (.n 4000)) (.Y .A (.n 9223372036854775808))) [] [a]
theorem ar_k6ss{a:Int}:a≤4000→a<2^62:=Ly.lin (.im (.Z .A (.n 4000)) (.Y .A (.n 4611686018427387904))) [] [a]
theorem ar_jp47{a b:Nat}:0<a→0<b+a:=Ly.lin (.im (.M .O .A) (.M .O (.a .B .A))) [a,b]
theorem ar_icv4{a b c:Int}:a=b→b≤c→a≤c:=Ly.lin (.im (.F .A .B) (.im (.Z .B .C) (.Z .A .C))) [] [a,b,c]
theorem ar_e0vk{a b c:Int}:a=b→c=b→a=c:=Ly.lin (.im (.F .A .B) (.im (.F .C .B) (.F .A .C))) [] [a,b,c]
theorem ar_m3ox{a b c:Nat}:a<b→b<c→a<c:=Ly.lin (.im (.M .A .B) (.im (.M .B .C) (.M .A .C))) [a,b,c]
theorem ar_mgi3{a b c:Nat}:a<b→b≤c→a≤c:=Ly.lin (.im (.M .A .B) (.im (.N .B .C) (.N .A .C))) [a,b,c]
theorem ar_zhzg{a b c:Nat}:a<b→c≤a→c≤b:=Ly.lin (.im (.M .A .B) (.im (.N .C .A) (.N .C .B))) [a,b,c]
theorem ar_plo8{a b c:Nat}:a=b→a=c→c=b:=Ly.lin (.im (.E .A .B) (.im (.E .A .C) (.E .C .B))) [a,b,c]
theorem ar_lnq0{a b c:Nat}:a=b→b=c→a=c:=Ly.lin (.im (.E .A .B) (.im (.E .B .C) (.E .A .C))) [a,b,c]
theorem ar_7ftj{a b c:Nat}:a≤b→c<a→c<b:=Ly.lin (.im (.N .A .B) (.im (.M .C .A) (.M .C .B))) [a,b,c]
theorem ar_mtj4{a b c:Nat}:a≤b→c=a→c≤b:=Ly.lin (.im (.N .A .B) (.im (.E .C .A) (.N .C .B))) [a,b,c]
theorem ar_3quf{a:Nat}:a≤3000→a+1≤4000:=Ly.lin (.im (.N .A (.n 3000)) (.N (.a .A .I) (.n 4000))) [a]
theorem ar_16ga{a:Nat}:a≤3000→a+3≤4000:=Ly.lin (.im (.N .A (.n 3000)) (.N (.a .A (.n 3)) (.n 4000))) [a]
theorem ar_zz10{a:Nat}:a≤3000→a+4≤4000:=Ly.lin (.im (.N .A (.n 3000)) (.N (.a .A (.n 4)) (.n 4000))) [a]
theorem ar_8zb5{a:Int}{b:Nat}:a=(b:Int)→0≤a:=Ly.lin (.im (.F .A (.c .A)) (.Z .O .A)) [b] [a]
theorem ar_213d{a b c:Nat}:¬a≤b→min b c≤a:=Ly.lin (.im (.no (.N .A .B)) (.N (.m .B .C) .A)) [a,b,c]
theorem ar_f9ot{a:Nat}:0<a→¬(a:Int)=0:=Ly.lin (.im (.M .O .A) (.no (.F (.c .A) .O))) [a]
theorem ar_ah33{a:Nat}:1<a→a-2+1<a:=Ly.lin (.im (.M .I .A) (.M (.a (.s .A (.n 2)) .I) .A)) [a]
theorem ar_da6k{a:Nat}:a=0→¬0<(a:Int):=Ly.lin (.im (.E .A .O) (.no (.Y .O (.c .A)))) [a]
theorem ar_m4cm{a:Nat}:a≤63→(a:Int)≤4000:=Ly.lin (.im (.N .A (.n 63)) (.Z (.c .A) (.n 4000))) [a]
theorem ar_bxnx{a:Nat}:¬(a:Int)<2→0<a:=Ly.lin (.im (.no (.Y (.c .A) (.n 2))) (.M .O .A)) [a]
theorem ar_zlfe{a:Nat}:¬(a:Int)<2→1<a:=Ly.lin (.im (.no (.Y (.c .A) (.n 2))) (.M .I .A)) [a]
theorem ar_fo5i{a:Nat}:¬(a:Int)<2→2≤a:=Ly.lin (.im (.no (.Y (.c .A) (.n 2))) (.N (.n 2) .A)) [a]
theorem ar_j5y4{a:Nat}:¬a=0→0<(a:Int):=Ly.lin (.im (.no (.E .A .O)) (.Y .O (.c .A))) [a]
theorem ar_8gxc{a b c:Int}:a=b→c-(c-a)=b:=Ly.lin (.im (.F .A .B) (.F (.s .C (.s .C .A)) .B)) [] [a,b,c]
theorem ar_nld6{a:Int}:0≤a→¬a<(-(2^63)):=Ly.lin (.im (.Z .O .A) (.no (.Y .A (.g (.n 9223372036854775808))))) [] [a]
theorem ar_g7vr{a:Int}:a<4000→¬2^63≤a:=Ly.lin (.im (.Y .A (.n 4000)) (.no (.Z (.n 9223372036854775808) .A))) [] [a]
theorem ar_97dj{a b c:Nat}:a=b-c→b-c=a:=Ly.lin (.im (.E .A (.s .B .C)) (.E (.s .B .C) .A)) [a,b,c]
theorem ar_dzfg{a:Nat}:a≤100→(a:Int)≤4000:=Ly.lin (.im (.N .A (.n 100)) (.Z (.c .A) (.n 4000))) [a]
theorem ar_zu20{a b:Int}:0≤a→a≤b→0≤b:=Ly.lin (.im (.Z .O .A) (.im (.Z .A .B) (.Z .O .B))) [] [a,b]
theorem ar_4pmj{a b:Int}:0≤a→b=a→0≤b:=Ly.lin (.im (.Z .O .A) (.im (.F .B .A) (.Z .O .B))) [] [a,b]
theorem ar_eh8h{a b:Int}:a=0→0≤b→a≤b:=Ly.lin (.im (.F .A .O) (.im (.Z .O .B) (.Z .A .B))) [] [a,b]
theorem ar_ih5e{a b:Int}:a=b→0≤b→0≤a:=Ly.lin (.im (.F .A .B) (.im (.Z .O .B) (.Z .O .A))) [] [a,b]
theorem ar_9o96{a b:Nat}:a≤b→0=b-a→a=b:=Ly.lin (.im (.N .A .B) (.im (.E .O (.s .B .A)) (.E .A .B))) [a,b]
theorem ar_v274{a:Nat}:a<4000→(a:Int)<4000:=Ly.lin (.im (.M .A (.n 4000)) (.Y (.c .A) (.n 4000))) [a]
theorem ar_8r1c{a:Nat}:a≤2000→(a:Int)≤3000:=Ly.lin (.im (.N .A (.n 2000)) (.Z (.c .A) (.n 3000))) [a]
theorem ar_y8e2{a:Nat}:¬63<(a:Int)→a≤63:=Ly.lin (.im (.no (.Y (.n 63) (.c .A))) (.N .A (.n 63))) [a]
theorem ar_aj8s{a b c:Int}:a+b+c=a+(c+b):=Ly.lin (.F (.a (.a .A .B) .C) (.a .A (.a .C .B))) [] [a,b,c]
theorem ar_vwjh{a b c:Int}:a-(b-(b-(c-c)))=a:=Ly.lin (.F (.s .A (.s .B (.s .B (.s .C .C)))) .A) [] [a,b,c]
theorem ar_aea8{a:Int}:(-4000)≤a→(-(2^62))≤a:=Ly.lin (.im (.Z (.g (.n 4000)) .A) (.Z (.g (.n 4611686018427387904)) .A)) [] [a]
theorem ar_6t0p{a b c:Nat}:a<b→b<c→¬a=c:=Ly.lin (.im (.M .A .B) (.im (.M .B .C) (.no (.E .A .C)))) [a,b,c]
theorem ar_ttt4{a b c:Nat}:¬a<b→c=b→c≤a:=Ly.lin (.im (.no (.M .A .B)) (.im (.E .C .B) (.N .C .A))) [a,b,c]
theorem ar_0q4h{a b:Nat}:(-4000)≤((min a b:Nat):Int):=Ly.lin (.Z (.g (.n 4000)) (.c (.m .A .B))) [a,b]
theorem ar_kov4{a b:Nat}:a+b≤4000→b≤4000:=Ly.lin (.im (.N (.a .A .B) (.n 4000)) (.N .B (.n 4000))) [a,b]
theorem ar_1x9m{a:Nat}:¬a+1=17→¬a=16:=Ly.lin (.im (.no (.E (.a .A .I) (.n 17))) (.no (.E .A (.n 16)))) [a]
theorem ar_8bmu{a b:Int}:a=b→b-1≤a-1:=Ly.lin (.im (.F .A .B) (.Z (.s .B .I) (.s .A .I))) [] [a,b]
theorem ar_nocf{a:Int}{b:Nat}:¬a.toNat≤b→b≤a.toNat:=Ly.lin (.im (.no (.N (.t .A) .A)) (.N .A (.t .A))) [b] [a]
theorem ar_t115{a b:Nat}:a+1<b+1→a<b:=Ly.lin (.im (.M (.a .A .I) (.a .B .I)) (.M .A .B)) [a,b]
theorem ar_4sba{a b:Nat}:a+1=b+1→a=b:=Ly.lin (.im (.E (.a .A .I) (.a .B .I)) (.E .A .B)) [a,b]
theorem ar_peyo{a b:Nat}:a+1≤b+1→a≤b:=Ly.lin (.im (.N (.a .A .I) (.a .B .I)) (.N .A .B)) [a,b]
theorem ar_eq0e{a b:Nat}:a<b→a+(b-a)/2<b:=Ly.lin (.im (.an (.N (.k 2 .C) (.s .B .A)) (.M (.s .B .A) (.a (.k 2 .C) (.n 2)))) (.im (.M .A .B) (.M (.a .A .C) .B))) [a,b,(b-a)/2] [] 3 6 (by kernel_rfl) (Ly.dvn _ 1)
theorem ar_wc48{a b:Nat}:a<b→a+1<b+1:=Ly.lin (.im (.M .A .B) (.M (.a .A .I) (.a .B .I))) [a,b]
theorem ar_mhsz{a b:Nat}:a=b→a+1=b+1:=Ly.lin (.im (.E .A .B) (.E (.a .A .I) (.a .B .I))) [a,b]
theorem ar_3hrl{a b:Nat}:a≤b→a+1≤b+1:=Ly.lin (.im (.N .A .B) (.N (.a .A .I) (.a .B .I))) [a,b]
theorem ar_r285{a:Nat}:¬0<a→¬0<(a:Int):=Ly.lin (.im (.no (.M .O .A)) (.no (.Y .O (.c .A)))) [a]
theorem ar_a6kb{a:Int}{b:Nat}:a.toNat<b→a<(b:Int):=Ly.lin (.im (.M (.t .A) .A) (.Y .A (.c .A))) [b] [a]
theorem ar_qz4h{a:Int}:a.toNat+1-a.toNat=1:=Ly.lin (.E (.s (.a (.t .A) .I) (.t .A)) .I) [] [a]
theorem ar_lkdc{a:Int}:0<a-1→0<a.toNat:=Ly.lin (.im (.Y .O (.s .A .I)) (.M .O (.t .A))) [] [a]
theorem ar_k5ok{a:Int}:0<a-1→1<a.toNat:=Ly.lin (.im (.Y .O (.s .A .I)) (.M .I (.t .A))) [] [a]
theorem ar_rcyr{a:Int}:1<a.toNat→0<a-1:=Ly.lin (.im (.M .I (.t .A)) (.Y .O (.s .A .I))) [] [a]
theorem ar_emsg{a:Int}:Int.toNat (a-1)=a.toNat-1:=Ly.lin (.E (.t (.s .A .I)) (.s (.t .A) .I)) [] [a]
theorem ar_408x{a:Nat}{b:Int}:(a:Int)<b→a≤b.toNat:=Ly.lin (.im (.Y (.c .A) .A) (.N .A (.t .A))) [a] [b]
theorem ar_3f5g{a:Nat}{b:Int}:(a:Int)≤b→a≤b.toNat:=Ly.lin (.im (.Z (.c .A) .A) (.N .A (.t .A))) [a] [b]
theorem ar_ldwm{a b:Int}:a-b-1+1=a-b:=Ly.lin (.F (.a (.s (.s .A .B) .I) .I) (.s .A .B)) [] [a,b]
theorem ar_rqly{a b:Int}:a-(a-(b-1))=b-1:=Ly.lin (.F (.s .A (.s .A (.s .B .I))) (.s .B .I)) [] [a,b]
theorem ar_vh1v{a b:Int}:a=0→¬b≤a→0<b:=Ly.lin (.im (.F .A .O) (.im (.no (.Z .B .A)) (.Y .O .B))) [] [a,b]
theorem ar_c75k{a b c:Nat}:a=b→b=0→a≤c:=Ly.lin (.im (.E .A .B) (.im (.E .B .O) (.N .A .C))) [a,b,c]
theorem ar_xh1x{a b:Nat}:a+1+b=a+(b+1):=Ly.lin (.E (.a (.a .A .I) .B) (.a .A (.a .B .I))) [a,b]
theorem ar_p8hj{a b:Nat}:a+(b+1)=a+1+b:=Ly.lin (.E (.a .A (.a .B .I)) (.a (.a .A .I) .B)) [a,b]
theorem ar_e0p0{a b:Nat}:a≤16→b+a≤b+16:=Ly.lin (.im (.N .A (.n 16)) (.N (.a .B .A) (.a .B (.n 16)))) [a,b]
theorem ar_4cv0:(Int.toNat ((8-0+3)/4):Nat)≤2:=by intros;first|lia|omega
theorem ar_o442{a:Int}:0<a-1→0≤a-1:=Ly.lin (.im (.Y .O (.s .A .I)) (.Z .O (.s .A .I))) [] [a]
theorem ar_4010{a b:Nat}:a≤20→b+a≤b+100:=Ly.lin (.im (.N .A (.n 20)) (.N (.a .B .A) (.a .B (.n 100)))) [a,b]
theorem ar_es09{a b c:Nat}:a+1=b-c→c<b:=Ly.lin (.im (.E (.a .A .I) (.s .B .C)) (.M .C .B)) [a,b,c]
theorem ar_arti{a b c:Nat}:a+(b+1)=c→a<c:=Ly.lin (.im (.E (.a .A (.a .B .I)) .C) (.M .A .C)) [a,b,c]
theorem ar_gmo5{a b c:Nat}:a+(b+1)≤c→a<c:=Ly.lin (.im (.N (.a .A (.a .B .I)) .C) (.M .A .C)) [a,b,c]
theorem ar_uiwy{a b:Nat}:a≤3000→b=a→b≤3000:=Ly.lin (.im (.N .A (.n 3000)) (.im (.E .B .A) (.N .B (.n 3000)))) [a,b]
theorem ar_mguc{a b:Nat}:a≤3000→b≤a→b≤4000:=Ly.lin (.im (.N .A (.n 3000)) (.im (.N .B .A) (.N .B (.n 4000)))) [a,b]
theorem ar_izyy{a b:Nat}:a≤4000→b≤a→b≤4000:=Ly.lin (.im (.N .A (.n 4000)) (.im (.N .B .A) (.N .B (.n 4000)))) [a,b]
theorem ar_ajsp{a b:Nat}:a≤b→b≤2900→a≤2900:=Ly.lin (.im (.N .A .B) (.im (.N .B (.n 2900)) (.N .A (.n 2900)))) [a,b]
theorem ar_1a36{a b:Nat}:¬a=b→¬b<a→¬a<b→False:=Ly.lin (.im (.no (.E .A .B)) (.im (.no (.M .B .A)) (.no (.no (.M .A .B))))) [a,b]
theorem ar_a9no{a b:Nat}:¬a≤b+1→b+1<a:=Ly.lin (.im (.no (.N .A (.a .B .I))) (.M (.a .B .I) .A)) [a,b]
theorem ar_16ld{a b c:Nat}:a=b-c→a≤b+10:=Ly.lin (.im (.E .A (.s .B .C)) (.N .A (.a .B (.n 10)))) [a,b,c]
theorem ar_ysyh{a b:Nat}:¬a≤b+1→a=1→False:=Ly.lin (.im (.no (.N .A (.a .B .I))) (.no (.E .A .I))) [a,b]
theorem ar_osa0{a b:Int}:a=0→b≤a→0<b→False:=Ly.lin (.im (.F .A .O) (.im (.Z .B .A) (.no (.Y .O .B)))) [] [a,b]
theorem ar_rgjo{a:Int}{b:Nat}:a=(b:Int)→a≤(b:Int):=Ly.lin (.im (.F .A (.c .A)) (.Z .A (.c .A))) [b] [a]
theorem ar_joz5{a b c:Nat}:a≤b→a-c=min a b-c:=Ly.lin (.im (.N .A .B) (.E (.s .A .C) (.s (.m .A .B) .C))) [a,b,c]
theorem ar_vulk{a b:Nat}:(a:Int)<(b:Int)→a<b:=Ly.lin (.im (.Y (.c .A) (.c .B)) (.M .A .B)) [a,b]
theorem ar_65cy{a b:Nat}:(a:Int)≤(b:Int)→a≤b:=Ly.lin (.im (.Z (.c .A) (.c .B)) (.N .A .B)) [a,b]
theorem ar_evqi{a b:Nat}:a=b→(a:Int)=(b:Int):=Ly.lin (.im (.E .A .B) (.F (.c .A) (.c .B))) [a,b]
theorem ar_rzn0{a b:Nat}:a≤b→0<a→b-a=b→False:=Ly.lin (.im (.N .A .B) (.im (.M .O .A) (.no (.E (.s .B .A) .B)))) [a,b]
theorem ar_oud8{a b:Nat}:a≤b→(a:Int)≤(b:Int):=Ly.lin (.im (.N .A .B) (.Z (.c .A) (.c .B))) [a,b]
theorem ar_yz1e{a b:Int}{c:Nat}:a=b→a-(c:Int)≤b:=Ly.lin (.im (.F .A .B) (.Z (.s .A (.c .A)) .B)) [c] [a,b]
theorem ar_km2o{a:Int}{b:Nat}{c:Int}:a-(b:Int)=c→c≤a:=Ly.lin (.im (.F (.s .A (.c .A)) .B) (.Z .B .A)) [b] [a,c]
theorem ar_jatj{a b c:Nat}:a=b→b≤c→c≤a→a=c:=Ly.lin (.im (.E .A .B) (.im (.N .B .C) (.im (.N .C .A) (.E .A .C)))) [a,b,c]
theorem ar_6qnp{a b c:Nat}:a≤b→a=c→b≤c→c=b:=Ly.lin (.im (.N .A .B) (.im (.E .A .C) (.im (.N .B .C) (.E .C .B)))) [a,b,c]
theorem ar_l1l9{a:Nat}:a≤4→0+100*a≤400:=Ly.lin (.im (.N .A (.n 4)) (.N (.a .O (.k 100 .A)) (.n 400))) [a]
theorem ar_41w1{a b:Int}:¬a≤b→a≤3000→b<4000:=Ly.lin (.im (.no (.Z .A .B)) (.im (.Z .A (.n 3000)) (.Y .B (.n 4000)))) [] [a,b]
theorem ar_idrr{a:Int}{b:Nat}:a-(b:Int)≤a-(b:Int):=Ly.lin (.Z (.s .A (.c .A)) (.s .A (.c .A))) [b] [a]
theorem ar_t1vj{a b:Nat}:a≤4000→b≤a→b≤16777216:=Ly.lin (.im (.N .A (.n 4000)) (.im (.N .B .A) (.N .B (.n 16777216)))) [a,b]
theorem ar_majh{a b:Nat}:¬a<b→¬a+1<b+1:=Ly.lin (.im (.no (.M .A .B)) (.no (.M (.a .A .I) (.a .B .I)))) [a,b]
theorem ar_muob{a b c:Nat}:a≤b+1→c<a→c≤b:=Ly.lin (.im (.N .A (.a .B .I)) (.im (.M .C .A) (.N .C .B))) [a,b,c]
theorem ar_0b2i{a b c:Nat}:a≤b→a+0=c→c≤b:=Ly.lin (.im (.N .A .B) (.im (.E (.a .A .O) .C) (.N .C .B))) [a,b,c]
theorem ar_aig4{a b c:Nat}:a≤b→a≤c→a≤b∧a≤c:=Ly.lin (.im (.N .A .B) (.im (.N .A .C) (.an (.N .A .B) (.N .A .C)))) [a,b,c]
theorem ar_bfqu{a b c:Nat}:a≤b→c≤a→c+(a-c)≤b:=Ly.lin (.im (.N .A .B) (.im (.N .C .A) (.N (.a .C (.s .A .C)) .B))) [a,b,c]
theorem ar_zr0x{a b c:Nat}:a≤b→c≤a→c≤b+4:=Ly.lin (.im (.N .A .B) (.im (.N .C .A) (.N .C (.a .B (.n 4))))) [a,b,c]
theorem ar_c6df{a:Nat}:Int.toNat ((-1)+(a:Int))=a-1:=Ly.lin (.E (.t (.a (.g .I) (.c .A))) (.s .A .I)) [a]
theorem ar_nxov{a:Nat}:Int.toNat ((-2)+(a:Int))=a-2:=Ly.lin (.E (.t (.a (.g (.n 2)) (.c .A))) (.s .A (.n 2))) [a]
theorem ar_eznq{a b:Int}:Int.toNat (a-b)=0→b≤a→b=a:=Ly.lin (.im (.E (.t (.s .A .B)) .O) (.im (.Z .B .A) (.F .B .A))) [] [a,b]
theorem ar_q9nd{a b:Int}:a=b→0<b.toNat→0<a:=Ly.lin (.im (.F .A .B) (.im (.M .O (.t .B)) (.Y .O .A))) [] [a,b]
theorem ar_v8ga{a:Int}{b:Nat}:0≤a→0≤a+(b:Int):=Ly.lin (.im (.Z .O .A) (.Z .O (.a .A (.c .A)))) [b] [a]
theorem ar_1xgd{a:Int}{b:Nat}:min (a.toNat-1) b≤b+10:=Ly.lin (.N (.m (.s (.t .A) .I) .A) (.a .A (.n 10))) [b] [a]
theorem ar_var0{a:Int}{b:Nat}:a=(b:Int)→0≤a-0:=Ly.lin (.im (.F .A (.c .A)) (.Z .O (.s .A .O))) [b] [a]
theorem ar_nmtx{a:Int}{b:Nat}:a≤(b:Int)→¬(b:Int)<a:=Ly.lin (.im (.Z .A (.c .A)) (.no (.Y (.c .A) .A))) [b] [a]
theorem ar_5h1h{a:Int}{b:Nat}:¬a≤(b:Int)→(b:Int)<a:=Ly.lin (.im (.no (.Z .A (.c .A))) (.Y (.c .A) .A)) [b] [a]
theorem ar_yyqd{a b c:Nat}:¬a≤b→0=min b c-a:=Ly.lin (.im (.no (.N .A .B)) (.E .O (.s (.m .B .C) .A))) [a,b,c]
theorem ar_jmn6{a b:Nat}:a+b≤4000→a+b≤16777216:=Ly.lin (.im (.N (.a .A .B) (.n 4000)) (.N (.a .A .B) (.n 16777216))) [a,b]
theorem ar_ab82{a b:Nat}:a<b→¬(b:Int)=(a:Int):=Ly.lin (.im (.M .A .B) (.no (.F (.c .B) (.c .A)))) [a,b]
theorem ar_6hzs{a:Nat}:1<a→a-2+1=a-1:=Ly.lin (.im (.M .I .A) (.E (.a (.s .A (.n 2)) .I) (.s .A .I))) [a]
theorem ar_a7qp{a:Nat}:1<a→a-1=a-2+1:=Ly.lin (.im (.M .I .A) (.E (.s .A .I) (.a (.s .A (.n 2)) .I))) [a]
theorem ar_k4lt{a b c:Nat}:a+(b+1)<c→a+b<c:=Ly.lin (.im (.M (.a .A (.a .B .I)) .C) (.M (.a .A .B) .C)) [a,b,c]
theorem ar_zwd2{a:Nat}:(a:Int)+1=((a+1:Nat):Int):=Ly.lin (.F (.a (.c .A) .I) (.c (.a .A .I))) [a]
theorem ar_g8t1{a:Nat}:((a+1:Nat):Int)=(a:Int)+1:=Ly.lin (.F (.c (.a .A .I)) (.a (.c .A) .I)) [a]
theorem ar_81ro{a b c:Int}:a≤b→b<a→a+(-(c-b))=a:=Ly.lin (.im (.Z .A .B) (.im (.Y .B .A) (.F (.a .A (.g (.s .C .B))) .A))) [] [a,b,c]
theorem ar_fp8m{a b:Int}:0≤a→a≤b→0≤b+1:=Ly.lin (.im (.Z .O .A) (.im (.Z .A .B) (.Z .O (.a .B .I)))) [] [a,b]
theorem ar_mcvu{a b:Int}:0≤a→b=a+1→0≤b:=Ly.lin (.im (.Z .O .A) (.im (.F .B (.a .A .I)) (.Z .O .B))) [] [a,b]
theorem ar_hzez{a b:Int}:Int.toNat (a-b)=0→a≤b+0:=Ly.lin (.im (.E (.t (.s .A .B)) .O) (.Z .A (.a .B .O))) [] [a,b]
theorem ar_9mf4{a b c d:Nat}:a=b-c→d≤a→d≤b:=Ly.lin (.im (.E .A (.s .B .C)) (.im (.N .D .A) (.N .D .B))) [a,b,c,d] [] 6 12
theorem ar_7hh3{a b:Nat}:a+100*b≤400→a≤400:=Ly.lin (.im (.N (.a .A (.k 100 .B)) (.n 400)) (.N .A (.n 400))) [a,b]
theorem ar_aci8{a b:Nat}:a≤1000→a-1-b<4000:=Ly.lin (.im (.N .A (.n 1000)) (.M (.s (.s .A .I) .B) (.n 4000))) [a,b]
theorem ar_2zcw{a:Nat}:¬(a:Int)<2→2≤(a:Int):=Ly.lin (.im (.no (.Y (.c .A) (.n 2))) (.Z (.n 2) (.c .A))) [a]
theorem ar_lsoi{a b:Nat}:¬(a:Int)<(b:Int)→¬a<b:=Ly.lin (.im (.no (.Y (.c .A) (.c .B))) (.no (.M .A .B))) [a,b]
theorem ar_y178{a b:Nat}:¬a=b→¬(a:Int)=(b:Int):=Ly.lin (.im (.no (.E .A .B)) (.no (.F (.c .A) (.c .B)))) [a,b]
theorem ar_j7v4{a:Nat}:a≤4000→¬2^63≤(a:Int):=Ly.lin (.im (.N .A (.n 4000)) (.no (.Z (.n 9223372036854775808) (.c .A)))) [a]
theorem ar_qnmr{a b:Int}:a<b→b-a=((Int.toNat (b-a):Nat):Int):=Ly.lin (.im (.Y .A .B) (.F (.s .B .A) (.c (.t (.s .B .A))))) [] [a,b]
theorem ar_eb0u{a:Int}{b:Nat}:a<0→Int.toNat (a+(b:Int))≤b:=Ly.lin (.im (.Y .A .O) (.N (.t (.a .A (.c .A))) .A)) [b] [a]
theorem ar_uw65{a:Int}:Int.toNat (a-1-1)=a.toNat-2:=Ly.lin (.E (.t (.s (.s .A .I) .I)) (.s (.t .A) (.n 2))) [] [a]
theorem ar_my2r{a b c d:Nat}:a=b-c→a-d≤b-c:=Ly.lin (.im (.E .A (.s .B .C)) (.N (.s .A .D) (.s .B .C))) [a,b,c,d] [] 6 12
theorem ar_g92o{a b:Int}{c:Nat}:Int.toNat (a-b)=c+1→b<a:=Ly.lin (.im (.E (.t (.s .A .B)) (.a .A .I)) (.Y .B .A)) [c] [a,b]
theorem ar_ukxz{a b:Int}:a=0→¬b≤a→0≤b-1:=Ly.lin (.im (.F .A .O) (.im (.no (.Z .B .A)) (.Z .O (.s .B .I)))) [] [a,b]
theorem ar_mn2b{a:Int}{b:Nat}:a.toNat<b→min a.toNat b=a.toNat:=Ly.lin (.im (.M (.t .A) .A) (.E (.m (.t .A) .A) (.t .A))) [b] [a]
theorem ar_no6t{a b c:Nat}:a=b→c=b+1→c<a→False:=Ly.lin (.im (.E .A .B) (.im (.E .C (.a .B .I)) (.no (.M .C .A)))) [a,b,c]
theorem ar_a2it{a b:Nat}:a+(b+1)≤4000→a≤16777216:=Ly.lin (.im (.N (.a .A (.a .B .I)) (.n 4000)) (.N .A (.n 16777216))) [a,b]
theorem ar_bk0j{a b c d:Int}:a=b→c=a→d=b→d≤c:=Ly.lin (.im (.F .A .B) (.im (.F .C .A) (.im (.F .D .B) (.Z .D .C)))) [] [a,b,c,d] 6 12
theorem ar_joxf{a b c d:Int}:a≤b→b=c→d≤a→d≤c:=Ly.lin (.im (.Z .A .B) (.im (.F .B .C) (.im (.Z .D .A) (.Z .D .C)))) [] [a,b,c,d] 6 12
theorem ar_oxt2{a b c:Nat}:a+(2*b+1)≤c→a<c:=Ly.lin (.im (.N (.a .A (.a (.k 2 .B) .I)) .C) (.M .A .C)) [a,b,c]
theorem ar_ke1s{a b c:Nat}:a+2*(b+1)≤c→a<c:=Ly.lin (.im (.N (.a .A (.k 2 (.a .B .I))) .C) (.M .A .C)) [a,b,c]
theorem ar_zv2c{a b c:Nat}:a+(b+1)<c→a+1<c:=Ly.lin (.im (.M (.a .A (.a .B .I)) .C) (.M (.a .A .I) .C)) [a,b,c]
theorem ar_8ltl{a b:Int}{c:Nat}:a=b→b=(c:Int)→0≤a:=Ly.lin (.im (.F .A .B) (.im (.F .B (.c .A)) (.Z .O .A))) [c] [a,b]
theorem ar_jh9i{a b:Int}:a+(((1:Nat):Int)-(b+1-b))=a:=Ly.lin (.F (.a .A (.s (.c .I) (.s (.a .B .I) .B))) .A) [] [a,b]
theorem ar_4h2p{a b:Int}:¬a<b→0=((Int.toNat (b-a):Nat):Int):=Ly.lin (.im (.no (.Y .A .B)) (.F .O (.c (.t (.s .B .A))))) [] [a,b]
theorem ar_hr72{a:Int}:a/3%5-0=a/3%5:=by intros;first|lia|omega
theorem ar_wxp3{a b:Nat}:a-(a-2)=b→b=2→1<a:=Ly.lin (.im (.E (.s .A (.s .A (.n 2))) .B) (.im (.E .B (.n 2)) (.M .I .A))) [a,b]
theorem ar_m701{a b:Nat}:a≤2000→b≤a+10→b≤2010:=Ly.lin (.im (.N .A (.n 2000)) (.im (.N .B (.a .A (.n 10))) (.N .B (.n 2010)))) [a,b]
theorem ar_vu8q{a b:Nat}:a≤2010→b≤a+10→b≤2900:=Ly.lin (.im (.N .A (.n 2010)) (.im (.N .B (.a .A (.n 10))) (.N .B (.n 2900)))) [a,b]
theorem ar_7k4b{a b:Nat}:a≤2500→b≤a+10→b≤3000:=Ly.lin (.im (.N .A (.n 2500)) (.im (.N .B (.a .A (.n 10))) (.N .B (.n 3000)))) [a,b]
theorem ar_6ga3{a b:Nat}:a≤2900→b≤a+10→b≤2910:=Ly.lin (.im (.N .A (.n 2900)) (.im (.N .B (.a .A (.n 10))) (.N .B (.n 2910)))) [a,b]
theorem ar_s9ca{a b:Int}{c:Nat}:Int.toNat (a-b)=c+1→¬a≤b:=Ly.lin (.im (.E (.t (.s .A .B)) (.a .A .I)) (.no (.Z .A .B))) [c] [a,b]
theorem ar_l2rk{a:Int}{b:Nat}:0≤a→a<(b:Int)→a.toNat<b:=Ly.lin (.im (.Z .O .A) (.im (.Y .A (.c .A)) (.M (.t .A) .A))) [b] [a]
theorem ar_bj2y{a:Int}{b:Nat}:a<(b:Int)→a+1≤(b:Int):=Ly.lin (.im (.Y .A (.c .A)) (.Z (.a .A .I) (.c .A))) [b] [a]
theorem ar_3sqi{a:Int}{b:Nat}:a<(b:Int)→a≤(b:Int)-1:=Ly.lin (.im (.Y .A (.c .A)) (.Z .A (.s (.c .A) .I))) [b] [a]
theorem ar_21my{a:Int}{b:Nat}:a≤(b:Int)-1→a<(b:Int):=Ly.lin (.im (.Z .A (.s (.c .A) .I)) (.Y .A (.c .A))) [b] [a]
theorem ar_ud7b{a:Int}:0≤a→Int.toNat (a+1)=a.toNat+1:=Ly.lin (.im (.Z .O .A) (.E (.t (.a .A .I)) (.a (.t .A) .I))) [] [a]
theorem ar_w18t{a:Nat}{b:Int}:(a:Int)≤b→0≤b-(a:Int):=Ly.lin (.im (.Z (.c .A) .A) (.Z .O (.s .A (.c .A)))) [a] [b]
theorem ar_1csm{a b c d:Nat}:a≤b→c+b≤d→c+a≤d:=Ly.lin (.im (.N .A .B) (.im (.N (.a .C .B) .D) (.N (.a .C .A) .D))) [a,b,c,d] [] 6 12
theorem ar_xeca{a b:Nat}:a<b→0<(b:Int)-(a:Int):=Ly.lin (.im (.M .A .B) (.Y .O (.s (.c .B) (.c .A)))) [a,b]
theorem ar_i7fx{a b:Nat}:a<b→0≤(b:Int)-(a:Int):=Ly.lin (.im (.M .A .B) (.Z .O (.s (.c .B) (.c .A)))) [a,b]
theorem ar_a44d{a b:Nat}:a=b→(a:Int)-(b:Int)=0:=Ly.lin (.im (.E .A .B) (.F (.s (.c .A) (.c .B)) .O)) [a,b]
theorem ar_vhwu{a b:Nat}:a=b→(a:Int)-(b:Int)≤1:=Ly.lin (.im (.E .A .B) (.Z (.s (.c .A) (.c .B)) .I)) [a,b]
theorem ar_93kk{a:Int}{b:Nat}:a=(b:Int)→a≤3000→b≤4000:=Ly.lin (.im (.F .A (.c .A)) (.im (.Z .A (.n 3000)) (.N .A (.n 4000)))) [b] [a]
theorem ar_jckz{a:Int}{b:Nat}:a=(b:Int)→b≤3000→a≤3000:=Ly.lin (.im (.F .A (.c .A)) (.im (.N .A (.n 3000)) (.Z .A (.n 3000)))) [b] [a]
theorem ar_6mvh{a:Nat}{b:Int}:a≤3000→b<(a:Int)→b<4000:=Ly.lin (.im (.N .A (.n 3000)) (.im (.Y .A (.c .A)) (.Y .A (.n 4000)))) [a] [b]
theorem ar_kmh3{a b:Nat}:a≤1000→b<a→(b:Int)<4000:=Ly.lin (.im (.N .A (.n 1000)) (.im (.M .B .A) (.Y (.c .B) (.n 4000)))) [a,b]
theorem ar_q41b{a b c:Nat}:a≤3000→b=a-c→b≤3000:=Ly.lin (.im (.N .A (.n 3000)) (.im (.E .B (.s .A .C)) (.N .B (.n 3000)))) [a,b,c]
theorem ar_6vee{a b c:Nat}:a≤3000→b=a-c→b≤4000:=Ly.lin (.im (.N .A (.n 3000)) (.im (.E .B (.s .A .C)) (.N .B (.n 4000)))) [a,b,c]
theorem ar_v19n{a b c:Nat}:a≤4000→b=a-c→b≤4000:=Ly.lin (.im (.N .A (.n 4000)) (.im (.E .B (.s .A .C)) (.N .B (.n 4000)))) [a,b,c]
theorem ar_35sz{a b:Nat}:(a:Int)-(b:Int)<0↔a<b:=by intros;first|lia|omega
theorem ar_5c24{a b c:Int}:a=b→a≤c-1→b≤c-1:=Ly.lin (.im (.F .A .B) (.im (.Z .A (.s .C .I)) (.Z .B (.s .C .I)))) [] [a,b,c]
theorem ar_4u6s{a b c:Int}:a≤b→c≤a→b≤c→c+(-(b-a))=c:=Ly.lin (.im (.Z .A .B) (.im (.Z .C .A) (.im (.Z .B .C) (.F (.a .C (.g (.s .B .A))) .C)))) [] [a,b,c]
theorem ar_xv0d{a b:Int}{c:Nat}:a=b→b=(c:Int)→a.toNat=c:=Ly.lin (.im (.F .A .B) (.im (.F .B (.c .A)) (.E (.t .A) .A))) [c] [a,b]
theorem ar_jnt7{a b:Int}{c:Nat}:a=b→b=(c:Int)→c≤a.toNat:=Ly.lin (.im (.F .A .B) (.im (.F .B (.c .A)) (.N .A (.t .A)))) [c] [a,b]
theorem ar_t7ek{a b:Int}{c:Nat}:a=b→c=b.toNat→a≤(c:Int):=Ly.lin (.im (.F .A .B) (.im (.E .A (.t .B)) (.Z .A (.c .A)))) [c] [a,b]
theorem ar_313w{a b:Int}{c:Nat}:a≤b→a=(c:Int)→c≤b.toNat:=Ly.lin (.im (.Z .A .B) (.im (.F .A (.c .A)) (.N .A (.t .B)))) [c] [a,b]
theorem ar_m9le{a b:Int}:a=b→0<a-1→0<b.toNat:=Ly.lin (.im (.F .A .B) (.im (.Y .O (.s .A .I)) (.M .O (.t .B)))) [] [a,b]
theorem ar_0d55{a b:Int}:a=b→0<a-1→1<b.toNat:=Ly.lin (.im (.F .A .B) (.im (.Y .O (.s .A .I)) (.M .I (.t .B)))) [] [a,b]
theorem ar_7oz6{a b:Int}:a=b→1<b.toNat→0<a-1:=Ly.lin (.im (.F .A .B) (.im (.M .I (.t .B)) (.Y .O (.s .A .I)))) [] [a,b]
theorem ar_qc9e{a b:Int}:a=b→Int.toNat (a-1)=b.toNat-1:=Ly.lin (.im (.F .A .B) (.E (.t (.s .A .I)) (.s (.t .B) .I))) [] [a,b]
theorem ar_nn83{a:Int}{b:Nat}:a<(b:Int)→¬(b:Int)<a+1:=Ly.lin (.im (.Y .A (.c .A)) (.no (.Y (.c .A) (.a .A .I)))) [b] [a]
theorem ar_9htp{a:Int}{b:Nat}:¬a<(b:Int)→(b:Int)<a+1:=Ly.lin (.im (.no (.Y .A (.c .A))) (.Y (.c .A) (.a .A .I))) [b] [a]
theorem ar_1icg{a b c:Nat}:a+b+c≤4000→a+b≤4000:=Ly.lin (.im (.N (.a (.a .A .B) .C) (.n 4000)) (.N (.a .A .B) (.n 4000))) [a,b,c]
theorem ar_7oea{a b c:Nat}:min a b≤c→min a b+(c-min a b)=c:=Ly.lin (.im (.N (.m .A .B) .C) (.E (.a (.m .A .B) (.s .C (.m .A .B))) .C)) [a,b,c]
theorem ar_tw58{a b:Nat}:a≤b→¬(b:Int)-(a:Int)<0:=Ly.lin (.im (.N .A .B) (.no (.Y (.s (.c .B) (.c .A)) .O))) [a,b]
theorem ar_ddn1{a b:Nat}:¬(a:Int)<(b:Int)→0=b-a:=Ly.lin (.im (.no (.Y (.c .A) (.c .B))) (.E .O (.s .B .A))) [a,b]
theorem ar_5qm0{a b:Nat}:¬a<b→(b:Int)-(a:Int)≤0:=Ly.lin (.im (.no (.M .A .B)) (.Z (.s (.c .B) (.c .A)) .O)) [a,b]
theorem ar_747o{a b c:Int}:a=b→c-(c-(a-1))=b-1:=Ly.lin (.im (.F .A .B) (.F (.s .C (.s .C (.s .A .I))) (.s .B .I))) [] [a,b,c]
theorem ar_wjeh{a:Int}:0<a→a<1000000000→Int.natAbs a<1073741824:=Ly.lin (.im (.or (.F .A (.c .A)) (.F .A (.g (.c .A)))) (.im (.Y .O .A) (.im (.Y .A (.n 1000000000)) (.M .A (.n 1073741824))))) [a.natAbs] [a] 1 4 (by kernel_rfl) (Int.natAbs_eq a)
theorem ar_9tmv{a b c:Nat}:a+(b+1)<c→a+1+b<c:=Ly.lin (.im (.M (.a .A (.a .B .I)) .C) (.M (.a (.a .A .I) .B) .C)) [a,b,c]
theorem ar_vjh6{a b c:Nat}:a+(b+1)=c→a+1+b=c:=Ly.lin (.im (.E (.a .A (.a .B .I)) .C) (.E (.a (.a .A .I) .B) .C)) [a,b,c]
theorem ar_9y93{a b c:Nat}:a+(b+1)=c→c-1-a<c:=Ly.lin (.im (.E (.a .A (.a .B .I)) .C) (.M (.s (.s .C .I) .A) .C)) [a,b,c]
theorem ar_jucj{a b c:Nat}:a+(b+1)≤c→a+1+b≤c:=Ly.lin (.im (.N (.a .A (.a .B .I)) .C) (.N (.a (.a .A .I) .B) .C)) [a,b,c]
theorem ar_tahk{a b c:Nat}:a≤b→c≤a+10→c≤b+10:=Ly.lin (.im (.N .A .B) (.im (.N .C (.a .A (.n 10))) (.N .C (.a .B (.n 10))))) [a,b,c]
theorem ar_eptb{a b:Int}:0≤a→a+1≤b→0≤b+1:=Ly.lin (.im (.Z .O .A) (.im (.Z (.a .A .I) .B) (.Z .O (.a .B .I)))) [] [a,b]
theorem ar_23yf{a b:Int}:a=b→0<a-1→0≤b-1:=Ly.lin (.im (.F .A .B) (.im (.Y .O (.s .A .I)) (.Z .O (.s .B .I)))) [] [a,b]
theorem ar_ctyo{a b c:Nat}:a+b≤4000→a+min c b≤4000:=Ly.lin (.im (.N (.a .A .B) (.n 4000)) (.N (.a .A (.m .C .B)) (.n 4000))) [a,b,c]
theorem ar_3u5r{a b c:Nat}:a≤b→b<c→¬b=a→c=1→False:=Ly.lin (.im (.N .A .B) (.im (.M .B .C) (.im (.no (.E .B .A)) (.no (.E .C .I))))) [a,b,c]
theorem ar_v0h6{a:Int}{b:Nat}:a+((b+1:Nat):Int)≤5→a≤1000:=Ly.lin (.im (.Z (.a .A (.c (.a .A .I))) (.n 5)) (.Z .A (.n 1000))) [b] [a]
theorem ar_9ha5{a:Int}:0+((Int.toNat (a/3%5):Nat):Int)≤5:=Ly.lin (.im (.an (.Z .O .A) (.Y .A (.n 5))) (.Z (.a .O (.c (.t .A))) (.n 5))) [] [a/3%5] 3 6 (by kernel_rfl) (Ly.md _ 4)
theorem ar_fxns{a b c:Nat}:a<b→¬a≤c+1→b=1→False:=Ly.lin (.im (.M .A .B) (.im (.no (.N .A (.a .C .I))) (.no (.E .B .I)))) [a,b,c]
theorem ar_7idg{a b:Nat}:a+1≤b→a+1+1≤b+1:=Ly.lin (.im (.N (.a .A .I) .B) (.N (.a (.a .A .I) .I) (.a .B .I))) [a,b]
theorem ar_6ket{a b:Nat}:a<b→b+1-(a+1)<b+1-a:=Ly.lin (.im (.M .A .B) (.M (.s (.a .B .I) (.a .A .I)) (.s (.a .B .I) .A))) [a,b]
theorem ar_1d8q{a b:Nat}:¬a=b→a≤b+1→b=0→a=1:=Ly.lin (.im (.no (.E .A .B)) (.im (.N .A (.a .B .I)) (.im (.E .B .O) (.E .A .I)))) [a,b]
theorem ar_gqpf{a b:Nat}:¬a=b→¬(a:Int)-(b:Int)=0:=Ly.lin (.im (.no (.E .A .B)) (.no (.F (.s (.c .A) (.c .B)) .O))) [a,b]
theorem ar_fuqc{a b:Int}{c:Nat}:a=b→b=(c:Int)→(c:Int)=a:=Ly.lin (.im (.F .A .B) (.im (.F .B (.c .A)) (.F (.c .A) .A))) [c] [a,b]
theorem ar_n8v1{a b:Int}{c:Nat}:a=b→b=(c:Int)→(c:Int)≤a:=Ly.lin (.im (.F .A .B) (.im (.F .B (.c .A)) (.Z (.c .A) .A))) [c] [a,b]
theorem ar_sa9s{a b:Int}{c:Nat}:a=b→b=(c:Int)→a≤(c:Int):=Ly.lin (.im (.F .A .B) (.im (.F .B (.c .A)) (.Z .A (.c .A)))) [c] [a,b]
theorem ar_ho9y{a b:Int}:a=b→0<a→Int.toNat (a-1)<b.toNat:=Ly.lin (.im (.F .A .B) (.im (.Y .O .A) (.M (.t (.s .A .I)) (.t .B)))) [] [a,b]
theorem ar_srsd{a b:Nat}:min (Int.toNat ((a:Int)-(b:Int))) a=a-b:=Ly.lin (.E (.m (.t (.s (.c .A) (.c .B))) .A) (.s .A .B)) [a,b]
theorem ar_0n2b{a:Nat}:a<17→¬a+1=17→a+1<17:=Ly.lin (.im (.M .A (.n 17)) (.im (.no (.E (.a .A .I) (.n 17))) (.M (.a .A .I) (.n 17)))) [a]
theorem ar_a01v{a b:Int}{c:Nat}{d:Int}:a=b→a-(c:Int)=d→d≤b:=Ly.lin (.im (.F .A .B) (.im (.F (.s .A (.c .A)) .C) (.Z .C .B))) [c] [a,b,d]
theorem ar_q80b{a b:Int}{c:Nat}:Int.toNat (a-b)=c+1→b+1≤a:=Ly.lin (.im (.E (.t (.s .A .B)) (.a .A .I)) (.Z (.a .B .I) .A)) [c] [a,b]
theorem ar_ganx{a:Int}{b:Nat}{c d:Int}:a-(b:Int)=c→d≤c→d≤a:=Ly.lin (.im (.F (.s .A (.c .A)) .B) (.im (.Z .C .B) (.Z .C .A))) [b] [a,c,d]
theorem ar_vqpk{a:Int}:0≤a→a<1000000000→Int.natAbs a<2^64:=Ly.lin (.im (.or (.F .A (.c .A)) (.F .A (.g (.c .A)))) (.im (.Z .O .A) (.im (.Y .A (.n 1000000000)) (.M .A (.n 18446744073709551616))))) [a.natAbs] [a] 1 4 (by kernel_rfl) (Int.natAbs_eq a)
theorem ar_29vo{a b c:Nat}:a≤3000→b=c→a=c→b≤16777216:=Ly.lin (.im (.N .A (.n 3000)) (.im (.E .B .C) (.im (.E .A .C) (.N .B (.n 16777216))))) [a,b,c]
theorem ar_3zoh{a b c:Nat}:a≤3000→b≤c→c<a→b≤16777216:=Ly.lin (.im (.N .A (.n 3000)) (.im (.N .B .C) (.im (.M .C .A) (.N .B (.n 16777216))))) [a,b,c]
theorem ar_rsu7{a b c:Nat}:a≤4000→b=a→b=c→c≤16777216:=Ly.lin (.im (.N .A (.n 4000)) (.im (.E .B .A) (.im (.E .B .C) (.N .C (.n 16777216))))) [a,b,c]
theorem ar_zm3a{a b c:Int}{d:Nat}:a=b→c≤b+((d:Int)-(a-c)):=Ly.lin (.im (.F .A .B) (.Z .C (.a .B (.s (.c .A) (.s .A .C))))) [d] [a,b,c]
theorem ar_1vm3{a:Int}{b:Nat}:a=(b:Int)→0<(b:Int)→1≤a:=Ly.lin (.im (.F .A (.c .A)) (.im (.Y .O (.c .A)) (.Z .I .A))) [b] [a]
theorem ar_7i2c{a:Int}{b:Nat}:a=(b:Int)→1<(b:Int)→1≤a:=Ly.lin (.im (.F .A (.c .A)) (.im (.Y .I (.c .A)) (.Z .I .A))) [b] [a]
theorem ar_7ogh{a:Int}{b:Nat}:a=(b:Int)→1<(b:Int)→2≤a:=Ly.lin (.im (.F .A (.c .A)) (.im (.Y .I (.c .A)) (.Z (.n 2) .A))) [b] [a]
theorem ar_s33v{a:Nat}{b:Int}:Int.toNat ((a:Int)-b)=0→(a:Int)≤b:=Ly.lin (.im (.E (.t (.s (.c .A) .A)) .O) (.Z (.c .A) .A)) [a] [b]
theorem ar_cpmp{a b:Nat}:a=0→(b:Int)≤(a:Int)→b=0:=Ly.lin (.im (.E .A .O) (.im (.Z (.c .B) (.c .A)) (.E .B .O))) [a,b]
theorem ar_xn3h{a b:Int}{c:Nat}:a=b→b=(c:Int)→0≤b-(b-a):=Ly.lin (.im (.F .A .B) (.im (.F .B (.c .A)) (.Z .O (.s .B (.s .B .A))))) [c] [a,b]
theorem ar_okbm{a b c:Nat}:a+(b+1)=c→Int.toNat (a:Int)<c:=Ly.lin (.im (.E (.a .A (.a .B .I)) .C) (.M (.t (.c .A)) .C)) [a,b,c]
theorem ar_ow3s{a b:Nat}:a=b→b≤4000→(a:Int)<2^63:=Ly.lin (.im (.E .A .B) (.im (.N .B (.n 4000)) (.Y (.c .A) (.n 9223372036854775808)))) [a,b]
theorem ar_a448{a b:Nat}:a≤4000→b=a→(b:Int)<2^63:=Ly.lin (.im (.N .A (.n 4000)) (.im (.E .B .A) (.Y (.c .B) (.n 9223372036854775808)))) [a,b]
theorem ar_ldpq{a:Int}{b:Nat}:0≤a→a.toNat+b=Int.toNat (a+(b:Int)):=Ly.lin (.im (.Z .O .A) (.E (.a (.t .A) .A) (.t (.a .A (.c .A))))) [b] [a]
theorem ar_vdn7{a:Nat}{b:Int}{c:Nat}:a≤10→min b.toNat c+a≤c+10:=Ly.lin (.im (.N .A (.n 10)) (.N (.a (.m (.t .A) .B) .A) (.a .B (.n 10)))) [a,c] [b]
theorem ar_rek8{a b:Nat}:Int.toNat ((a:Int)+1*(b:Int))=a+b:=Ly.lin (.E (.t (.a (.c .A) (.k 1 (.c .B)))) (.a .A .B)) [a,b]
theorem ar_t9c3{a b:Nat}:a+(b+1)≤4000→a+1+b≤4000:=Ly.lin (.im (.N (.a .A (.a .B .I)) (.n 4000)) (.N (.a (.a .A .I) .B) (.n 4000))) [a,b]
theorem ar_skiv{a b:Nat}:a≤b+1→(a:Int)-(b:Int)≤1:=Ly.lin (.im (.N .A (.a .B .I)) (.Z (.s (.c .A) (.c .B)) .I)) [a,b]
theorem ar_ss2r{a b c:Int}:0≤a→a≤b→b≤c→0≤c+1:=Ly.lin (.im (.Z .O .A) (.im (.Z .A .B) (.im (.Z .B .C) (.Z .O (.a .C .I))))) [] [a,b,c]
theorem ar_p9ac{a b c:Int}:a=b→b≤c-1→¬a≤c-1→False:=Ly.lin (.im (.F .A .B) (.im (.Z .B (.s .C .I)) (.no (.no (.Z .A (.s .C .I)))))) [] [a,b,c]
theorem ar_ncbn{a:Int}{b:Nat}:a≤(b:Int)→b≤3000→a-1<4000:=Ly.lin (.im (.Z .A (.c .A)) (.im (.N .A (.n 3000)) (.Y (.s .A .I) (.n 4000)))) [b] [a]
theorem ar_62va{a:Int}{b:Nat}:a+((b:Int)+1)=a+1+(b:Int):=Ly.lin (.F (.a .A (.a (.c .A) .I)) (.a (.a .A .I) (.c .A))) [b] [a]
theorem ar_lepo{a:Int}{b:Nat}:a+((b+1:Nat):Int)≤5→a.toNat≤4:=Ly.lin (.im (.Z (.a .A (.c (.a .A .I))) (.n 5)) (.N (.t .A) (.n 4))) [b] [a]
theorem ar_v6a3{a:Int}:a+1+(((1:Nat):Int)-(a+1-a))=a+1:=Ly.lin (.F (.a (.a .A .I) (.s (.c .I) (.s (.a .A .I) .A))) (.a .A .I)) [] [a]
theorem ar_5si4{a:Nat}{b:Int}:Int.toNat ((a:Int)-b)=0→¬b<(a:Int):=Ly.lin (.im (.E (.t (.s (.c .A) .A)) .O) (.no (.Y .A (.c .A)))) [a] [b]
theorem ar_t48n{a b:Int}{c:Nat}:a=b→c=b.toNat→a-1≤(c:Int):=Ly.lin (.im (.F .A .B) (.im (.E .A (.t .B)) (.Z (.s .A .I) (.c .A)))) [c] [a,b]
theorem ar_m8q5{a b:Int}:a=b→Int.toNat (a-1-1)=b.toNat-2:=Ly.lin (.im (.F .A .B) (.E (.t (.s (.s .A .I) .I)) (.s (.t .B) (.n 2)))) [] [a,b]
theorem ar_lm3v{a:Int}{b:Nat}{c:Int}:a=(b:Int)→c.toNat<b→c+1≤a:=Ly.lin (.im (.F .A (.c .A)) (.im (.M (.t .B) .A) (.Z (.a .B .I) .A))) [b] [a,c]
theorem ar_ftge{a:Nat}{b:Int}:¬(a:Int)<b+1→b+1≤(a:Int):=Ly.lin (.im (.no (.Y (.c .A) (.a .A .I))) (.Z (.a .A .I) (.c .A))) [a] [b]
theorem ar_a64b{a:Int}{b:Nat}:min (min (Int.toNat (a+4)) b) b-min a.toNat b≤4:=Ly.lin (.N (.s (.m (.m (.t (.a .A (.n 4))) .A) .A) (.m (.t .A) .A)) (.n 4)) [b] [a]
theorem ar_okk9{a:Int}{b:Nat}:a≤(b:Int)→¬a<(b:Int)→a=(b:Int):=Ly.lin (.im (.Z .A (.c .A)) (.im (.no (.Y .A (.c .A))) (.F .A (.c .A)))) [b] [a]
theorem ar_of4z{a b c:Nat}:a<b→b≤c+1→¬0<c→b=1:=Ly.lin (.im (.M .A .B) (.im (.N .B (.a .C .I)) (.im (.no (.M .O .C)) (.E .B .I)))) [a,b,c]
theorem ar_zym4{a:Nat}:a≤3→(-4000)≤(a:Int)∧(a:Int)≤4000:=Ly.lin (.im (.N .A (.n 3)) (.an (.Z (.g (.n 4000)) (.c .A)) (.Z (.c .A) (.n 4000)))) [a]
theorem ar_o091{a:Int}{b c:Nat}:0≤a→b≤min a.toNat c→(b:Int)≤a:=Ly.lin (.im (.Z .O .A) (.im (.N .A (.m (.t .A) .B)) (.Z (.c .A) .A))) [b,c] [a]
theorem ar_xdwa{a:Int}{b:Nat}:max 0 (min a (b:Int))=((min a.toNat b:Nat):Int):=Ly.lin (.im (.an (.an (.Z .O .B) (.Z (.m .A (.c .A)) .B)) (.or (.F .B .O) (.F .B (.m .A (.c .A))))) (.F .B (.c (.m (.t .A) .A)))) [b] [a,max 0 (min a (b:Int))] 1 4 (by kernel_rfl) (Ly.mx _)
theorem ar_yeeb{a:Nat}{b:Int}:Int.toNat ((a:Int)-b)=0→b<(a:Int)→False:=Ly.lin (.im (.E (.t (.s (.c .A) .A)) .O) (.no (.Y .A (.c .A)))) [a] [b]
theorem ar_802z{a b:Int}:a=b→0<b.toNat→Int.toNat (a-1)<b.toNat:=Ly.lin (.im (.F .A .B) (.im (.M .O (.t .B)) (.M (.t (.s .A .I)) (.t .B)))) [] [a,b]
theorem ar_k8ss{a b c d:Nat}:a=b-c→d≤a+4→d≤b+4:=Ly.lin (.im (.E .A (.s .B .C)) (.im (.N .D (.a .A (.n 4))) (.N .D (.a .B (.n 4))))) [a,b,c,d] [] 6 12
theorem ar_mgq2{a:Int}{b:Nat}{c:Int}:a=(b:Int)→c.toNat<b→¬a≤c+0:=Ly.lin (.im (.F .A (.c .A)) (.im (.M (.t .B) .A) (.no (.Z .A (.a .B .O))))) [b] [a,c]
theorem ar_vp4o{a:Int}{b c:Nat}{d:Int}:a-(b:Int)-(c:Int)=d→d≤a:=Ly.lin (.im (.F (.s (.s .A (.c .A)) (.c .B)) .B) (.Z .B .A)) [b,c] [a,d]
theorem ar_corv{a:Int}{b:Nat}:((a.toNat:Nat):Int)=a→b=a.toNat→(b:Int)=a:=Ly.lin (.im (.F (.c (.t .A)) .A) (.im (.E .A (.t .A)) (.F (.c .A) .A))) [b] [a]
theorem ar_x863{a b:Nat}:¬a≤b+1→¬(a:Int)-(b:Int)≤1:=Ly.lin (.im (.no (.N .A (.a .B .I))) (.no (.Z (.s (.c .A) (.c .B)) .I))) [a,b]
theorem ar_u3rv{a b:Int}:0≤a→b=a+1→b.toNat=a.toNat+1:=Ly.lin (.im (.Z .O .A) (.im (.F .B (.a .A .I)) (.E (.t .B) (.a (.t .A) .I)))) [] [a,b]
theorem ar_7gl8{a:Int}{b:Nat}{c:Int}:a=(b:Int)→c<a→c+1≤(b:Int):=Ly.lin (.im (.F .A (.c .A)) (.im (.Y .B .A) (.Z (.a .B .I) (.c .A)))) [b] [a,c]
theorem ar_6q2f{a:Int}{b c:Nat}:a=(b:Int)-(c:Int)→a.toNat=b-c:=Ly.lin (.im (.F .A (.s (.c .A) (.c .B))) (.E (.t .A) (.s .A .B))) [b,c] [a]
theorem ar_5n7f{a:Nat}{b c:Int}:(a:Int)≤b→b-(a:Int)=c→0≤c:=Ly.lin (.im (.Z (.c .A) .A) (.im (.F (.s .A (.c .A)) .B) (.Z .O .B))) [a] [b,c]
theorem ar_zbo7{a b c:Nat}:min a b≤c→min (a+1) (b+1)≤c+1:=Ly.lin (.im (.N (.m .A .B) .C) (.N (.m (.a .A .I) (.a .B .I)) (.a .C .I))) [a,b,c]
theorem ar_i2jy{a b:Nat}:a≤100→(a:Int)-1-(b:Int)<4000:=Ly.lin (.im (.N .A (.n 100)) (.Y (.s (.s (.c .A) .I) (.c .B)) (.n 4000))) [a,b]
theorem ar_7a1s{a b:Int}{c:Nat}:¬a≤b→0≤b→a=(c:Int)→b.toNat<c:=Ly.lin (.im (.no (.Z .A .B)) (.im (.Z .O .B) (.im (.F .A (.c .A)) (.M (.t .B) .A)))) [c] [a,b]
theorem ar_sxym{a b:Int}:¬a<b→0=((Int.toNat ((b-a+3)/4):Nat):Int):=Ly.lin (.im (.an (.Z (.k 4 .C) (.a (.s .B .A) (.n 3))) (.Y (.a (.s .B .A) (.n 3)) (.a (.k 4 .C) (.n 4)))) (.im (.no (.Y .A .B)) (.F .O (.c (.t .C))))) [] [a,b,(b-a+3)/4] 0 6 (by kernel_rfl) (Ly.dvi _ 3)
theorem ar_aylx{a b:Int}{c:Nat}:Int.toNat (a-b)=c+1→a≤3000→b<4000:=Ly.lin (.im (.E (.t (.s .A .B)) (.a .A .I)) (.im (.Z .A (.n 3000)) (.Y .B (.n 4000)))) [c] [a,b]
theorem ar_79wm{a b:Nat}:a-1-b=Int.toNat ((a:Int)-1-(b:Int)):=Ly.lin (.E (.s (.s .A .I) .B) (.t (.s (.s (.c .A) .I) (.c .B)))) [a,b]
theorem ar_lnxo{a b:Int}{c:Nat}:Int.toNat (a-b)=c+1→Int.toNat (a-(b+1))=c:=Ly.lin (.im (.E (.t (.s .A .B)) (.a .A .I)) (.E (.t (.s .A (.a .B .I))) .A)) [c] [a,b]
theorem ar_134z{a b c:Nat}:Int.toNat ((a:Int)-((min b c:Nat):Int))=a-min b c:=Ly.lin (.E (.t (.s (.c .A) (.c (.m .B .C)))) (.s .A (.m .B .C))) [a,b,c]
theorem ar_fl16{a b c:Nat}:a≤100→min b c≤a→((min b c:Nat):Int)≤4000:=Ly.lin (.im (.N .A (.n 100)) (.im (.N (.m .B .C) .A) (.Z (.c (.m .B .C)) (.n 4000)))) [a,b,c]
theorem ar_ggxf{a b:Nat}:(a:Int)<(b:Int)→(a:Int)=((min b a:Nat):Int):=Ly.lin (.im (.Y (.c .A) (.c .B)) (.F (.c .A) (.c (.m .B .A)))) [a,b]
theorem ar_mkzl{a b:Int}{c:Nat}:Int.toNat (a-b)=0→a=(c:Int)→c≤b.toNat:=Ly.lin (.im (.E (.t (.s .A .B)) .O) (.im (.F .A (.c .A)) (.N .A (.t .B)))) [c] [a,b]
theorem ar_pxi4{a:Nat}{b:Int}{c:Nat}:Int.toNat ((a:Int)-b)=c+1→b<(a:Int):=Ly.lin (.im (.E (.t (.s (.c .A) .A)) (.a .B .I)) (.Y .A (.c .A))) [a,c] [b]
theorem ar_w54h{a:Int}{b:Nat}{c:Int}{d:Nat}:a=(b:Int)→c=a→d=b→c=(d:Int):=Ly.lin (.im (.F .A (.c .A)) (.im (.F .B .A) (.im (.E .B .A) (.F .B (.c .B))))) [b,d] [a,c]
theorem ar_rmjn{a b c:Nat}:a+b+(c+1)≤4000→a+(b+1)≤4000:=Ly.lin (.im (.N (.a (.a .A .B) (.a .C .I)) (.n 4000)) (.N (.a .A (.a .B .I)) (.n 4000))) [a,b,c]
theorem ar_uv81{a b c:Nat}:a≤100→b+(c+1)=a→(b:Int)<4000:=Ly.lin (.im (.N .A (.n 100)) (.im (.E (.a .B (.a .C .I)) .A) (.Y (.c .B) (.n 4000)))) [a,b,c]
theorem ar_gkr6{a b c:Nat}:a+(2*b+1)≤c→a+1+2*b≤c:=Ly.lin (.im (.N (.a .A (.a (.k 2 .B) .I)) .C) (.N (.a (.a .A .I) (.k 2 .B)) .C)) [a,b,c]
theorem ar_jpmv{a b:Nat}:¬(a:Int)<(b:Int)→(b:Int)=((min b a:Nat):Int):=Ly.lin (.im (.no (.Y (.c .A) (.c .B))) (.F (.c .B) (.c (.m .B .A)))) [a,b]
theorem ar_8rhs{a:Nat}{b c:Int}{d:Nat}:(a:Int)=b-c→b-(d:Int)=c→a=d:=Ly.lin (.im (.F (.c .A) (.s .A .B)) (.im (.F (.s .A (.c .B)) .B) (.E .A .B))) [a,d] [b,c]
theorem ar_7d4h{a:Nat}{b c:Int}{d:Nat}:(a:Int)=b-c→c+(d:Int)=b→a=d:=Ly.lin (.im (.F (.c .A) (.s .A .B)) (.im (.F (.a .B (.c .B)) .A) (.E .A .B))) [a,d] [b,c]
theorem ar_c185{a b c d:Int}{e:Nat}:a=b→c≤d→c≤b+((e:Int)-(a-d)):=Ly.lin (.im (.F .A .B) (.im (.Z .C .D) (.Z .C (.a .B (.s (.c .A) (.s .A .D)))))) [e] [a,b,c,d] 6 12
theorem ar_xkx4{a b:Int}:a=b→0<b.toNat→Int.toNat (a-1-1)<b.toNat:=Ly.lin (.im (.F .A .B) (.im (.M .O (.t .B)) (.M (.t (.s (.s .A .I) .I)) (.t .B)))) [] [a,b]
theorem ar_iux1{a b c d:Nat}:a+b≤4000→c=a→d=b→c+d≤16777216:=Ly.lin (.im (.N (.a .A .B) (.n 4000)) (.im (.E .C .A) (.im (.E .D .B) (.N (.a .C .D) (.n 16777216))))) [a,b,c,d] [] 6 12
theorem ar_buwp{a b c:Nat}:a≤2500→b≤a+10→c≤b+4→c≤4000:=Ly.lin (.im (.N .A (.n 2500)) (.im (.N .B (.a .A (.n 10))) (.im (.N .C (.a .B (.n 4))) (.N .C (.n 4000))))) [a,b,c]
theorem ar_lb0m{a b:Int}:a=b→0<a-1→Int.toNat (a-1-1)<b.toNat:=Ly.lin (.im (.F .A .B) (.im (.Y .O (.s .A .I)) (.M (.t (.s (.s .A .I) .I)) (.t .B)))) [] [a,b]
theorem ar_d6cx{a:Nat}{b c:Int}:(a:Int)<b-c→0≤c→a<b.toNat-c.toNat:=Ly.lin (.im (.Y (.c .A) (.s .A .B)) (.im (.Z .O .B) (.M .A (.s (.t .A) (.t .B))))) [a] [b,c]
theorem ar_0ma1{a b c:Int}{d:Nat}:0≤a→b≤c→0≤c+((d:Int)-(b-a)):=Ly.lin (.im (.Z .O .A) (.im (.Z .B .C) (.Z .O (.a .C (.s (.c .A) (.s .B .A)))))) [d] [a,b,c]
theorem ar_xkf3{a:Int}{b:Nat}:a.toNat<b→min a.toNat b+(b-(a.toNat+1)+1)=b:=Ly.lin (.im (.M (.t .A) .A) (.E (.a (.m (.t .A) .A) (.a (.s .A (.a (.t .A) .I)) .I)) .A)) [b] [a]
theorem ar_x709{a b c:Nat}:a+b+(c+1)≤4000→a+(b+1)+c≤4000:=Ly.lin (.im (.N (.a (.a .A .B) (.a .C .I)) (.n 4000)) (.N (.a (.a .A (.a .B .I)) .C) (.n 4000))) [a,b,c]
theorem ar_ot3s{a b c:Nat}:a=b-c→c≤b→(a:Int)=(b:Int)-(c:Int):=Ly.lin (.im (.E .A (.s .B .C)) (.im (.N .C .B) (.F (.c .A) (.s (.c .B) (.c .C))))) [a,b,c]
theorem ar_544o{a b:Int}{c:Nat}:a=0→b≤(c:Int)→¬b≤a→Int.toNat (b-1)<c:=Ly.lin (.im (.F .A .O) (.im (.Z .B (.c .A)) (.im (.no (.Z .B .A)) (.M (.t (.s .B .I)) .A)))) [c] [a,b]
theorem ar_9f32{a b:Nat}{c:Int}:a≤b+20*Int.toNat (c/3%5)→a≤b+100:=Ly.lin (.im (.an (.Z .O .A) (.Y .A (.n 5))) (.im (.N .A (.a .B (.k 20 (.t .A)))) (.N .A (.a .B (.n 100))))) [a,b] [c/3%5] 3 6 (by kernel_rfl) (Ly.md _ 4)
theorem ar_y3hk{a:Int}{b:Nat}:a+((b+1:Nat):Int)≤5→a+1+(b:Int)≤5:=Ly.lin (.im (.Z (.a .A (.c (.a .A .I))) (.n 5)) (.Z (.a (.a .A .I) (.c .A)) (.n 5))) [b] [a]
theorem ar_idkk{a b c:Int}:0≤a→a+1≤b→b+1≤c→0≤c+1:=Ly.lin (.im (.Z .O .A) (.im (.Z (.a .A .I) .B) (.im (.Z (.a .B .I) .C) (.Z .O (.a .C .I))))) [] [a,b,c]
theorem ar_cnwe{a b c d e:Nat}:a≤3000→b=a-c→d=b-e→d≤4000:=Ly.lin (.im (.N .A (.n 3000)) (.im (.E .B (.s .A .C)) (.im (.E .D (.s .B (.v 4))) (.N .D (.n 4000))))) [a,b,c,d,e] [] 6 12
theorem ar_djpn{a b c:Nat}:a+16*(2*b+1)+64<c→a+64<c:=Ly.lin (.im (.M (.a (.a .A (.k 16 (.a (.k 2 .B) .I))) (.n 64)) .C) (.M (.a .A (.n 64)) .C)) [a,b,c]
theorem ar_x96d{a b:Int}{c d:Nat}:a=b→b=(c:Int)→a-(d:Int)≤(c:Int):=Ly.lin (.im (.F .A .B) (.im (.F .B (.c .A)) (.Z (.s .A (.c .B)) (.c .A)))) [c,d] [a,b]
theorem ar_k31a{a:Nat}{b:Int}{c:Nat}:Int.toNat ((a:Int)-b)=c+1→0≤b→b.toNat<a:=Ly.lin (.im (.E (.t (.s (.c .A) .A)) (.a .B .I)) (.im (.Z .O .A) (.M (.t .A) .A))) [a,c] [b]
theorem ar_ccif{a b:Int}{c d:Nat}{e:Int}:a=b→a-(c:Int)-(d:Int)=e→e≤b:=Ly.lin (.im (.F .A .B) (.im (.F (.s (.s .A (.c .A)) (.c .B)) .C) (.Z .C .B))) [c,d] [a,b,e]
theorem ar_aic0{a:Int}{b:Nat}{c:Int}:((a.toNat:Nat):Int)=a→b=a.toNat→c=a→c=(b:Int):=Ly.lin (.im (.F (.c (.t .A)) .A) (.im (.E .A (.t .A)) (.im (.F .B .A) (.F .B (.c .A))))) [b] [a,c]
theorem ar_ngxl{a:Nat}{b c:Int}:(a:Int)≤b→b-(a:Int)=c→((c.toNat:Nat):Int)=c:=Ly.lin (.im (.Z (.c .A) .A) (.im (.F (.s .A (.c .A)) .B) (.F (.c (.t .B)) .B))) [a] [b,c]
theorem ar_qi2h{a b c:Nat}:a<b→b≤c+1→2*(b-c)<2*(b-a)+1:=Ly.lin (.im (.M .A .B) (.im (.N .B (.a .C .I)) (.M (.k 2 (.s .B .C)) (.a (.k 2 (.s .B .A)) .I)))) [a,b,c]
theorem ar_e72g{a b:Int}{c d:Nat}:a=b→b=(c:Int)→Int.toNat (a-(d:Int))=c-d:=Ly.lin (.im (.F .A .B) (.im (.F .B (.c .A)) (.E (.t (.s .A (.c .B))) (.s .A .B)))) [c,d] [a,b]
theorem ar_911e{a b:Int}{c d:Nat}:a=b→b=(c:Int)→c-d=Int.toNat (a-(d:Int)):=Ly.lin (.im (.F .A .B) (.im (.F .B (.c .A)) (.E (.s .A .B) (.t (.s .A (.c .B)))))) [c,d] [a,b]
theorem ar_ombx{a b:Int}{c d:Nat}:a=b→b=(c:Int)→d≤c→0≤a-(d:Int):=Ly.lin (.im (.F .A .B) (.im (.F .B (.c .A)) (.im (.N .B .A) (.Z .O (.s .A (.c .B)))))) [c,d] [a,b]
theorem ar_swzv{a:Nat}{b c d:Int}:(a:Int)≤b→b-(a:Int)=c→d=c→0≤d:=Ly.lin (.im (.Z (.c .A) .A) (.im (.F (.s .A (.c .A)) .B) (.im (.F .C .B) (.Z .O .C)))) [a] [b,c,d]
theorem ar_luk8{a b c:Nat}:a+100*(b+1)≤400→c≤20→a+c≤4000:=Ly.lin (.im (.N (.a .A (.k 100 (.a .B .I))) (.n 400)) (.im (.N .C (.n 20)) (.N (.a .A .C) (.n 4000)))) [a,b,c]
theorem ar_jwzu{a b c:Nat}:a+20*(b+1)≤3000→c≤20→a+c≤4000:=Ly.lin (.im (.N (.a .A (.k 20 (.a .B .I))) (.n 3000)) (.im (.N .C (.n 20)) (.N (.a .A .C) (.n 4000)))) [a,b,c]
theorem ar_petm{a b c:Nat}:a+(b+1)=c→0≤(c:Int)-1-(a:Int):=Ly.lin (.im (.E (.a .A (.a .B .I)) .C) (.Z .O (.s (.s (.c .C) .I) (.c .A)))) [a,b,c]
theorem ar_8h39{a b c:Nat}:a≤100→(a:Int)-1-((min b c:Nat):Int)≤4000:=Ly.lin (.im (.N .A (.n 100)) (.Z (.s (.s (.c .A) .I) (.c (.m .B .C))) (.n 4000))) [a,b,c]
theorem ar_qrib{a b c:Nat}:a+2*(b+1)≤c→a+1+(2*b+1)≤c:=Ly.lin (.im (.N (.a .A (.k 2 (.a .B .I))) .C) (.N (.a (.a .A .I) (.a (.k 2 .B) .I)) .C)) [a,b,c]
theorem ar_kn8u{a:Nat}:¬8<(a:Int)→Int.toNat (((a:Int)-0+3)/4)≤2:=Ly.lin (.im (.an (.Z (.k 4 .A) (.a (.s (.c .A) .O) (.n 3))) (.Y (.a (.s (.c .A) .O) (.n 3)) (.a (.k 4 .A) (.n 4)))) (.im (.no (.Y (.n 8) (.c .A))) (.N (.t .A) (.n 2)))) [a] [((a:Int)-0+3)/4] 3 6 (by kernel_rfl) (Ly.dvi _ 3)
theorem ar_snhf{a b c:Nat}:min a b≤c→(-4000)≤(c:Int)-1-((min a b:Nat):Int):=Ly.lin (.im (.N (.m .A .B) .C) (.Z (.g (.n 4000)) (.s (.s (.c .C) .I) (.c (.m .A .B))))) [a,b,c]
theorem ar_doqx{a:Int}{b c:Nat}:a≤(b:Int)→b≤3000→a-1-(c:Int)<4000:=Ly.lin (.im (.Z .A (.c .A)) (.im (.N .A (.n 3000)) (.Y (.s (.s .A .I) (.c .B)) (.n 4000)))) [b,c] [a]
theorem ar_7yv3{a b:Nat}:(a:Int)-((b+1:Nat):Int)=(a:Int)-(b:Int)-1:=Ly.lin (.F (.s (.c .A) (.c (.a .B .I))) (.s (.s (.c .A) (.c .B)) .I)) [a,b]
theorem ar_zhdj{a:Int}{b:Nat}{c:Int}:0≤a→(b:Int)<c-a→0≤c-1-(b:Int):=Ly.lin (.im (.Z .O .A) (.im (.Y (.c .A) (.s .B .A)) (.Z .O (.s (.s .B .I) (.c .A))))) [b] [a,c]
theorem ar_qsgs{a:Int}{b:Nat}{c:Int}:a≤(b:Int)→min a.toNat b-c.toNat=a.toNat-c.toNat:=Ly.lin (.im (.Z .A (.c .A)) (.E (.s (.m (.t .A) .A) (.t .B)) (.s (.t .A) (.t .B)))) [b] [a,c]
theorem ar_ev8h{a b c:Nat}:a+(b+1)=c→Int.toNat ((c:Int)-1-(a:Int))<c:=Ly.lin (.im (.E (.a .A (.a .B .I)) .C) (.M (.t (.s (.s (.c .C) .I) (.c .A))) .C)) [a,b,c]
theorem ar_loj8{a:Int}{b c:Nat}:a≤(b:Int)→c≤b-a.toNat→a+(c:Int)≤(b:Int):=Ly.lin (.im (.Z .A (.c .A)) (.im (.N .B (.s .A (.t .A))) (.Z (.a .A (.c .B)) (.c .A)))) [b,c] [a]
theorem ar_p14c{a b:Int}{c:Nat}:0≤a→a≤b→b=(c:Int)→((c-a.toNat:Nat):Int)=b-a:=Ly.lin (.im (.Z .O .A) (.im (.Z .A .B) (.im (.F .B (.c .A)) (.F (.c (.s .A (.t .A))) (.s .B .A))))) [c] [a,b]
theorem ar_7rfo{a:Nat}{b:Int}{c:Nat}:(a:Int)=b→(c:Int)≤b→b-(c:Int)=((a-c:Nat):Int):=Ly.lin (.im (.F (.c .A) .A) (.im (.Z (.c .B) .A) (.F (.s .A (.c .B)) (.c (.s .A .B))))) [a,c] [b]
theorem ar_siwi{a b:Int}{c d:Nat}{e:Int}:a=b→a-(c:Int)-(d:Int)=e→e-1≤b:=Ly.lin (.im (.F .A .B) (.im (.F (.s (.s .A (.c .A)) (.c .B)) .C) (.Z (.s .C .I) .B))) [c,d] [a,b,e]
theorem ar_p2vs{a b c d:Nat}:a≤20→b≤c+a+20*d→b≤c+20*(d+1):=Ly.lin (.im (.N .A (.n 20)) (.im (.N .B (.a (.a .C .A) (.k 20 .D))) (.N .B (.a .C (.k 20 (.a .D .I)))))) [a,b,c,d] [] 6 12
theorem ar_u035{a:Int}{b:Nat}{c d:Int}:0≤a→(b:Int)≤c-a→c-(b:Int)=d→0≤d:=Ly.lin (.im (.Z .O .A) (.im (.Z (.c .A) (.s .B .A)) (.im (.F (.s .B (.c .A)) .C) (.Z .O .C)))) [b] [a,c,d]
theorem ar_57m3{a b c d:Nat}:a≤b→c+16*b+64<d→c+16*a+64<d:=Ly.lin (.im (.N .A .B) (.im (.M (.a (.a .C (.k 16 .B)) (.n 64)) .D) (.M (.a (.a .C (.k 16 .A)) (.n 64)) .D))) [a,b,c,d] [] 6 12
theorem ar_g4st{a b c:Nat}:Int.toNat ((a:Int)-1-((min b c:Nat):Int)-(-1))=a-min b c:=Ly.lin (.E (.t (.s (.s (.s (.c .A) .I) (.c (.m .B .C))) (.g .I))) (.s .A (.m .B .C))) [a,b,c]
theorem ar_15yu{a:Nat}{b:Int}{c:Nat}:Int.toNat ((a:Int)-b)=c+1→Int.toNat ((a:Int)-(b+1))=c:=Ly.lin (.im (.E (.t (.s (.c .A) .A)) (.a .B .I)) (.E (.t (.s (.c .A) (.a .A .I))) .B)) [a,c] [b]
theorem ar_42bh{a:Int}{b:Nat}{c d e:Int}:a=(b:Int)→c.toNat<b→d=a→e=c+1→e≤d:=Ly.lin (.im (.F .A (.c .A)) (.im (.M (.t .B) .A) (.im (.F .C .A) (.im (.F .D (.a .B .I)) (.Z .D .C))))) [b] [a,c,d,e] 6 12
theorem ar_okaz{a b c d e f:Nat}:a=b-c→d=a-e→f≤10→d+f≤b+10:=Ly.lin (.im (.E .A (.s .B .C)) (.im (.E .D (.s .A (.v 4))) (.im (.N (.v 5) (.n 10)) (.N (.a .D (.v 5)) (.a .B (.n 10)))))) [a,b,c,d,e,f] [] 6 12
theorem ar_kkrr{a b:Int}:a<b→(b-a-1)/4+1=((Int.toNat ((b-a+3)/4):Nat):Int):=Ly.lin (.im (.an (.Z (.k 4 .C) (.s (.s .B .A) .I)) (.Y (.s (.s .B .A) .I) (.a (.k 4 .C) (.n 4)))) (.im (.an (.Z (.k 4 .D) (.a (.s .B .A) (.n 3))) (.Y (.a (.s .B .A) (.n 3)) (.a (.k 4 .D) (.n 4)))) (.im (.Y .A .B) (.F (.a .C .I) (.c (.t .D)))))) [] [a,b,(b-a-1)/4,(b-a+3)/4] 0 8 (by kernel_rfl) (Ly.dvi _ 3) (Ly.dvi _ 3)
theorem ar_dlbk{a b:Int}{c d:Nat}{e:Int}:a=b→b=(c:Int)→a-(d:Int)=e→e≤(c:Int):=Ly.lin (.im (.F .A .B) (.im (.F .B (.c .A)) (.im (.F (.s .A (.c .B)) .C) (.Z .C (.c .A))))) [c,d] [a,b,e]
theorem ar_wk2i{a b:Int}{c d:Nat}:Int.toNat (a-b)=c+1→0≤b→a=(d:Int)→b.toNat<d:=Ly.lin (.im (.E (.t (.s .A .B)) (.a .A .I)) (.im (.Z .O .B) (.im (.F .A (.c .B)) (.M (.t .B) .B)))) [c,d] [a,b]
theorem ar_rsfb{a b:Int}{c d:Nat}:a=b→b=(c:Int)→a-(d:Int)=(c:Int)-(d:Int):=Ly.lin (.im (.F .A .B) (.im (.F .B (.c .A)) (.F (.s .A (.c .B)) (.s (.c .A) (.c .B))))) [c,d] [a,b]
theorem ar_1udh{a b c:Nat}:a+20*(b+1)≤3000→c≤20→a+c+20*b≤3000:=Ly.lin (.im (.N (.a .A (.k 20 (.a .B .I))) (.n 3000)) (.im (.N .C (.n 20)) (.N (.a (.a .A .C) (.k 20 .B)) (.n 3000)))) [a,b,c]
theorem ar_fuu2{a b c:Nat}:a+100*(b+1)≤400→c≤a+100→c+100*b≤400:=Ly.lin (.im (.N (.a .A (.k 100 (.a .B .I))) (.n 400)) (.im (.N .C (.a .A (.n 100))) (.N (.a .C (.k 100 .B)) (.n 400)))) [a,b,c]
theorem ar_ib5k{a:Int}{b c:Nat}{d:Int}:a=(b:Int)→a≤3000→c≤100→min d.toNat b+c≤4000:=Ly.lin (.im (.F .A (.c .A)) (.im (.Z .A (.n 3000)) (.im (.N .B (.n 100)) (.N (.a (.m (.t .B) .A) .B) (.n 4000))))) [b,c] [a,d]
theorem ar_7oj2{a:Nat}{b c:Int}{d:Nat}:(a:Int)=b-c→¬b-(d:Int)=c→d≤a→(d:Int)<b-c:=Ly.lin (.im (.F (.c .A) (.s .A .B)) (.im (.no (.F (.s .A (.c .B)) .B)) (.im (.N .B .A) (.Y (.c .B) (.s .A .B))))) [a,d] [b,c]
theorem ar_auz6{a:Nat}{b c:Int}{d:Nat}:(a:Int)=b-c→¬c+(d:Int)=b→d≤a→(d:Int)<b-c:=Ly.lin (.im (.F (.c .A) (.s .A .B)) (.im (.no (.F (.a .B (.c .B)) .A)) (.im (.N .B .A) (.Y (.c .B) (.s .A .B))))) [a,d] [b,c]
theorem ar_ydbf{a b:Int}{c:Nat}{d e:Int}:Int.toNat (a-b)=c+1→d=a→e=b+1→Int.toNat (d-e)=c:=Ly.lin (.im (.E (.t (.s .A .B)) (.a .A .I)) (.im (.F .C .A) (.im (.F .D (.a .B .I)) (.E (.t (.s .C .D)) .A)))) [c] [a,b,d,e] 6 12
theorem ar_pks5{a b:Int}{c:Nat}:0≤a→a≤b→b≤(c:Int)→((min b.toNat c-a.toNat:Nat):Int)=b-a:=Ly.lin (.im (.Z .O .A) (.im (.Z .A .B) (.im (.Z .B (.c .A)) (.F (.c (.s (.m (.t .B) .A) (.t .A))) (.s .B .A))))) [c] [a,b]
theorem ar_ile1{a b c:Int}{d:Nat}:a=1+1→b≤a→b=c→c=(d:Int)→¬2<(d:Int):=Ly.lin (.im (.F .A (.a .I .I)) (.im (.Z .B .A) (.im (.F .B .C) (.im (.F .C (.c .A)) (.no (.Y (.n 2) (.c .A))))))) [d] [a,b,c]
theorem ar_v0o1{a b c:Int}{d:Nat}:a=1+1→¬b≤a→b=c→c=(d:Int)→2<(d:Int):=Ly.lin (.im (.F .A (.a .I .I)) (.im (.no (.Z .B .A)) (.im (.F .B .C) (.im (.F .C (.c .A)) (.Y (.n 2) (.c .A)))))) [d] [a,b,c]
theorem ar_guig{a b:Nat}:a<b→(a:Int)+((b:Int)-(a:Int))/2=((a+(b-a)/2:Nat):Int):=Ly.lin (.im (.an (.Z (.k 2 .A) (.s (.c .B) (.c .A))) (.Y (.s (.c .B) (.c .A)) (.a (.k 2 .A) (.n 2)))) (.im (.an (.N (.k 2 .C) (.s .B .A)) (.M (.s .B .A) (.a (.k 2 .C) (.n 2)))) (.im (.M .A .B) (.F (.a (.c .A) .A) (.c (.a .A .C)))))) [a,b,(b-a)/2] [((b:Int)-(a:Int))/2] 3 6 (by kernel_rfl) (Ly.dvi _ 1) (Ly.dvn _ 1)
theorem ar_bm34{a b c d e:Nat}:a≤2500→b≤a+10→c≤b+4→d=c-e→d≤4000:=Ly.lin (.im (.N .A (.n 2500)) (.im (.N .B (.a .A (.n 10))) (.im (.N .C (.a .B (.n 4))) (.im (.E .D (.s .C (.v 4))) (.N .D (.n 4000)))))) [a,b,c,d,e] [] 6 12
theorem ar_dgyw{a b c:Nat}:a+(b+1)=c→(c:Int)-1-(a:Int)=((c-1-a:Nat):Int):=Ly.lin (.im (.E (.a .A (.a .B .I)) .C) (.F (.s (.s (.c .C) .I) (.c .A)) (.c (.s (.s .C .I) .A)))) [a,b,c]
theorem ar_3cyv{a:Int}{b:Nat}:a<0→max 0 (min (a+(b:Int)) (b:Int))=((Int.toNat (a+(b:Int)):Nat):Int):=Ly.lin (.im (.an (.an (.Z .O .B) (.Z (.m (.a .A (.c .A)) (.c .A)) .B)) (.or (.F .B .O) (.F .B (.m (.a .A (.c .A)) (.c .A))))) (.im (.Y .A .O) (.F .B (.c (.t (.a .A (.c .A))))))) [b] [a,max 0 (min (a+(b:Int)) (b:Int))] 1 4 (by kernel_rfl) (Ly.mx _)
theorem ar_a1ta{a b:Int}{c d:Nat}:a=b→b=(c:Int)→(d:Int)≤a→((c-d:Nat):Int)=a-(d:Int):=Ly.lin (.im (.F .A .B) (.im (.F .B (.c .A)) (.im (.Z (.c .B) .A) (.F (.c (.s .A .B)) (.s .A (.c .B)))))) [c,d] [a,b]
theorem ar_p4e7{a b:Nat}{c:Int}{d:Nat}{e:Prop}:a+1≤0→(b=a+1→c=(-1)∧d=a+1)∧e:=by intros;first|lia|omega
theorem ar_t1ve{a b c:Int}{d e:Nat}:a≤b→b=c→c=(d:Int)→e≤d-a.toNat→(e:Int)≤b-a:=Ly.lin (.im (.Z .A .B) (.im (.F .B .C) (.im (.F .C (.c .A)) (.im (.N .B (.s .A (.t .A))) (.Z (.c .B) (.s .B .A)))))) [d,e] [a,b,c]
theorem ar_y9kj{a b:Int}{c d:Nat}{e:Int}:a=b→b=(c:Int)→a-(d:Int)=e→e-1≤(c:Int):=Ly.lin (.im (.F .A .B) (.im (.F .B (.c .A)) (.im (.F (.s .A (.c .B)) .C) (.Z (.s .C .I) (.c .A))))) [c,d] [a,b,e]
theorem ar_e35p{a b:Nat}{c:Int}:a+100*(b+1)≤400→a+20*Int.toNat (c/3%5)≤3000:=Ly.lin (.im (.an (.Z .O .A) (.Y .A (.n 5))) (.im (.N (.a .A (.k 100 (.a .B .I))) (.n 400)) (.N (.a .A (.k 20 (.t .A))) (.n 3000)))) [a,b] [c/3%5] 3 6 (by kernel_rfl) (Ly.md _ 4)
theorem ar_u6g1{a b c d e f:Nat}:a≤3000→b=a-c→d=b-e→f≤10→d+f≤4000:=Ly.lin (.im (.N .A (.n 3000)) (.im (.E .B (.s .A .C)) (.im (.E .D (.s .B (.v 4))) (.im (.N (.v 5) (.n 10)) (.N (.a .D (.v 5)) (.n 4000)))))) [a,b,c,d,e,f] [] 6 12
theorem ar_1avy{a b:Nat}:(a:Int)-1-((b+1:Nat):Int)=(a:Int)-1-(b:Int)+(-1):=Ly.lin (.F (.s (.s (.c .A) .I) (.c (.a .B .I))) (.a (.s (.s (.c .A) .I) (.c .B)) (.g .I))) [a,b]
theorem ar_vw7a{a b:Int}{c d:Nat}:0≤a→b=(c:Int)→(d:Int)<b-a→Int.toNat (a+(d:Int))<c:=Ly.lin (.im (.Z .O .A) (.im (.F .B (.c .A)) (.im (.Y (.c .B) (.s .B .A)) (.M (.t (.a .A (.c .B))) .A)))) [c,d] [a,b]
theorem ar_bygi{a:Nat}{b:Int}{c:Nat}{d:Int}:(a:Int)≤b-(c:Int)→b-(c:Int)-(a:Int)=d→0≤d:=Ly.lin (.im (.Z (.c .A) (.s .A (.c .B))) (.im (.F (.s (.s .A (.c .B)) (.c .A)) .B) (.Z .O .B))) [a,c] [b,d]
theorem ar_lzqd{a b:Int}{c d:Nat}{e:Int}:a=b→b=(c:Int)→a-(d:Int)=e→min e.toNat c=e.toNat:=Ly.lin (.im (.F .A .B) (.im (.F .B (.c .A)) (.im (.F (.s .A (.c .B)) .C) (.E (.m (.t .C) .A) (.t .C))))) [c,d] [a,b,e]
theorem ar_96tw{a:Int}{b c:Nat}{d:Int}:a=(b:Int)→b≤3000→(c:Int)<a-d→d+(c:Int)<4000:=Ly.lin (.im (.F .A (.c .A)) (.im (.N .A (.n 3000)) (.im (.Y (.c .B) (.s .A .B)) (.Y (.a .B (.c .B)) (.n 4000))))) [b,c] [a,d]
theorem ar_t922{a b:Int}{c d e:Nat}:a=b→b=(c:Int)→c-d-e=Int.toNat (a-(d:Int)-(e:Int)):=Ly.lin (.im (.F .A .B) (.im (.F .B (.c .A)) (.E (.s (.s .A .B) .C) (.t (.s (.s .A (.c .B)) (.c .C)))))) [c,d,e] [a,b]
theorem ar_ri80{a:Nat}{b c:Int}:(a:Int)<b-c→0≤c→c.toNat+(b.toNat-c.toNat-1-a)<b.toNat:=Ly.lin (.im (.Y (.c .A) (.s .A .B)) (.im (.Z .O .B) (.M (.a (.t .B) (.s (.s (.s (.t .A) (.t .B)) .I) .A)) (.t .A)))) [a] [b,c]
theorem ar_uaqf{a b:Int}{c:Nat}{d e:Int}{f:Nat}:a=b→b=(c:Int)→a≤d→d≤e→0≤d+((f:Int)-(a-e)):=Ly.lin (.im (.F .A .B) (.im (.F .B (.c .A)) (.im (.Z .A .C) (.im (.Z .C .D) (.Z .O (.a .C (.s (.c .B) (.s .A .D)))))))) [c,f] [a,b,d,e] 6 12
theorem ar_hq4w{a b:Int}{c d:Nat}:0≤a→b≤(c:Int)→(d:Int)<b-a→Int.toNat (b-1-(d:Int))<c:=Ly.lin (.im (.Z .O .A) (.im (.Z .B (.c .A)) (.im (.Y (.c .B) (.s .B .A)) (.M (.t (.s (.s .B .I) (.c .B))) .A)))) [c,d] [a,b]
theorem ar_3fj2{a b c d e f:Nat}:a≤2500→b≤a+10→c≤b+4→d=c-e→f≤d→f≤4000:=Ly.lin (.im (.N .A (.n 2500)) (.im (.N .B (.a .A (.n 10))) (.im (.N .C (.a .B (.n 4))) (.im (.E .D (.s .C (.v 4))) (.im (.N (.v 5) .D) (.N (.v 5) (.n 4000))))))) [a,b,c,d,e,f] [] 6 12
theorem ar_jb27{a b:Int}{c d e:Nat}{f:Int}:a=b→b=(c:Int)→a-(d:Int)-(e:Int)=f→f≤(c:Int):=Ly.lin (.im (.F .A .B) (.im (.F .B (.c .A)) (.im (.F (.s (.s .A (.c .B)) (.c .C)) .C) (.Z .C (.c .A))))) [c,d,e] [a,b,f]
theorem ar_ybyy{a:Nat}{b:Int}{c:Nat}{d:Int}:(a:Int)≤b-(c:Int)→b-(c:Int)-(a:Int)=d→((d.toNat:Nat):Int)=d:=Ly.lin (.im (.Z (.c .A) (.s .A (.c .B))) (.im (.F (.s (.s .A (.c .B)) (.c .A)) .B) (.F (.c (.t .B)) .B))) [a,c] [b,d]
theorem ar_uj16{a b c:Nat}:a+16*(2*(b+1))+64<c→a+3+16*(2*b+1)+64<c:=Ly.lin (.im (.M (.a (.a .A (.k 16 (.k 2 (.a .B .I)))) (.n 64)) .C) (.M (.a (.a (.a .A (.n 3)) (.k 16 (.a (.k 2 .B) .I))) (.n 64)) .C)) [a,b,c]
theorem ar_g0ng{a:Nat}{b c:Int}:(a:Int)<b-c→c.toNat+(b.toNat-c.toNat-1-a)=Int.toNat (b-1-(a:Int)):=Ly.lin (.im (.Y (.c .A) (.s .A .B)) (.E (.a (.t .B) (.s (.s (.s (.t .A) (.t .B)) .I) .A)) (.t (.s (.s .A .I) (.c .A))))) [a] [b,c]
theorem ar_1t2t{a:Int}:a.toNat≤4→a.toNat=0∨a.toNat=1∨a.toNat=2∨a.toNat=3∨a.toNat=4:=Ly.lin (.im (.N (.t .A) (.n 4)) (.or (.E (.t .A) .O) (.or (.E (.t .A) .I) (.or (.E (.t .A) (.n 2)) (.or (.E (.t .A) (.n 3)) (.E (.t .A) (.n 4))))))) [] [a]
theorem ar_8ylg{a b:Int}{c d:Nat}{e:Int}{f:Nat}:a=b→b=(c:Int)→c≤2900→a-(d:Int)=e→f=e.toNat→f≤3000:=Ly.lin (.im (.F .A .B) (.im (.F .B (.c .A)) (.im (.N .A (.n 2900)) (.im (.F (.s .A (.c .B)) .C) (.im (.E .C (.t .C)) (.N .C (.n 3000))))))) [c,d,f] [a,b,e]
theorem ar_t763{a b c d:Nat}:a+16*(2*b+1)+64<c→d≤a+16→d+16*(2*b)+64<c:=Ly.lin (.im (.M (.a (.a .A (.k 16 (.a (.k 2 .B) .I))) (.n 64)) .C) (.im (.N .D (.a .A (.n 16))) (.M (.a (.a .D (.k 16 (.k 2 .B))) (.n 64)) .C))) [a,b,c,d] [] 6 12
theorem ar_nh85{a b c:Int}{d e:Nat}:a≤b→c=(d:Int)→c≤3000→e≤100→min a.toNat d+e+(d-b.toNat)≤4000:=Ly.lin (.im (.Z .A .B) (.im (.F .C (.c .A)) (.im (.Z .C (.n 3000)) (.im (.N .B (.n 100)) (.N (.a (.a (.m (.t .A) .A) .B) (.s .A (.t .B))) (.n 4000)))))) [d,e] [a,b,c]
theorem ar_skh5{a b:Int}{c d:Nat}{e:Int}:a=b→b=(c:Int)→a-(d:Int)=e→((e.toNat:Nat):Int)=e→((min e.toNat c:Nat):Int)=e:=Ly.lin (.im (.F .A .B) (.im (.F .B (.c .A)) (.im (.F (.s .A (.c .B)) .C) (.im (.F (.c (.t .C)) .C) (.F (.c (.m (.t .C) .A)) .C))))) [c,d] [a,b,e]
theorem ar_92nz{a:Int}:a≤9→1≤a→¬a=6→a=1∨a=2∨a=3∨a=4∨a=5∨a=7∨a=8∨a=9:=Ly.lin (.im (.Z .A (.n 9)) (.im (.Z .I .A) (.im (.no (.F .A (.n 6))) (.or (.F .A .I) (.or (.F .A (.n 2)) (.or (.F .A (.n 3)) (.or (.F .A (.n 4)) (.or (.F .A (.n 5)) (.or (.F .A (.n 7)) (.or (.F .A (.n 8)) (.F .A (.n 9)))))))))))) [] [a]
theorem ar_u8nn{a b c:Int}{d e:Nat}:0≤a→a≤b→b=c→c=(d:Int)→c+((e:Int)-(b-a))=((min a.toNat d:Nat):Int)+(e:Int):=Ly.lin (.im (.Z .O .A) (.im (.Z .A .B) (.im (.F .B .C) (.im (.F .C (.c .A)) (.F (.a .C (.s (.c .B) (.s .B .A))) (.a (.c (.m (.t .A) .A)) (.c .B))))))) [d,e] [a,b,c]
theorem ar_qz53{a b c d e:Nat}:¬a=b→¬a<b→¬b<a→min (if b=b then c+1 else 0) (if b=b then d+1 else 0)≤(if b=a then e+1 else 0):=by intros;first|lia|omega
theorem ar_nq3t{a b:Int}:(-4000)≤a→a≤4000→(-4000)≤b→b≤4000→(((((-(2^63))≤a∧a<2^63)∧(-(2^63))≤b∧b<2^63)∧((-(2^63)):Int)≤4∧(4:Int)<2^63)∧((-(2^63)):Int)≤0∧(0:Int)<2^63)∧((0:Int)=0∨(-(2^63))≤b+(4-1)∧b+(4-1)<2^63):=Ly.lin (.im (.Z (.g (.n 4000)) .A) (.im (.Z .A (.n 4000)) (.im (.Z (.g (.n 4000)) .B) (.im (.Z .B (.n 4000)) (.an (.an (.an (.an (.an (.Z (.g (.n 9223372036854775808)) .A) (.Y .A (.n 9223372036854775808))) (.an (.Z (.g (.n 9223372036854775808)) .B) (.Y .B (.n 9223372036854775808)))) (.an (.Z (.g (.n 9223372036854775808)) (.n 4)) (.Y (.n 4) (.n 9223372036854775808)))) (.an (.Z (.g (.n 9223372036854775808)) .O) (.Y .O (.n 9223372036854775808)))) (.or (.F .O .O) (.an (.Z (.g (.n 9223372036854775808)) (.a .B (.s (.n 4) .I))) (.Y (.a .B (.s (.n 4) .I)) (.n 9223372036854775808))))))))) [] [a,b]
theorem ar_4lx6{a b:Int}:(-4000)≤a→a≤4000→(-4000)≤b→b≤4000→(((((-(2^63))≤a∧a<2^63)∧(-(2^63))≤b∧b<2^63)∧((-(2^63)):Int)≤(-1)∧((-1):Int)<2^63)∧((-(2^63)):Int)≤0∧(0:Int)<2^63)∧((0:Int)=0∨(-(2^63))≤b+((-1)+1)∧b+((-1)+1)<2^63):=Ly.lin (.im (.Z (.g (.n 4000)) .A) (.im (.Z .A (.n 4000)) (.im (.Z (.g (.n 4000)) .B) (.im (.Z .B (.n 4000)) (.an (.an (.an (.an (.an (.Z (.g (.n 9223372036854775808)) .A) (.Y .A (.n 9223372036854775808))) (.an (.Z (.g (.n 9223372036854775808)) .B) (.Y .B (.n 9223372036854775808)))) (.an (.Z (.g (.n 9223372036854775808)) (.g .I)) (.Y (.g .I) (.n 9223372036854775808)))) (.an (.Z (.g (.n 9223372036854775808)) .O) (.Y .O (.n 9223372036854775808)))) (.or (.F .O .O) (.an (.Z (.g (.n 9223372036854775808)) (.a .B (.a (.g .I) .I))) (.Y (.a .B (.a (.g .I) .I)) (.n 9223372036854775808))))))))) [] [a,b]
theorem ar_m62z{a b:Int}:(-4000)≤a→a≤4000→(-4000)≤b→b≤4000→(((((-(2^63))≤a∧a<2^63)∧(-(2^63))≤b∧b<2^63)∧((-(2^63)):Int)≤(-1)∧((-1):Int)<2^63)∧(-(2^63))≤a-b∧a-b<2^63)∧(a-b=0∨(-(2^63))≤b+((-1)+1)∧b+((-1)+1)<2^63):=Ly.lin (.im (.Z (.g (.n 4000)) .A) (.im (.Z .A (.n 4000)) (.im (.Z (.g (.n 4000)) .B) (.im (.Z .B (.n 4000)) (.an (.an (.an (.an (.an (.Z (.g (.n 9223372036854775808)) .A) (.Y .A (.n 9223372036854775808))) (.an (.Z (.g (.n 9223372036854775808)) .B) (.Y .B (.n 9223372036854775808)))) (.an (.Z (.g (.n 9223372036854775808)) (.g .I)) (.Y (.g .I) (.n 9223372036854775808)))) (.an (.Z (.g (.n 9223372036854775808)) (.s .A .B)) (.Y (.s .A .B) (.n 9223372036854775808)))) (.or (.F (.s .A .B) .O) (.an (.Z (.g (.n 9223372036854775808)) (.a .B (.a (.g .I) .I))) (.Y (.a .B (.a (.g .I) .I)) (.n 9223372036854775808))))))))) [] [a,b]
theorem ar_nhn8{a b:Int}:(-4000)≤a→a≤4000→(-4000)≤b→b≤4000→(((((-(2^63))≤a∧a<2^63)∧(-(2^63))≤b∧b<2^63)∧((-(2^63)):Int)≤4∧(4:Int)<2^63)∧(-(2^63))≤(b-a-1)/4+1∧(b-a-1)/4+1<2^63)∧((b-a-1)/4+1=0∨(-(2^63))≤b+(4-1)∧b+(4-1)<2^63):=Ly.lin (.im (.an (.Z (.k 4 .C) (.s (.s .B .A) .I)) (.Y (.s (.s .B .A) .I) (.a (.k 4 .C) (.n 4)))) (.im (.Z (.g (.n 4000)) .A) (.im (.Z .A (.n 4000)) (.im (.Z (.g (.n 4000)) .B) (.im (.Z .B (.n 4000)) (.an (.an (.an (.an (.an (.Z (.g (.n 9223372036854775808)) .A) (.Y .A (.n 9223372036854775808))) (.an (.Z (.g (.n 9223372036854775808)) .B) (.Y .B (.n 9223372036854775808)))) (.an (.Z (.g (.n 9223372036854775808)) (.n 4)) (.Y (.n 4) (.n 9223372036854775808)))) (.an (.Z (.g (.n 9223372036854775808)) (.a .C .I)) (.Y (.a .C .I) (.n 9223372036854775808)))) (.or (.F (.a .C .I) .O) (.an (.Z (.g (.n 9223372036854775808)) (.a .B (.s (.n 4) .I))) (.Y (.a .B (.s (.n 4) .I)) (.n 9223372036854775808)))))))))) [] [a,b,(b-a-1)/4] 0 6 (by kernel_rfl) (Ly.dvi _ 3)
end Mine

open PySem
set_option maxRecDepth 100000
set_option Elab.async false
set_option backward.match.sparseCases false
namespace Mine
theorem const_ex (e:PySem.Expr) (h:e.ctorIdx=19):∃ c k p,e=.Constant c k p:=PySem.Expr.Constant.elim (motive_1:=fun e=>∃ c k p,e=.Constant c k p) e h fun c k p=>⟨c,k,p,rfl⟩
noncomputable def constOf (e:PySem.Expr):Option Const:=if h:e.ctorIdx=19 then PySem.Expr.Constant.elim (motive_1:=fun _=>Option Const) e h fun c _ _=>some c else none
theorem constOf_is {e:PySem.Expr} {c:Const} (h:constOf e=some c):∃ k p,e=.Constant c k p:=by
  unfold constOf at h
  by_cases q:e.ctorIdx=19
  · obtain ⟨c',k,p,rfl⟩:=const_ex e q
    exact ⟨k,p,by rw [Option.some.inj (h:some c'=some c)]⟩
  · rw [dif_neg q] at h;exact (Option.some_ne_none _ h.symm).elim
noncomputable def strC (c:Const):Option Str:=match c with
  | .str y=>some y
  | _=>none
theorem strC_is {c:Const} {x:Str} (h:strC c=some x):c=.str x:=by
  cases c<;>first | (rw [Option.some.inj h];done) | exact (Option.some_ne_none _ h.symm).elim
noncomputable def strOf (e:PySem.Expr):Option Str:=(constOf e).bind strC
theorem strOf_is {e:PySem.Expr} {x:Str} (h:strOf e=some x):∃ k p,e=.Constant (.str x) k p:=by
  obtain ⟨c,h1,h2⟩:=Option.bind_eq_some_iff.mp h
  rw [strC_is h2] at h1
  exact constOf_is h1
theorem name_ex (e:PySem.Expr) (h:e.ctorIdx=23):∃ n p,e=.Name n p:=PySem.Expr.Name.elim (motive_1:=fun e=>∃ n p,e=.Name n p) e h fun n p=>⟨n,p,rfl⟩
noncomputable def asName (e:PySem.Expr):Option (Str × Pos):=if h:e.ctorIdx=23 then PySem.Expr.Name.elim (motive_1:=fun _=>Option (Str × Pos)) e h fun n p=>some (n,p) else none
theorem asName_is {e:PySem.Expr} {n:Str} {p:Pos} (h:asName e=some (n,p)):e=.Name n p:=by
  unfold asName at h
  by_cases q:e.ctorIdx=23
  · obtain ⟨n',p',rfl⟩:=name_ex e q
    obtain ⟨h1,h2⟩:=Prod.mk.inj (Option.some.inj (h:some (n',p')=some (n,p)))
    rw [h1,h2]
  · rw [dif_neg q] at h;exact (Option.some_ne_none _ h.symm).elim
theorem call_ex (e:PySem.Expr) (h:e.ctorIdx=16):∃ f a k p,e=.Call f a k p:=PySem.Expr.Call.elim (motive_1:=fun e=>∃ f a k p,e=.Call f a k p) e h fun f a k p=>⟨f,a,k,p,rfl⟩
theorem tup_ex (e:PySem.Expr) (h:e.ctorIdx=25):∃ es i p,e=.Tuple es i p:=PySem.Expr.Tuple.elim (motive_1:=fun e=>∃ es i p,e=.Tuple es i p) e h fun es i p=>⟨es,i,p,rfl⟩
theorem slice_ex (e:PySem.Expr) (h:e.ctorIdx=26):∃ a b c p,e=.Slice a b c p:=PySem.Expr.Slice.elim (motive_1:=fun e=>∃ a b c p,e=.Slice a b c p) e h fun a b c p=>⟨a,b,c,p,rfl⟩
theorem comp_ex (e:PySem.Expr) (h:e.ctorIdx=8):∃ a b c p,e=.ListComp a b c p:=PySem.Expr.ListComp.elim (motive_1:=fun e=>∃ a b c p,e=.ListComp a b c p) e h fun a b c p=>⟨a,b,c,p,rfl⟩
noncomputable def asTupV (e:PySem.Expr):Option (List PySem.Expr):=if h:e.ctorIdx=25 then PySem.Expr.Tuple.elim (motive_1:=fun _=>Option (List PySem.Expr)) e h fun es _ _=>some es else none
theorem asTupV_is {e:PySem.Expr} {es:List PySem.Expr} (h:asTupV e=some es):∃ i p,e=.Tuple es i p:=by
  unfold asTupV at h
  by_cases q:e.ctorIdx=25
  · obtain ⟨es',i,p,rfl⟩:=tup_ex e q
    exact ⟨i,p,by rw [Option.some.inj (h:some es'=some es)]⟩
  · rw [dif_neg q] at h;exact (Option.some_ne_none _ h.symm).elim
noncomputable def asCallV (e:PySem.Expr):Option (PySem.Expr × List PySem.Expr × List PySem.Keyword × Pos):=if h:e.ctorIdx=16 then PySem.Expr.Call.elim (motive_1:=fun _=>Option (PySem.Expr × List PySem.Expr × List PySem.Keyword × Pos)) e h fun f a k p=>some (f,a,k,p) else none
theorem asCallV_is {e f:PySem.Expr} {a:List PySem.Expr} {k:List PySem.Keyword} {p:Pos} (h:asCallV e=some (f,a,k,p)):e=.Call f a k p:=by
  unfold asCallV at h
  by_cases q:e.ctorIdx=16
  · obtain ⟨f',a',k',p',rfl⟩:=call_ex e q
    obtain ⟨h1,h2⟩:=Prod.mk.inj (Option.some.inj (h:some (f',a',k',p')=some (f,a,k,p)))
    obtain ⟨h2,h3⟩:=Prod.mk.inj h2
    obtain ⟨h3,h4⟩:=Prod.mk.inj h3
    rw [h1,h2,h3,h4]
  · rw [dif_neg q] at h;exact (Option.some_ne_none _ h.symm).elim
section
variable {α:Type} {l r:List α} {v:α} {j:Nat} (hd:l.drop j=v::r)
include hd
theorem drop_at:l[j]?=some v:=by
  have h:(l.drop j)[0]?=l[j+0]?:=List.getElem?_drop
  rw [hd] at h
  exact h.symm
theorem drop_lt:j < l.length:=(List.getElem?_eq_some_iff.mp (drop_at hd)).1
theorem drop_next:r=l.drop (j+1):=by rw [← List.tail_drop,hd];rfl
end
theorem os_at {α:Type} {l:List α} {a:α} {n:Nat} (h:l.length=n):(l++[a])[n]?=some a:=by rw [← h];simp
end Mine

open PySem PySem.W PyProof.Rows
set_option maxRecDepth 100000
set_option Elab.async false
set_option backward.match.sparseCases false
namespace Mine
noncomputable def unk:Obj:={ cls:=.none,data:=.freed }
structure KS where
  t:BT
  n:Nat
  toks:Nat
  ghost:Option Nat
noncomputable def known (t:BT) (a:Addr):Option Obj:=match t.get a with
  | some o=>alive o
  | none=>none
theorem alive_some {o o':Obj} (h:alive o=some o'):o'=o∧o.isFreed=false:=by
  obtain ⟨c,d,dt,sl⟩:=o
  cases dt<;>simp [alive] at h<;>first | (subst h;exact ⟨rfl,rfl⟩) | exact h.elim
theorem alive_of {o:Obj} (h:o.isFreed=false):alive o=some o:=by
  obtain ⟨c,d,dt,sl⟩:=o
  cases dt<;>first | rfl | cases h
noncomputable def isGhost:Option Nat→Nat→Bool
  | none,_=>false
  | some d,a=>Nat.beq d a
theorem isGhost_ne {g:Option Nat} {a:Nat} (h:isGhost g a=false):∀ d,g=some d→d≠a:=by
  rintro d rfl
  exact Nat.ne_of_beq_eq_false h
noncomputable def gk {β:Type} (g:Option Nat) (k:Option Nat→β):β:=match g with
  | none=>k none
  | some d=>k (some d)
theorem gk_eq {β:Type} (g:Option Nat) (k:Option Nat→β):gk g k=k g:=by cases g<;>rfl
noncomputable abbrev Out (α:Type):=Option (Except Value α × Option Pos × KS)
noncomputable def ev {α:Type} (prog:Program) (P:Params) (callF:Ctx→Pos→KS→Option (Result × KS)) (Γ:Ctx) (t:Sem α):Option Pos→KS→Out α:=
  @Sem.rec α (fun _=>Option Pos→KS→Out α)
    (fun a p s=>some (.ok a,p,s))
    (fun e p s=>some (.error e,p,s))
    (fun _ _ _=>none)
    (fun _ _ _=>none)
    (fun _ _ ih p s=>ih () p s)
    (fun p _ ih _ s=>ih () (some p) s)
    (fun a _ _ ih p s=>match known s.t a with | some o=>ih o p s | none=>none)
    (fun a _ f _ ih p s=>gk s.ghost fun g=>match isGhost g a,known s.t a with
      | false,some o=>(match alive (f o) with
        | some _=>ih () p ⟨s.t.set a f,s.n,s.toks,g⟩
        | none=>none)
      | _,_=>none)
    (fun o _ ih p s=>match alive o with
      | some _=>(match ((s.t.ins s.n o).get s.n).isSome with
        | true=>ih s.n p ⟨s.t.ins s.n o,s.n+1,s.toks,s.ghost⟩
        | false=>none)
      | none=>none)
    (fun a _ ih p s=>match known s.t a with | some o=>ih (some o) p s | none=>none)
    (fun _ _ ih p s=>ih () p s)
    (fun _ _ _ _ _=>none)
    (fun _ ih p s=>ih s.toks p ⟨s.t,s.n,s.toks+1,s.ghost⟩)
    (fun _ ih p s=>ih ⟨prog,P⟩ p s)
    (fun _ _ _ _ _ _=>none)
    (fun _ _ _ _ _ _=>none)
    (fun c h _ _ _ ih p s=>match p with
      | some p=>(match callF (Γ.enter c h p) p s with
        | some (r,s')=>ih r (some p) s'
        | none=>none)
      | none=>none)
    (fun own _ ih p s=>ih (match own with | true=>Γ.own | false=>Γ.handled) p s)
    (fun _ _ _ _ _=>none)
    (fun _ _ _ _ _=>none)
    (fun _ _ _ _ _ _ _=>none)
    (fun _ _ _ _ _ _ _=>none)
    (fun _ ih p s=>match p with | some p=>ih ((Γ.code,p)::Γ.below) (some p) s | none=>none)
    (fun _ _ _ _ _=>none)
    (fun _ ih p s=>ih 0 p s)
    (fun _ _ _ _ _ _ _ _=>none) t
noncomputable def PosOk:Option Pos→Pos→Prop
  | none,_=>True
  | some p,q=>p=q
noncomputable def vows:List Str:=["a","e","i","o","u","á","é","í","ó","ú","ü"]
noncomputable def isVow (k:Str):Bool:=vows.contains k
noncomputable def VSet (prog:Program) (w:World) (X:Obj) (n:Nat):Prop:=X.SetObjOf (strKind prog w) isVow n∧n < 4096
structure Rel (prog:Program) (w:World) (s₀:Shared) (ks:KS) (s:Shared):Prop where
  size:s.heap.objs.size=ks.n
  kt:∀ a o,known ks.t a=some o→s.heap.get? a=some o
  toks:s.toks=ks.toks
  gens:s.gens=s₀.gens
  drawn:s.drawn=s₀.drawn
  os:s.os=s₀.os
  ghost:∀ d,ks.ghost=some d→d < ks.n∧∃ X n,known ks.t d=some X∧VSet prog w X n
  all:∀ a,a < ks.n→∃ o,known ks.t a=some o
  life:ks.ghost=none→s.heap.life=s₀.heap.life
section
variable {prog:Program} {w:World} {s₀:Shared}
theorem known_set {t:BT} {a:Addr} {f:Obj→Obj} {o:Obj} (hk:known t a=some o) (hf:alive (f o)=some (f o)) (b:Addr):known (t.set a f) b=if b=a then some (f o) else known t b:=by
  unfold known
  rw [BT.get_set]
  by_cases h:b=a
  · subst h
    simp only [if_true]
    unfold known at hk
    cases hg:t.get b with
    | none=>rw [hg] at hk;cases hk
    | some o'=>
      rw [hg] at hk
      dsimp only at hk
      obtain ⟨rfl,_⟩:=alive_some hk
      exact hf
  · simp only [if_neg h]
theorem known_ins {t:BT} {n:Nat} {o:Obj} (hg:((t.ins n o).get n).isSome=true) (b:Addr):known (t.ins n o) b=if b=n then alive o else known t b:=by
  unfold known
  rw [BT.get_ins o t n hg]
  by_cases h:b=n
  · simp only [if_pos h]
  · simp only [if_neg h]
inductive Ends (M:Model) (Γ:Ctx) {α:Type} (t:Sem α) (Q:α→Pos→Shared→Prop) (E:Value→Pos→Shared→Prop) (p:Pos) (s:Shared):Prop
  | ok (a:α) (p':Pos) (s':Shared) (h:Q a p' s') (c:∀ (Q':α→Pos→Shared→Prop) (E':Value→Pos→Shared→Prop),Q' a p' s'→Sem.wp M Γ t Q' E' p s):Ends M Γ t Q E p s
  | err (e:Value) (p':Pos) (s':Shared) (h:E e p' s') (c:∀ (Q':α→Pos→Shared→Prop) (E':Value→Pos→Shared→Prop),E' e p' s'→Sem.wp M Γ t Q' E' p s):Ends M Γ t Q E p s
theorem Ends.up {M:Model} {Γ Γ':Ctx} {α:Type} {t t':Sem α} {Q:α→Pos→Shared→Prop} {E:Value→Pos→Shared→Prop} {p p':Pos} {s s':Shared} (h:Ends M Γ' t' Q E p' s')
    (k:∀ (Q':α→Pos→Shared→Prop) (E':Value→Pos→Shared→Prop),Sem.wp M Γ' t' Q' E' p' s'→Sem.wp M Γ t Q' E' p s):Ends M Γ t Q E p s:=by
  cases h with
  | ok a q r h c=>exact .ok a q r h fun Q' E' z=>k Q' E' (c Q' E' z)
  | err a q r h c=>exact .err a q r h fun Q' E' z=>k Q' E' (c Q' E' z)
theorem wp_ends {M:Model} {Γ:Ctx} {α:Type} {Q:α→Pos→Shared→Prop} {E:Value→Pos→Shared→Prop} (t:Sem α):∀ (p:Pos) (s:Shared),Sem.wp M Γ t Q E p s→Ends M Γ t Q E p s:=by
  induction t with
  | pure a=>exact fun p s h=>.ok a p s h fun _ _ h=>h
  | raise e=>exact fun p s h=>.err e p s h fun _ _ h=>h
  | unsupported | finish | yield | fork | await | register=>exact fun p s h=>h.elim
  | rule _ k ih | «at» _ k ih | alloc _ k ih | loadIfAlive _ k ih | point _ k ih | fresh k ih | ask k ih | os _ _ k ih | handled _ k ih | newGen _ k ih | stack k ih | thread k ih=>exact fun p s h=>(ih _ _ _ h).up fun _ _ z=>z
  | load a _ k ih | genState a k ih=>exact fun p s h=>h.elim fun o h=>(ih _ _ _ h.2).up fun _ _ z=>⟨o,h.1,z⟩
  | update a _ f k ih | choose _ _ k ih=>exact fun p s h=>(ih _ _ _ h.2).up fun _ _ z=>⟨h.1,z⟩
  | call c _ g l k ih | resume g r l k ih=>exact fun p s h=>h.elim fun r h=>h.elim fun s₁ h=>(ih _ _ _ h.2).up fun _ _ z=>⟨r,s₁,h.1,z⟩
noncomputable def absS (s₀:Shared) (ks:KS):Shared:=⟨absHeap ks.t ks.n s₀.heap.life,s₀.gens,s₀.drawn,ks.toks,s₀.os⟩
theorem Rel.abs {ks:KS} {s:Shared} (R:Rel prog w s₀ ks s) (g:ks.ghost=none):s=absS s₀ ks:=by
  have h1:=R.all
  have h2:=R.life g
  obtain ⟨heap,gens,drawn,toks,os⟩:=s
  have e:heap=absHeap ks.t ks.n s₀.heap.life:=by
    obtain ⟨objs,life⟩:=heap
    obtain rfl:life=s₀.heap.life:=h2
    have:objs=(absHeap ks.t ks.n s₀.heap.life).objs:=by
      apply Array.ext_getElem?
      intro i
      rw [absHeap_at]
      by_cases hi:i < ks.n
      · obtain ⟨o,ho⟩:=h1 i hi
        have z:=(Heap.get?_some_iff.mp (R.kt i o ho)).1
        rw [if_pos hi]
        unfold known at ho
        cases q:ks.t.get i with
        | none=>rw [q] at ho;cases ho
        | some o'=>
          rw [q] at ho
          obtain rfl:=(alive_some ho).1
          exact z
      · rw [if_neg hi]
        have:objs.size=ks.n:=R.size
        exact Array.getElem?_eq_none (by (exact ar_ttt4 hi this))
    rw [this];rfl
  have e1:=R.gens
  have e2:=R.drawn
  have e3:=R.toks
  have e4:=R.os
  dsimp only at e1 e2 e3 e4
  subst e e1 e2 e3 e4
  rfl
theorem Rel.lt {ks:KS} {s:Shared} (R:Rel prog w s₀ ks s) {a:Addr} {o:Obj} (h:known ks.t a=some o):a < ks.n:=by
  have:=Heap.lt_size (R.kt a o h)
  rw [R.size] at this
  exact this
theorem Rel.upd {ks:KS} {s:Shared} (R:Rel prog w s₀ ks s) {a:Addr} {o:Obj} {f:Obj→Obj} (hk:known ks.t a=some o) (hf:alive (f o)=some (f o)) (hg:isGhost ks.ghost a=false) :
    Rel prog w s₀ ⟨ks.t.set a f,ks.n,ks.toks,ks.ghost⟩ { s with heap:=s.heap.update a f } where
  size:=by show (s.heap.update a f).objs.size=_;rw [Heap.size_after_update];exact R.size
  kt:=fun b o' h=>by
    dsimp only at h
    rw [known_set hk hf] at h
    by_cases e:b=a
    · subst e
      rw [if_pos rfl] at h
      cases h
      exact Heap.get?_update_self _ (R.kt _ _ hk) (alive_some hf).2
    · rw [if_neg e] at h
      exact (Heap.get?_update_other _ _ (Ne.symm e)).trans (R.kt _ _ h)
  toks:=R.toks
  gens:=R.gens
  drawn:=R.drawn
  os:=R.os
  ghost:=fun d hd=>by
    obtain ⟨h1,X,n,hX,hs⟩:=R.ghost d hd
    have e:d≠a:=isGhost_ne hg d hd
    refine ⟨h1,X,n,?_,hs⟩
    show known (ks.t.set a f) d=some X
    rw [known_set hk hf,if_neg e];exact hX
  all:=fun b hb=>by
    show ∃ o,known (ks.t.set a f) b=some o
    rw [known_set hk hf]
    by_cases e:b=a
    · exact ⟨_,if_pos e⟩
    · rw [if_neg e];exact R.all b hb
  life:=fun g=>by
    rw [← R.life g];show (s.heap.update a f).life=_
    cases s.heap;rfl
theorem Rel.alloc {ks:KS} {s:Shared} (R:Rel prog w s₀ ks s) {o:Obj} (ho:alive o=some o) (hg:((ks.t.ins ks.n o).get ks.n).isSome=true) :
    Rel prog w s₀ ⟨ks.t.ins ks.n o,ks.n+1,ks.toks,ks.ghost⟩ { s with heap:=s.heap.push o } where
  size:=by show (s.heap.push o).objs.size=_;rw [Heap.size_push,R.size]
  kt:=fun b o' h=>by
    dsimp only at h
    rw [known_ins hg] at h
    by_cases e:b=ks.n
    · subst e
      rw [if_pos rfl] at h
      obtain ⟨rfl,hf⟩:=alive_some h
      rw [← R.size]
      exact Heap.get?_push_size _ hf
    · rw [if_neg e] at h
      exact Heap.get?_push_of_some _ (R.kt _ _ h)
  toks:=R.toks
  gens:=R.gens
  drawn:=R.drawn
  os:=R.os
  ghost:=fun d hd=>by
    obtain ⟨h1,X,n,hX,hs⟩:=R.ghost d hd
    refine ⟨Nat.lt_succ_of_lt h1,X,n,?_,hs⟩
    show known (ks.t.ins ks.n o) d=some X
    rw [known_ins hg,if_neg (Nat.ne_of_lt h1)];exact hX
  all:=fun b hb=>by
    show ∃ o',known (ks.t.ins ks.n o) b=some o'
    rw [known_ins hg]
    by_cases e:b=ks.n
    · exact ⟨o,by rw [if_pos e];exact ho⟩
    · rw [if_neg e];exact R.all b (Nat.lt_of_le_of_ne (Nat.le_of_lt_succ hb) e)
  life:=fun g=>by
    rw [← R.life g];show (s.heap.push o).life=_
    cases s.heap;rfl
noncomputable abbrev EndOf {α:Type} (prog:Program) (w:World) (s₀:Shared) (out:Except Value α × Option Pos × KS) (r:Except Value α) (p:Pos) (s:Shared):Prop:=
  out.1=r∧PosOk out.2.1 p∧Rel prog w s₀ out.2.2 s
theorem noO {α:Type} {x:α} {G:Prop} (h:(none:Option α)=some x):G:=(Option.some_ne_none _ h.symm).elim
theorem mo_el {β:Type} {o:Option Obj} {f:Obj→Option β} {b:β} {G:Prop} (h:(match o with | some x=>f x | none=>none)=some b) (c:∀ x,o=some x→f x=some b→G):G:=by
  cases o with
  | none=>exact noO h
  | some x=>exact c x rfl h
theorem mc_el {β:Type} {o:Option (Result × KS)} {f:Result→KS→Option β} {b:β} {G:Prop} (h:(match o with | some (r,s')=>f r s' | none=>none)=some b) (c:∀ r s',o=some (r,s')→f r s'=some b→G):G:=by
  cases o with
  | none=>exact noO h
  | some x=>exact c x.1 x.2 rfl h
theorem mb_el {β:Type} {c:Bool} {x:Option β} {b:β} {G:Prop} (h:(match c with | true=>x | false=>none)=some b) (k:c=true→x=some b→G):G:=by
  cases c with
  | false=>exact noO h
  | true=>exact k rfl h
theorem mbo_el {β:Type} {c:Bool} {o:Option Obj} {f:Obj→Option β} {b:β} {G:Prop} (h:(match c,o with | false,some x=>f x | _,_=>none)=some b) (k:∀ x,c=false→o=some x→f x=some b→G):G:=by
  cases c with
  | true=>exact noO h
  | false=>cases o with
    | none=>exact noO h
    | some x=>exact k x rfl rfl h
theorem ev_sound {α:Type} {callF:Ctx→Pos→KS→Option (Result × KS)} {Γ:Ctx}
    (hcall:∀ Γ' p ks r ks' s,callF Γ' p ks=some (r,ks')→Rel prog w s₀ ks s→wpCode (model prog w) Γ' (fun r' s'=>r'=r∧Rel prog w s₀ ks' s') p s) (t:Sem α) :
    ∀ (po:Option Pos) (ks:KS) (out:Except Value α × Option Pos × KS),ev prog w.params callF Γ t po ks=some out→∀ (p:Pos) (s:Shared),PosOk po p→Rel prog w s₀ ks s →
      Sem.wp (model prog w) Γ t (fun a p' s'=>EndOf prog w s₀ out (.ok a) p' s') (fun e p' s'=>EndOf prog w s₀ out (.error e) p' s') p s:=by
  induction t with
  | pure a=>exact fun po ks out h p s hp R=>Option.some.inj h▸⟨rfl,hp,R⟩
  | raise e=>exact fun po ks out h p s hp R=>Option.some.inj h▸⟨rfl,hp,R⟩
  | unsupported | finish | register | choose | os | newGen | genState | resume | yield | fork | await=>exact fun po ks out h=>noO h
  | rule _ k ih=>exact fun po ks out h p s hp R=>ih () po ks out h p s hp R
  | point _ k ih=>exact fun po ks out h p s hp R=>ih () po ks out h p s hp R
  | thread k ih=>exact fun po ks out h p s hp R=>ih 0 po ks out h p s hp R
  | «at» p' k ih=>exact fun po ks out h p s hp R=>ih () (some p') ks out h p' s rfl R
  | load a q k ih=>exact fun po ks out h p s hp R=>mo_el (o:=known ks.t a) (f:=fun o=>ev prog w.params callF Γ (k o) po ks) (b:=out) h fun o e h=>⟨o,R.kt _ _ e,ih o po ks out h p s hp R⟩
  | loadIfAlive a k ih=>
    refine fun po ks out h p s hp R=>mo_el (o:=known ks.t a) (f:=fun o=>ev prog w.params callF Γ (k (some o)) po ks) (b:=out) h fun o e h=>?_
    show Sem.wp _ _ (k (s.heap.get? a)) _ _ _ _
    rw [R.kt _ _ e]
    exact ih (some o) po ks out h p s hp R
  | update a q f k ih=>
    intro po ks out h p s hp R
    change gk ks.ghost (fun g=>match isGhost g a,known ks.t a with | false,some o=>(match alive (f o) with | some _=>ev prog w.params callF Γ (k ()) po ⟨ks.t.set a f,ks.n,ks.toks,g⟩ | none=>none) | _,_=>none)=some out at h
    rw [gk_eq] at h
    exact mbo_el (c:=isGhost ks.ghost a) (o:=known ks.t a) (b:=out) (f:=fun o=>match alive (f o) with | some _=>ev prog w.params callF Γ (k ()) po ⟨ks.t.set a f,ks.n,ks.toks,ks.ghost⟩ | none=>none) h fun o eg e h=>
      mo_el (o:=alive (f o)) (b:=out) (f:=fun _=>ev prog w.params callF Γ (k ()) po ⟨ks.t.set a f,ks.n,ks.toks,ks.ghost⟩) h fun o2 e2 h=>⟨by rw [R.kt _ _ e];rfl,ih () po _ out h p _ hp (R.upd e (e2.trans (congrArg some (alive_some e2).1)) eg)⟩
  | alloc o k ih=>
    refine fun po ks out h p s hp R=>mo_el (o:=alive o) (b:=out) (f:=fun _=>match ((ks.t.ins ks.n o).get ks.n).isSome with | true=>ev prog w.params callF Γ (k ks.n) po ⟨ks.t.ins ks.n o,ks.n+1,ks.toks,ks.ghost⟩ | false=>none) h fun o2 e h=>
      mb_el (c:=((ks.t.ins ks.n o).get ks.n).isSome) (x:=ev prog w.params callF Γ (k ks.n) po ⟨ks.t.ins ks.n o,ks.n+1,ks.toks,ks.ghost⟩) (b:=out) h fun e2 h=>?_
    show Sem.wp _ _ (k s.heap.objs.size) _ _ _ _
    rw [R.size]
    exact ih ks.n po _ out h p _ hp (R.alloc (e.trans (congrArg some (alive_some e).1)) e2)
  | fresh k ih=>
    intro po ks out h p s hp R
    have z:=ih ks.toks po ⟨ks.t,ks.n,ks.toks+1,ks.ghost⟩ out h p { s with toks:=s.toks+1 } hp ⟨R.size,R.kt,by show s.toks+1=_;rw [R.toks],R.gens,R.drawn,R.os,R.ghost,R.all,R.life⟩
    show Sem.wp _ _ (k s.toks) _ _ _ _
    rw [R.toks] at z ⊢;exact z
  | ask k ih=>intro po ks out h p s hp R;exact ih ⟨prog,w.params⟩ po ks out h p s hp R
  | call c hd g l k ih=>
    intro po ks out h p s hp R
    cases po with
    | none=>exact noO h
    | some q=>
      obtain rfl:q=p:=hp
      exact mc_el (o:=callF (Γ.enter c hd q) q ks) (b:=out) (f:=fun r s'=>ev prog w.params callF Γ (k r) (some q) s') h fun r ks' e h=>wpCode_mono (fun r' s' q'=>q'.1▸ih r (some q) ks' out h q s' rfl q'.2) (hcall _ _ _ r ks' s e R)
  | handled own k ih=>
    intro po ks out h p s hp R
    cases own with
    | true=>exact ih Γ.own po ks out h p s hp R
    | false=>exact ih Γ.handled po ks out h p s hp R
  | stack k ih=>
    intro po ks out h p s hp R
    cases po with
    | none=>exact noO h
    | some q=>
      obtain rfl:q=p:=hp
      exact ih _ (some q) ks out h q s rfl R
end
end Mine

open PySem PySem.W PyProof.Rows PySem.Calls
set_option maxRecDepth 100000
set_option Elab.async false
set_option backward.match.sparseCases false
namespace Mine
noncomputable def isStrE (e:PySem.Expr) (x:Str):Bool:=match strOf e with
  | some y=>decide (y=x)
  | none=>false
noncomputable def sameStrs:List PySem.Expr→List Str→Bool
  | [],[]=>true
  | e::es,x::xs=>isStrE e x&&sameStrs es xs
  | _,_=>false
section
variable {prog:Program} {w:World} {A:Around} {E:Value→Shared→Prop} {env:Env}
theorem sameStrs_cons {e:PySem.Expr} {es:List PySem.Expr} {x:Str} {xs:List Str} (h:sameStrs (e::es) (x::xs)=true):(∃ k p,e=.Constant (.str x) k p)∧sameStrs es xs=true:=by
  obtain ⟨h1,h2⟩:=Bool.and_eq_true_iff.mp (h:(isStrE e x&&sameStrs es xs)=true)
  refine ⟨?_,h2⟩
  unfold isStrE at h1
  cases q:strOf e with
  | none=>rw [q] at h1;cases h1
  | some y=>
    rw [q] at h1
    obtain rfl:=of_decide_eq_true h1
    exact strOf_is q
theorem sameStrs_len:∀ {es:List PySem.Expr} {xs:List Str},sameStrs es xs=true→es.length=xs.length
  | [],[],_=>rfl
  | [],_::_,h=>Bool.noConfusion h
  | _::_,[],h=>Bool.noConfusion h
  | _::_,_::_,h=>congrArg Nat.succ (sameStrs_len (sameStrs_cons h).2)
theorem sameStrs_plain:∀ {es:List PySem.Expr} {xs:List Str},sameStrs es xs=true→es.all kdsPlain=true
  | [],_,_=>rfl
  | _::_,[],h=>Bool.noConfusion h
  | e::es,x::xs,h=>by
    obtain ⟨⟨k,p,rfl⟩,h2⟩:=sameStrs_cons h
    rw [List.all_cons,sameStrs_plain h2];rfl
theorem all_consts:∀ (es:List PySem.Expr) (xs:List Str) (s:Shared) (Q:List Value→Shared→Prop),sameStrs es xs=true →
    (∀ ts:List Tok,ts.length=xs.length→Q (List.zipWith Value.str xs ts) { s with toks:=s.toks+xs.length })→KdsAll (model prog w) A E env es Q s
  | [],[],s,Q,_,h=>h [] rfl
  | [],_::_,_,_,h,_=>Bool.noConfusion h
  | _::_,[],_,_,h,_=>Bool.noConfusion h
  | e::es,x::xs,s,Q,h,hq=>by
    obtain ⟨⟨k,p,rfl⟩,h2⟩:=sameStrs_cons h
    show wpAny _ _ (eval (.Constant (.str x) k p) env) _ _ _
    rw [arm_eval_Constant]
    show wpAny _ _ (mkText x) _ _ _
    refine wpAny_mkText ?_
    refine all_consts es xs _ _ h2 fun ts ht=>?_
    have z:=hq (s.toks::ts) (by rw [List.length_cons,List.length_cons,ht])
    rw [List.zipWith_cons_cons,List.length_cons] at z
    have e:s.toks+1+xs.length=s.toks+(xs.length+1):=by (exact ar_xh1x)
    show Q _ { s with toks:=s.toks+1+xs.length }
    rw [e];exact z
variable {u:Bool} {d:Addr} {Q:Value→Shared→Prop}
theorem fill_strs:∀ (xs:List Str) (ts:List Tok) (s:Shared) (S:Str→Bool) (n:Nat),ts.length=xs.length→s.heap.SetOf (strKind prog w) d S n→n+xs.length < scanBound →
    (∀ h' n',Heap.SameBut d s.heap h'→h'.SetOf (strKind prog w) d (fun k=>S k||xs.contains k) n'→n'≤n+xs.length→KdsFill (model prog w) A E u d Q [] { s with heap:=h',toks:=s.toks+xs.length }) →
    KdsFill (model prog w) A E u d Q (List.zipWith Value.str xs ts) s
  | [],ts,s,S,n,ht,hS,_,h=>by
    have z:=h s.heap n (Heap.SameBut.refl _ _) (by
      have e:(fun k=>S k||([]:List Str).contains k)=S:=by funext k;simp
      rw [e];exact hS) (Nat.le_add_right _ _)
    cases s;exact z
  | x::xs,[],s,S,n,ht,hS,_,h=>by cases ht
  | x::xs,t::ts,s,S,n,ht,hS,hb,h=>by
    rw [List.zipWith_cons_cons]
    show wpAny _ _ (setAdd d (.str x t)) _ _ _
    rw [List.length_cons] at hb
    unfold setAdd
    have hkey:=strKind_is prog w x t
    refine wpAny_holding (wpAny_bind ((strKind prog w).pyHash hkey ?_))
    refine wpAny_setAddHashed_of (s:={ s with toks:=s.toks+1 }) hkey rfl hS (by (exact ar_zv2c hb)) fun h' hsb hS'=>?_
    refine fill_strs xs ts _ _ _ (by rw [List.length_cons,List.length_cons] at ht;(exact ar_4sba ht)) hS' (by show (if S x then n else n+1)+xs.length < scanBound;split<;>(first | exact ar_k4lt hb | exact ar_9tmv hb)) fun h2 n2 hsb2 hS2 hn2=>?_
    have e:(fun k=>(S k||decide (k=x))||xs.contains k)=fun k=>S k||(x::xs).contains k:=by
      funext k
      rw [List.contains_cons,Bool.or_assoc]
      congr 2
    rw [e] at hS2
    have z:=h h2 n2 (hsb.trans hsb2) hS2 (by rw [List.length_cons];have:(if S x then n else n+1)≤n+1:=(by split<;>(first | exact ar_7vek | exact ar_p04i));omega)
    rw [List.length_cons] at z
    have e2:s.toks+1+xs.length=s.toks+(xs.length+1):=by (exact ar_xh1x)
    show KdsFill _ _ _ _ _ _ _ { s with heap:=h2,toks:=s.toks+1+xs.length }
    rw [e2];exact z
theorem fill_end {s:Shared} {S:Str→Bool} {n:Nat} (hS:s.heap.SetOf (strKind prog w) d S n)
    (h:∀ h',Heap.SameBut d s.heap h'→h'.SetOf (strKind prog w) d S n→Q (.ref d) { s with heap:=h' }):KdsFill (model prog w) A E u d Q [] s:=by
  show if u=true then wpAny (model prog w) A (setUnled d) (fun _ s'=>Q (.ref d) s') E s else Q (.ref d) s
  split
  · obtain ⟨o,es,ep,t,ho,hex,hd,hel,hmem,hb,hf,hn⟩:=hS
    have hf':({ t with led:=false }:SetTable).fits es.size=true:=by cases t;exact hf
    unfold setUnled
    refine wpAny_bind (wpAny_setState_of ho hd hf ?_)
    dsimp only
    refine wpAny_storeSet_of ho hd ?_ (fits_of_scanBound hb)
    obtain ⟨_,hS⟩:=SetOf_store (knd:=strKind prog w) ho hex hd hel hmem hb hf'
    rw [hn] at hS
    exact h _ (Heap.SameBut.update _ _ _) hS
  · have z:=h s.heap (Heap.SameBut.refl _ _) hS
    cases s;exact z
theorem eval_set {elts:List PySem.Expr} {k:Nat} {sp:Pos} {s:Shared} {c:Addr} {o:Obj} {vs:Array Value} (hk:k=0) (he:sameStrs elts vows=true) (hcode:env.code=.ref c) (ho:s.heap.get? c=some o) (hd:o.data=.fields vs)
    (h:∀ h' X n,h'.objs.size=s.heap.objs.size+1→(∀ b o,s.heap.get? b=some o→h'.get? b=some o)→h'.get? s.heap.objs.size=some X→VSet prog w X n →
      Q (.ref s.heap.objs.size) { s with heap:=h',toks:=s.toks+22 }):wpAny (model prog w) A (eval (.Set elts k sp) env) Q E s:=by
  subst hk
  rw [arm_eval_Set]
  refine wpAny_bind (wpAny_standAt ?_)
  have hK:Frag.In [(c,o)] s.heap:=by
    intro a o' e
    rw [List.lookup_cons] at e
    cases q:a==c with
    | true=>rw [q] at e;cases e;obtain rfl:=beq_iff_eq.mp q;exact ho
    | false=>rw [q] at e;cases e
  refine wpAny_bind (kds_main hK (by
    unfold kdsCode
    rw [hcode]
    dsimp only
    rw [List.lookup_cons,beq_self_eq_true]
    obtain ⟨a1,a2,a3,a4⟩:=o
    dsimp only at hd
    subst hd;rfl) fun b=>?_)
  rw [kds_star elts (sameStrs_plain he),List.map_map]
  have hlen:elts.length=11:=(sameStrs_len he).trans rfl
  refine kds_core (ts:=(evalEach elts env).map fun t=>do let v ← t;standAt sp;pure v) ?_ ?_ ?_ ?_ fun led=>?_
  · unfold displayRoad
    rw [if_neg (by (exact ar_14vk)),if_neg (by (exact ar_ejt1 hlen))]
    split<;>rfl
  · refine List.findIdx?_eq_none_iff.mpr fun x hx=>?_
    obtain ⟨t,_,rfl⟩:=List.mem_map.mp hx
    rfl
  · rw [List.length_map,kds_len,hlen];(exact ar_rilc)
  · rw [List.map_map];try rfl
  · refine kds_all sp elts _ _ (all_consts elts vows _ _ he fun ts ht=>?_)
    have hX0:(s.heap.push { cls:=.type "set",dict:=none,data:=.set #[] 0 (.fresh 0 0 led) }).get? s.heap.objs.size=some { cls:=.type "set",dict:=none,data:=.set #[] 0 (.fresh 0 0 led) }:=Heap.get?_push_size _ rfl
    have hS0:=(setObjOf_fresh (knd:=strKind prog w) led).setOf hX0 (by decide)
    refine fill_strs vows ts { s with heap:=s.heap.push _,toks:=s.toks+vows.length } _ 0 ht hS0 (by decide) fun h1 n1 hsb1 hS1 hn1=>?_
    refine fill_end hS1 fun h2 hsb2 hS2=>?_
    have hsb:=hsb1.trans hsb2
    obtain ⟨X,hX,hXs⟩:=hS2.objOf
    have e:(fun k=>(fun _=>false) k||vows.contains k)=isVow:=by funext k;rfl
    rw [e] at hXs
    have z:=h h2 X n1 (by rw [hsb.1,Heap.size_push]) (fun b o' hb=>by
      rw [hsb.2 b (Nat.ne_of_lt (Heap.lt_size hb))];exact Heap.get?_push_of_some _ hb) hX ⟨hXs,by obtain ⟨_,es,_,_,_,_,_,_,_,hb,_,hn⟩:=hS2;rw [← hn];exact hb⟩
    exact z
end
end Mine

open PySem PySem.W PyProof.Rows PySem.Calls
set_option maxRecDepth 100000
set_option Elab.async false
set_option backward.match.sparseCases true
namespace Mine
noncomputable def setOk (t:BT) (elts:List PySem.Expr) (k:Nat) (env:Env):Bool:=Nat.beq k 0&&sameStrs elts vows&&match env.code with
  | .ref c=>(match known t c with
    | some ⟨_,_,.fields _,_⟩=>true
    | _=>false)
  | _=>false
theorem setOk_spec {t:BT} {elts:List PySem.Expr} {k:Nat} {env:Env} (h:setOk t elts k env=true):k=0∧sameStrs elts vows=true∧∃ c o vs,env.code=.ref c∧known t c=some o∧o.data=.fields vs:=by
  unfold setOk at h
  obtain ⟨h1,h2⟩:=Bool.and_eq_true_iff.mp h
  obtain ⟨h3,h4⟩:=Bool.and_eq_true_iff.mp h1
  refine ⟨Nat.eq_of_beq_eq_true h3,h4,?_⟩
  split at h2
  · rename_i c hc
    split at h2
    · rename_i ho
      exact ⟨c,_,_,hc,ho,rfl⟩
    · cases h2
  · cases h2
theorem set_ex (e:PySem.Expr) (h:e.ctorIdx=7):∃ es k p,e=.Set es k p:=PySem.Expr.Set.elim (motive_1:=fun e=>∃ es k p,e=.Set es k p) e h fun es k p=>⟨es,k,p,rfl⟩
noncomputable def asSetV (e:PySem.Expr):Option (List PySem.Expr × Nat × Pos):=if h:e.ctorIdx=7 then PySem.Expr.Set.elim (motive_1:=fun _=>Option (List PySem.Expr × Nat × Pos)) e h fun es k p=>some (es,k,p) else none
theorem asSetV_is {e:PySem.Expr} {v:List PySem.Expr × Nat × Pos} (h:asSetV e=some v):e=.Set v.1 v.2.1 v.2.2:=by
  unfold asSetV at h
  by_cases q:e.ctorIdx=7
  · obtain ⟨es,k,p,rfl⟩:=set_ex e q
    rw [← Option.some.inj (h:some (es,k,p)=some v)]
  · rw [dif_neg q] at h;exact (Option.some_ne_none _ h.symm).elim
theorem asg_ex (s:Stmt) (h:s.ctorIdx=5):∃ ts e p,s=.Assign ts e p:=PySem.Stmt.Assign.elim (motive_2:=fun s=>∃ ts e p,s=.Assign ts e p) s h fun ts e p=>⟨ts,e,p,rfl⟩
noncomputable def asAsg (s:Stmt):Option (List PySem.Expr × PySem.Expr × Pos):=if h:s.ctorIdx=5 then PySem.Stmt.Assign.elim (motive_2:=fun _=>Option (List PySem.Expr × PySem.Expr × Pos)) s h fun ts e p=>some (ts,e,p) else none
theorem asAsg_is {s:Stmt} {v:List PySem.Expr × PySem.Expr × Pos} (h:asAsg s=some v):s=.Assign v.1 v.2.1 v.2.2:=by
  unfold asAsg at h
  by_cases q:s.ctorIdx=5
  · obtain ⟨ts,e,p,rfl⟩:=asg_ex s q
    rw [← Option.some.inj (h:some (ts,e,p)=some v)]
  · rw [dif_neg q] at h;exact (Option.some_ne_none _ h.symm).elim
noncomputable def one1 {α:Type} (l:List α):Option α:=match l with
  | [a]=>some a
  | _=>none
theorem one1_is {α:Type} {l:List α} {a:α} (h:one1 l=some a):l=[a]:=by
  rcases l with _ | ⟨b,_ | ⟨_,_⟩⟩
  · exact (Option.some_ne_none _ h.symm).elim
  · rw [Option.some.inj (h:some b=some a)]
  · exact (Option.some_ne_none _ h.symm).elim
noncomputable abbrev SB:=PySem.Expr × (List PySem.Expr × Nat × Pos) × Pos × List Stmt × Env
noncomputable def codeB (c:Code):Option (List Stmt × Env):=match c with
  | .body ss env=>some (ss,env)
  | _=>none
theorem codeB_is {c:Code} {v:List Stmt × Env} (h:codeB c=some v):c=.body v.1 v.2:=by
  cases c<;>first | exact (Option.some_ne_none _ h.symm).elim | (rw [← Option.some.inj h])
noncomputable def headB (env:Env) (ss:List Stmt):Option SB:=match ss with
  | st::rest=>(asAsg st).bind fun v=>(one1 v.1).bind fun tg=>(asSetV v.2.1).map fun x=>(tg,x,v.2.2,rest,env)
  | []=>none
noncomputable def setBody? (c:Code):Option SB:=(codeB c).bind fun v=>headB v.2 v.1
theorem setBody_spec {c:Code} {x:SB} (h:setBody? c=some x):c=.body (.Assign [x.1] (.Set x.2.1.1 x.2.1.2.1 x.2.1.2.2) x.2.2.1::x.2.2.2.1) x.2.2.2.2:=by
  obtain ⟨⟨ss,env⟩,h1,h2⟩:=Option.bind_eq_some_iff.mp h
  rw [codeB_is h1]
  rcases ss with _ | ⟨st,rest⟩
  · exact (Option.some_ne_none _ h2.symm).elim
  · obtain ⟨v,h3,h4⟩:=Option.bind_eq_some_iff.mp (h2:(asAsg st).bind (fun v=>(one1 v.1).bind fun tg=>(asSetV v.2.1).map fun x=>(tg,x,v.2.2,rest,env))=some x)
    obtain ⟨tg,h5,h6⟩:=Option.bind_eq_some_iff.mp h4
    obtain ⟨y,h7,h8⟩:=Option.map_eq_some_iff.mp h6
    rw [asAsg_is h3,one1_is h5,asSetV_is h7,← h8]
noncomputable abbrev fden:Code→Sem Fin:=PySem.W.Fast.tw11892475500146522536 PySem.W.Fast.tw14364793385576792824
noncomputable abbrev fexecs:List Stmt→Env→Sem Flow:=PySem.W.Fast.tw12563942051412417395
noncomputable abbrev fstart:List Stmt→Env→Sem Unit:=PySem.W.Fast.tw1066825118222455980
theorem fden_eq:denote table=fden:=by
  rw [table_eq_tree,PySem.W.Fast.te11892475500146522536,PySem.W.Fast.te14364793385576792824]
theorem fexecs_eq:execs=fexecs:=PySem.W.Fast.te12563942051412417395
theorem fstart_eq:blockStart=fstart:=PySem.W.Fast.te1066825118222455980
structure GD where
  pos:Pos
  es:Array (Int × Value)
  ep:Nat
  t:SetTable
noncomputable def ghostObj (g:GD):Obj:={ cls:=.type "set",dict:=none,data:=.set g.es g.ep g.t,slots:=#[] }
noncomputable abbrev GH:=Ctx→Pos→KS→List PySem.Expr→Nat→Pos→Env→GD
noncomputable def okR {α:Type} (x:Option (Except Value α × Option Pos × KS)):Option (α × Option Pos × KS):=x.bind fun y=>match y.1 with
  | .ok a=>some (a,y.2)
  | .error _=>none
theorem okR_is {α:Type} {x:Option (Except Value α × Option Pos × KS)} {v:α × Option Pos × KS} (h:okR x=some v):x=some (.ok v.1,v.2):=by
  obtain ⟨⟨r,y⟩,rfl,h2⟩:=Option.bind_eq_some_iff.mp h
  cases r with
  | ok a=>rw [← Option.some.inj (h2:some (a,y)=some v)]
  | error _=>exact (Option.some_ne_none _ h2.symm).elim
noncomputable def insB (ks:KS) (g:GD):KS:=⟨ks.t.ins ks.n (ghostObj g),ks.n+1,ks.toks+22,some ks.n⟩
noncomputable def isNext (f:Flow):Bool:=match f with
  | .next=>true
  | _=>false
theorem isNext_is {f:Flow} (h:isNext f=true):f=.next:=by
  cases f<;>first | rfl | exact Bool.noConfusion h
noncomputable def gateK (x:List PySem.Expr × Nat × Pos) (env:Env) (ks:KS) (g:GD):Bool:=setOk ks.t x.1 x.2.1 env&&(ks.ghost.isNone&&((ks.t.ins ks.n (ghostObj g)).get ks.n).isSome)
noncomputable def evSet3 (prog:Program) (P:Params) (callF:Ctx→Pos→KS→Option (Result × KS)) (Γ:Ctx) (x:SB) (ks:KS) (g:GD):Option (Result × KS):=bif gateK x.2.1 x.2.2.2.2 ks g then
    (okR (ev prog P callF Γ (swappedStores [x.1] (.Set x.2.1.1 x.2.1.2.1 x.2.1.2.2) x.2.2.2.2 >>= fun sw=>assignStores x.2.2.2.2 (.ref ks.n) sw ((assignEach [x.1] x.2.2.2.2).map (·.2))) (some g.pos) (insB ks g))).bind fun r=>
      bif isNext r.1 then (okR (ev prog P callF Γ (fexecs x.2.2.2.1 x.2.2.2.2) r.2.1 r.2.2)).map fun v=>(.ok v.1,v.2.2) else none
  else none
noncomputable def evSet (gh:GH) (prog:Program) (P:Params) (callF:Ctx→Pos→KS→Option (Result × KS)) (Γ:Ctx) (p:Pos) (s:KS) (x:SB):Option (Result × KS):=
  (okR (ev prog P callF Γ (fstart (.Assign [x.1] (.Set x.2.1.1 x.2.1.2.1 x.2.1.2.2) x.2.2.1::x.2.2.2.1) x.2.2.2.2) (some p) s)).bind fun r1=>
    (okR (ev prog P callF Γ (standAt x.2.2.1 >>= fun _=>swapsWithSole [x.1] (.Set x.2.1.1 x.2.1.2.1 x.2.1.2.2) x.2.2.1.line x.2.2.2.2) r1.2.1 r1.2.2)).bind fun r2=>
      bif r2.1 then none else r2.2.1.bind fun q=>evSet3 prog P callF Γ x r2.2.2 (gh Γ q r2.2.2 x.2.1.1 x.2.1.2.1 x.2.1.2.2 x.2.2.2.2)
noncomputable def evCall (gh:GH) (prog:Program) (P:Params):Nat→Ctx→Pos→KS→Option (Result × KS):=
  @Nat.rec (fun _=>Ctx→Pos→KS→Option (Result × KS)) (fun _ _ _=>none)
    (fun _ ih Γ p s=>match setBody? Γ.code with
      | some x=>evSet gh prog P ih Γ p s x
      | none=>(match ev prog P ih Γ (fden Γ.code) (some p) s with
        | some (.ok (.done f),_,s')=>some (.ok f,s')
        | some (.ok (.again c),some p',s')=>(match c.quiet with | true=>ih (Γ.goto c) p' s' | false=>none)
        | some (.error e,_,s')=>some (.error e,s')
        | _=>none))
section
variable {prog:Program} {w:World} {s₀:Shared}
noncomputable def arOf (Γ:Ctx):Around:=⟨Γ.handled,frameCount Γ.below+Γ.code.weight,some (Γ.code.envs++envsOf Γ.below),some (Γ.code.guards++guardsOf Γ.below),Γ.units⟩
theorem arOf_in (Γ:Ctx):Γ.In (arOf Γ):=⟨rfl,Nat.le_refl _,fun _ h=>by cases h;rfl,fun _ h=>by cases h;rfl,Nat.le_refl _⟩
theorem alive_ghost (g:GD):alive (ghostObj g)=some (ghostObj g):=rfl
inductive GSpec (prog:Program) (w:World) (s₀:Shared) (Γ:Ctx) (q:Pos) (ks:KS) (elts:List PySem.Expr) (k:Nat) (sp:Pos) (env:Env) (g:GD):Prop
  | mk (s':Shared) (n:Nat) (hQ:∀ (Q':Value→Pos→Shared→Prop) (E':Value→Pos→Shared→Prop),Q' (.ref ks.n) g.pos s'→Sem.wp (model prog w) Γ (eval (.Set elts k sp) env) Q' E' q (absS s₀ ks))
    (h1:s'.heap.objs.size=ks.n+1) (h2:∀ b o,(absS s₀ ks).heap.get? b=some o→s'.heap.get? b=some o) (h3:s'.heap.get? ks.n=some (ghostObj g)) (h4:VSet prog w (ghostObj g) n)
    (h5:s'.toks=ks.toks+22) (h6:s'.gens=s₀.gens) (h7:s'.drawn=s₀.drawn) (h8:s'.os=s₀.os):GSpec prog w s₀ Γ q ks elts k sp env g
open Classical in
noncomputable def ghOf (prog:Program) (w:World) (s₀:Shared):GH:=fun Γ q ks elts k sp env=>if h:∃ g,GSpec prog w s₀ Γ q ks elts k sp env g then Classical.choose h else ⟨default,#[],0,default⟩
theorem gh_spec {Γ:Ctx} {q:Pos} {ks:KS} {elts:List PySem.Expr} {k:Nat} {sp:Pos} {env:Env} {s:Shared} (R:Rel prog w s₀ ks s) (hg:ks.ghost=none) (hk:setOk ks.t elts k env=true) :
    GSpec prog w s₀ Γ q ks elts k sp env (ghOf prog w s₀ Γ q ks elts k sp env):=by
  have hex:∃ g,GSpec prog w s₀ Γ q ks elts k sp env g:=by
    obtain ⟨k0,ke,c,o,vs,kc,ko,kd⟩:=setOk_spec hk
    have z:=eval_set (prog:=prog) (w:=w) (A:=arOf Γ) (E:=fun _ _=>False) (s:=s) (sp:=sp) (Q:=fun v s'=>∃ h' X n,v=.ref s.heap.objs.size∧s'={ s with heap:=h',toks:=s.toks+22 }∧h'.objs.size=s.heap.objs.size+1 ∧
      (∀ b o,s.heap.get? b=some o→h'.get? b=some o)∧h'.get? s.heap.objs.size=some X∧VSet prog w X n) k0 ke kc (R.kt _ _ ko) kd (fun h' X n e1 e2 e3 e4=>⟨h',X,n,rfl,rfl,e1,e2,e3,e4⟩) Γ q (arOf_in Γ)
    rcases wp_ends _ _ _ z with ⟨v,p',s',⟨h',X,n,rfl,rfl,e1,e2,e3,e4⟩,hQ⟩ | ⟨_,_,_,h,_⟩
    · have e4':=e4
      obtain ⟨⟨⟨x1,x2,x3⟩,xs,xe,xt,hd,_⟩,_⟩:=e4
      obtain ⟨a1,a2,a3,a4⟩:=X
      dsimp only at x1 x2 x3 hd
      subst x1 x2 x3 hd
      have es:=R.abs hg
      refine ⟨⟨p',xs,xe,xt⟩,{ s with heap:=h',toks:=s.toks+22 },n,?_,?_,?_,?_,e4',?_,R.gens,R.drawn,R.os⟩
      · intro Q' E' h
        rw [← es]
        exact hQ Q' E' (by rw [R.size];exact h)
      · rw [← R.size];exact e1
      · rw [← es];exact e2
      · rw [← R.size];exact e3
      · show s.toks+22=_;rw [R.toks]
    · exact h.elim
  unfold ghOf
  rw [dif_pos hex]
  exact Classical.choose_spec hex
theorem Rel.ghosted {ks:KS} {s s':Shared} {g:GD} {n:Nat} (R:Rel prog w s₀ ks s) (hi:((ks.t.ins ks.n (ghostObj g)).get ks.n).isSome=true) (e1:s'.heap.objs.size=ks.n+1)
    (e2:∀ b o,s.heap.get? b=some o→s'.heap.get? b=some o) (e3:s'.heap.get? ks.n=some (ghostObj g)) (e4:VSet prog w (ghostObj g) n) (e5:s'.toks=ks.toks+22) (e6:s'.gens=s₀.gens) (e7:s'.drawn=s₀.drawn) (e8:s'.os=s₀.os) :
    Rel prog w s₀ ⟨ks.t.ins ks.n (ghostObj g),ks.n+1,ks.toks+22,some ks.n⟩ s' where
  size:=e1
  kt:=fun b o h=>by
    dsimp only at h
    rw [known_ins hi] at h
    by_cases e:b=ks.n
    · rw [if_pos e,alive_ghost] at h;cases h;rw [e];exact e3
    · rw [if_neg e] at h;exact e2 _ _ (R.kt _ _ h)
  toks:=e5
  gens:=e6
  drawn:=e7
  os:=e8
  ghost:=fun d hd=>by
    cases hd
    refine ⟨Nat.lt_succ_self _,_,n,?_,e4⟩
    show known (ks.t.ins ks.n (ghostObj g)) ks.n=_
    rw [known_ins hi,if_pos rfl,alive_ghost]
  all:=fun b hb=>by
    show ∃ o,known (ks.t.ins ks.n (ghostObj g)) b=some o
    rw [known_ins hi]
    by_cases e:b=ks.n
    · exact ⟨_,by rw [if_pos e];rfl⟩
    · rw [if_neg e];exact R.all b (Nat.lt_of_le_of_ne (Nat.le_of_lt_succ hb) e)
  life:=fun h=>by cases h
theorem step_ok {α β:Type} {callF:Ctx→Pos→KS→Option (Result × KS)} {Γ:Ctx}
    (hcall:∀ Γ' p ks r ks' s,callF Γ' p ks=some (r,ks')→Rel prog w s₀ ks s→wpCode (model prog w) Γ' (fun r' s'=>r'=r∧Rel prog w s₀ ks' s') p s) {t:Sem α} {f:α→Sem β} {po:Option Pos} {ks:KS} {v:α × Option Pos × KS}
    (h:okR (ev prog w.params callF Γ t po ks)=some v) {p:Pos} {s:Shared} (hp:PosOk po p) (R:Rel prog w s₀ ks s) {Q:β→Pos→Shared→Prop} {E:Value→Pos→Shared→Prop}
    (hq:∀ p' s',PosOk v.2.1 p'→Rel prog w s₀ v.2.2 s'→Sem.wp (model prog w) Γ (f v.1) Q E p' s'):Sem.wp (model prog w) Γ (t >>= f) Q E p s:=by
  rw [Sem.wp_bind']
  refine Sem.wp_mono _ _ _ (fun a q t y=>?_) (fun e q t y=>?_) _ _ (ev_sound hcall _ _ _ _ (okR_is h) p s hp R)
  · obtain rfl:=Except.ok.inj y.1
    exact hq q t y.2.1 y.2.2
  · cases y.1
theorem last_ok {β:Type} {callF:Ctx→Pos→KS→Option (Result × KS)} {Γ:Ctx}
    (hcall:∀ Γ' p ks r ks' s,callF Γ' p ks=some (r,ks')→Rel prog w s₀ ks s→wpCode (model prog w) Γ' (fun r' s'=>r'=r∧Rel prog w s₀ ks' s') p s) {t:Sem β} {po:Option Pos} {ks:KS} {v:β × Option Pos × KS}
    (h:okR (ev prog w.params callF Γ t po ks)=some v) {p:Pos} {s:Shared} (hp:PosOk po p) (R:Rel prog w s₀ ks s) {Q:β→Pos→Shared→Prop} {E:Value→Pos→Shared→Prop}
    (hq:∀ p' s',PosOk v.2.1 p'→Rel prog w s₀ v.2.2 s'→Q v.1 p' s'):Sem.wp (model prog w) Γ t Q E p s:=by
  refine Sem.wp_mono _ _ _ (fun a q t y=>?_) (fun e q t y=>?_) _ _ (ev_sound hcall _ _ _ _ (okR_is h) p s hp R)
  · obtain rfl:=Except.ok.inj y.1
    exact hq q t y.2.1 y.2.2
  · cases y.1
theorem wp_assoc {α β γ:Type} {M:Model} {Γ:Ctx} {a:Sem α} {b:α→Sem β} {f:β→Sem γ} {Q:γ→Pos→Shared→Prop} {E:Value→Pos→Shared→Prop} {p:Pos} {s:Shared} (h:Sem.wp M Γ ((a >>= b) >>= f) Q E p s):Sem.wp M Γ (a >>= fun x=>b x >>= f) Q E p s:=by
  rw [Sem.wp_bind',Sem.wp_bind'] at h
  rw [Sem.wp_bind']
  refine Sem.wp_mono _ _ _ (fun _ _ _ y=>?_) (fun _ _ _ y=>y) _ _ h
  rw [Sem.wp_bind'];exact y
section
variable {callF:Ctx→Pos→KS→Option (Result × KS)} {Γ:Ctx}
    (hcall:∀ Γ' p ks r ks' s,callF Γ' p ks=some (r,ks')→Rel prog w s₀ ks s→wpCode (model prog w) Γ' (fun r' s'=>r'=r∧Rel prog w s₀ ks' s') p s)
include hcall
theorem evSet3_ok {x:SB} {ks:KS} {q:Pos} {out:Result × KS} (h:evSet3 prog w.params callF Γ x ks (ghOf prog w s₀ Γ q ks x.2.1.1 x.2.1.2.1 x.2.1.2.2 x.2.2.2.2)=some out) {s:Shared} (R:Rel prog w s₀ ks s)
    {Q:Flow→Pos→Shared→Prop} {E:Value→Pos→Shared→Prop} (hq:∀ f p' s',out.1=.ok f→Rel prog w s₀ out.2 s'→Q f p' s') :
    Sem.wp (model prog w) Γ (eval (.Set x.2.1.1 x.2.1.2.1 x.2.1.2.2) x.2.2.2.2) (fun v p' s'=>Sem.wp (model prog w) Γ (swappedStores [x.1] (.Set x.2.1.1 x.2.1.2.1 x.2.1.2.2) x.2.2.2.2 >>= fun sw=>assignStores x.2.2.2.2 v sw ((assignEach [x.1] x.2.2.2.2).map (·.2)))
      (fun f p' s'=>Sem.wp (model prog w) Γ (match f with | .next=>execs x.2.2.2.1 x.2.2.2.2 | f=>pure f) Q E p' s') E p' s') E q s:=by
  unfold evSet3 at h
  generalize hg:ghOf prog w s₀ Γ q ks x.2.1.1 x.2.1.2.1 x.2.1.2.2 x.2.2.2.2=g at h
  cases hk:gateK x.2.1 x.2.2.2.2 ks g with
  | false=>rw [hk] at h;exact (Option.some_ne_none _ h.symm).elim
  | true=>
    rw [hk] at h
    obtain ⟨k1,k23⟩:=Bool.and_eq_true_iff.mp hk
    obtain ⟨k2,k3⟩:=Bool.and_eq_true_iff.mp k23
    have k2:=Option.isNone_iff_eq_none.mp k2
    obtain ⟨r,h4,h5⟩:=Option.bind_eq_some_iff.mp h
    obtain ⟨s3,n,g1,g2,g3,g4,g5,g6,g7,g8,g9⟩:=gh_spec (Γ:=Γ) (q:=q) (sp:=x.2.1.2.2) R k2 k1
    rw [hg] at g1 g4 g5
    have es:=R.abs k2
    rw [es]
    refine g1 _ _ ?_
    refine last_ok hcall h4 rfl (R.ghosted k3 g2 (fun b o hb=>g3 b o (by rw [← es];exact hb)) g4 g5 g6 g7 g8 g9) fun p' s' hp' R'=>?_
    cases hn:isNext r.1 with
    | false=>rw [hn] at h5;exact (Option.some_ne_none _ h5.symm).elim
    | true=>
      rw [hn] at h5
      rw [isNext_is hn]
      obtain ⟨v,h6,h7⟩:=Option.map_eq_some_iff.mp h5
      rw [← fexecs_eq] at h6
      refine last_ok hcall h6 hp' R' fun p' s' _ R'=>?_
      rw [← h7] at hq
      exact hq _ _ _ rfl R'
theorem evSet_sound {x:SB} (hx:setBody? Γ.code=some x) {p:Pos} {ks ks':KS} {r:Result} {s:Shared} (h:evSet (ghOf prog w s₀) prog w.params callF Γ p ks x=some (r,ks')) (R:Rel prog w s₀ ks s) :
    wpCode (model prog w) Γ (fun r' s'=>r'=r∧Rel prog w s₀ ks' s') p s:=by
  obtain ⟨r1,h1,h⟩:=Option.bind_eq_some_iff.mp h
  obtain ⟨r2,h2,h⟩:=Option.bind_eq_some_iff.mp h
  rw [wpCode_iff_wp,setBody_spec hx]
  show Sem.wp _ Γ (blockStart _ _ >>= fun _=>(execs _ _).onRaise (leaving _) >>= fun f=>(pure (Fin.done f):Sem Fin)) _ _ _ _
  rw [← fstart_eq] at h1
  refine step_ok hcall h1 rfl R fun p1 s1 hp1 R1=>?_
  rw [Sem.wp_bind',Sem.wp_onRaise]
  show Sem.wp _ Γ (exec (.Assign [x.1] (.Set x.2.1.1 x.2.1.2.1 x.2.1.2.2) x.2.2.1) x.2.2.2.2 >>= fun f=>match f with | .next=>execs x.2.2.2.1 x.2.2.2.2 | f=>pure f) _ _ _ _
  rw [Sem.wp_bind',arm_exec_Assign]
  refine wp_assoc (step_ok hcall h2 hp1 R1 fun q t hq R2=>?_)
  cases hb:r2.1 with
  | true=>rw [hb] at h;exact (Option.some_ne_none _ h.symm).elim
  | false=>
    rw [hb] at h
    obtain ⟨q0,h3,h4⟩:=Option.bind_eq_some_iff.mp h
    rw [h3] at hq
    obtain rfl:q0=q:=hq
    rw [if_neg Bool.false_ne_true,Sem.wp_bind']
    exact evSet3_ok hcall h4 R2 fun f p' s' hf R'=>⟨by rw [show r=.ok f from hf],R'⟩
end
theorem evCall_sound:∀ (n:Nat) (Γ:Ctx) (p:Pos) (ks:KS) (r:Result) (ks':KS) (s:Shared),evCall (ghOf prog w s₀) prog w.params n Γ p ks=some (r,ks')→Rel prog w s₀ ks s →
    wpCode (model prog w) Γ (fun r' s'=>r'=r∧Rel prog w s₀ ks' s') p s
  | 0,_,_,_,_,_,_,h,_=>by cases h
  | n+1,Γ,p,ks,r,ks',s,h,R=>by
    have hcall:=evCall_sound n
    change (match setBody? Γ.code with
      | some x=>evSet (ghOf prog w s₀) prog w.params (evCall (ghOf prog w s₀) prog w.params n) Γ p ks x
      | none=>(match ev prog w.params (evCall (ghOf prog w s₀) prog w.params n) Γ (fden Γ.code) (some p) ks with
        | some (.ok (.done f),_,s')=>some (.ok f,s')
        | some (.ok (.again c),some p',s')=>(match c.quiet with | true=>evCall (ghOf prog w s₀) prog w.params n (Γ.goto c) p' s' | false=>none)
        | some (.error e,_,s')=>some (.error e,s')
        | _=>none))=some (r,ks') at h
    cases hx:setBody? Γ.code with
    | some x=>rw [hx] at h;exact evSet_sound hcall hx h R
    | none=>
      rw [hx] at h
      rw [wpCode_iff_wp,show (model prog w).den=fden from fden_eq]
      cases e:ev prog w.params (evCall (ghOf prog w s₀) prog w.params n) Γ (fden Γ.code) (some p) ks with
      | none=>rw [e] at h;exact noO h
      | some z=>
        rw [e] at h
        have y:=ev_sound hcall _ _ _ _ e p s rfl R
        clear e
        obtain ⟨fe,q,s'⟩:=z
        cases fe with
        | error er=>
          obtain ⟨e1,e2⟩:=Prod.mk.inj (Option.some.inj (h:some (Except.error er,s')=some (r,ks')))
          refine Sem.wp_mono _ _ _ (fun b q t y=>nomatch y.1) (fun _ q t y=>?_) _ _ y
          exact ⟨(congrArg Except.error (Except.error.inj y.1).symm).trans e1,e2▸y.2.2⟩
        | ok fin=>
          cases fin with
          | done f=>
            obtain ⟨e1,e2⟩:=Prod.mk.inj (Option.some.inj (h:some (Except.ok f,s')=some (r,ks')))
            refine Sem.wp_mono _ _ _ (fun b q t y=>?_) (fun _ q t y=>nomatch y.1) _ _ y
            cases Except.ok.inj y.1
            exact ⟨e1,e2▸y.2.2⟩
          | again c=>
            cases q with
            | none=>exact noO h
            | some p'=>
              refine mb_el (c:=c.quiet) (x:=evCall (ghOf prog w s₀) prog w.params n (Γ.goto c) p' s') (b:=(r,ks')) h fun hq h=>Sem.wp_mono _ _ _ (fun b q t y=>?_) (fun _ q t y=>nomatch y.1) _ _ y
              cases Except.ok.inj y.1
              obtain rfl:=y.2.1
              exact ⟨hq,hcall _ _ _ _ _ _ h y.2.2⟩
end
end Mine

open PySem PySem.W PyProof.Rows PySem.Calls
set_option maxRecDepth 100000
set_option Elab.async false
set_option backward.match.sparseCases true
namespace Mine
abbrev pw:Program:=PySem.Challenge.pw_ai0038_02
noncomputable def bt0 (P:Params):BT:=((((((((((BT.nil.ins 0 (boot_o_0 P)).ins 1 (boot_o_1 P)).ins 2 (boot_o_2 P)).ins 3 (boot_o_3 P)).ins 4 (boot_o_4 P)).ins 5 (boot_o_5 P)).ins 6 (boot_o_6 P)).ins 7 (boot_o_7 P)).ins 8 (boot_o_8 P)).ins 9 (boot_o_9 P)).ins 10 (boot_o_10 P)
noncomputable def ks0 (P:Params):KS:=⟨bt0 P,11,boot_toks,none⟩
def Γ0:Ctx:=⟨.builtin "claim.caller" {},none,none,[],none⟩
noncomputable def topTree:Sem Fin:=do
  let code ← moduleCode pw.main
  let frame ← newBodyFrame code mainNs mainNs
  let _ ← run (.body (behindTheImports pw) { scope:=pw.main.scope,locals:=mainNs,globals:=mainNs,cells:=[],code,frame:=some frame })
  ret .none
noncomputable def evTop (gh:GH) (P:Params):Out Fin:=ev pw P (evCall gh pw P 60) Γ0 topTree (some default) (ks0 P)
end Mine

open PySem PySem.W PyProof.Rows PySem.Calls
set_option maxRecDepth 100000
set_option Elab.async false
set_option backward.match.sparseCases false
namespace Mine
section
variable {den:Code→Sem Fin} {prog:Program} {w:World}
noncomputable def isDone:Step→Bool
  | .halt (.done _) _=>true
  | _=>false
theorem step_through {s s':Shared} {t:Thread} {f:Flow} (h:step den prog w s t=.halt (.done f) s'):through t=true:=by
  have hd:isDone (step den prog w s t)=true:=by rw [h];rfl
  clear h
  obtain ⟨heap,gens,drawn,toks,os⟩:=s
  obtain ⟨cur,code,pos,stack⟩:=t
  cases cur with
  | pure e=>
    cases e with
    | again c=>exact Bool.noConfusion hd
    | done f=>
      rcases stack with _ | ⟨fr,r⟩
      · rfl
      · cases fr<;>exact Bool.noConfusion hd
  | raise e=>
    rcases stack with _ | ⟨fr,r⟩
    · change isDone (finish _ _)=true at hd
      unfold finish at hd
      split at hd<;>exact Bool.noConfusion hd
    · cases fr<;>exact Bool.noConfusion hd
  | _=>first | exact Bool.noConfusion hd | (unfold step at hd;dsimp only at hd;(repeat' split at hd)<;>exact Bool.noConfusion hd)
theorem last_running:∀ {n:Nat} {s:Shared} {t:Thread} {o:Outcome} {s':Shared},runN den prog w n s t=.halted o s' →
    ∃ m t',runN den prog w m s t=.running s' t'∧step den prog w s' t'=.halt o s'
  | 0,_,_,_,_,h=>by cases h
  | n+1,s,t,o,s',h=>by
    simp only [runN] at h
    cases hs:step den prog w s t with
    | go s₂ t₂=>
      rw [hs] at h
      obtain ⟨m,t',h1,h2⟩:=last_running h
      exact ⟨m+1,t',by simp only [runN,hs];exact h1,h2⟩
    | halt o₂ s₂=>
      rw [hs] at h
      injection h with e1 e2
      subst e1 e2
      obtain rfl:=step_halt_same den prog w s s₂ t o₂ hs
      exact ⟨0,t,rfl,hs⟩
end
theorem thread_runs {prog:Program} {w:World} {t:Sem Fin} {s:Shared} {R:Shared→Prop} {v:Value} (hz:s.asleep)
    (h:Sem.wp (model prog w) ⟨.builtin "claim.caller" {},none,none,[],none⟩ t (fun fin _ s'=>fin=.done (.ret v)∧R s'∧s'.gens=#[]) (fun _ _ _=>False) default s) :
    ∃ m t' s',schedN (denote table) prog w m (.single s ⟨t,.builtin "claim.caller" {},default,[]⟩)=.running (.single s' t')∧through t'=true∧R s'∧s'.heap.life=s.heap.life∧s'.gens=#[]:=by
  have h':Sem.wp (model prog w) ⟨.builtin "claim.caller" {},none,none,[],none⟩ t (Sem.finPost (model prog w) ⟨.builtin "claim.caller" {},none,none,[],none⟩ fun r s'=>(r=.ok (.ret v)∧R s'∧s'.gens=#[])∧leftWithCleanup s'.gens=false)
      (fun e _ s'=>((Except.error e:Result)=.ok (.ret v)∧R s'∧s'.gens=#[])∧leftWithCleanup s'.gens=false) default s:=by
    refine Sem.wp_mono _ _ _ (fun fin p s' y=>?_) (fun e p s' y=>y.elim) _ _ h
    obtain ⟨rfl,y,hg⟩:=y
    exact ⟨⟨rfl,y,hg⟩,by rw [hg];simp [leftWithCleanup]⟩
  obtain ⟨n,r,s',hn,rfl,hR,hg⟩:=(wp_iff_halts (M:=model prog w) (R:=fun r s'=>r=.ok (.ret v)∧R s'∧s'.gens=#[]) ..).mp h'
  obtain ⟨s₂,hr,hf,hc⟩:=runNI_real (denote table) prog w hn (outcomeOf_ends _)
  obtain rfl:s₂=s':=Shared.eq_of_forget_eq hf hg
  obtain ⟨m,t',h1,h2⟩:=last_running hr
  have hne:∀ k s₃,runN (denote table) prog w k s ⟨t,.builtin "claim.caller" {},default,[]⟩≠.halted (.unsupported "lifetime:generator-with-cleanup-left-suspended") s₃:=by
    intro k s₃ hk
    have a:=runN_mono _ _ _ n k _ _ _ _ hr
    have b:=runN_mono _ _ _ k n _ _ _ _ hk
    rw [Nat.add_comm,b] at a
    injection a with a1 _
    cases a1
  refine ⟨m,t',s₂,(schedN_eq_runN _ _ _ _ _ hz ⟨hc,hne⟩ m).trans ?_,step_through h2,hR,runN_life _ _ _ hr,hg⟩
  have:runN (denote table) prog w m s ⟨t,.builtin "claim.caller" {},default,[]⟩=.running s₂ t':=h1
  rw [this];rfl
end Mine

open PySem PySem.W PyProof.Rows PySem.Calls
set_option maxRecDepth 100000
set_option Elab.async false
set_option backward.match.sparseCases false
namespace Mine
inductive BehindAt (p q:Program) (loose:List Str) (R:WRecords) (XP:(Str→Option Value)→Heap→Prop) (YP:World→Heap→Prop) (w:World) (s:Shared):Prop
  | mk (s₀:Shared) (hf:fenceModules? p s=some s₀) (hg0:s₀.gens=#[]) (s₁:Shared) (hT:TopRan p w s₀ s₁) (hz:s₁.asleep) (hgens:s₁.gens=#[]) (hns:s₁.heap.isNs mainGlobals=true)
    (G0:Ground q loose [] XP w s₁ (s₁.heap.nsMap mainGlobals) (s₁.heap.nsMap builtinsNs) s₁.heap) (RF:RecFacts R s₁.heap) (y:YP w s₁.heap):BehindAt p q loose R XP YP w s
noncomputable abbrev Behind (p q:Program) (loose:List Str) (R:WRecords) (XP:(Str→Option Value)→Heap→Prop) (YP:World→Heap→Prop):Prop:=
  ∀ w,(∃ s,AfterRun (opening p) w s)∧∀ s,AfterRun (opening p) w s→BehindAt p q loose R XP YP w s
theorem holds_behind {r:OpenRow} {q:Program} {loose:List Str} {XP:(Str→Option Value)→Heap→Prop} {YP:World→Heap→Prop} {d:DefRec} {kwd:List (Str × PySem.Expr)}
    (behind:Behind r.prog q loose r.records XP YP) (hXk:∀ mg h h',XP mg h→(∀ b o,h.get? b=some o→h'.get? b=some o)→XP mg h') (hYk:∀ w h h',YP w h→(∀ b o,h.get? b=some o→h'.get? b=some o)→YP w h')
    (hdef:defOf q r.name=some (d,kwd)) (hp:r.prog.theDef r.name=some (d.params,d.body,d.scope)) (hk:kwWritten? d.params.kwonlyargs d.params.kw_defaults=some kwd)
    (hwr:(!r.writes||r.records.isEmpty)=true) (k1:r.wellSaid=true) (ok:(opensWell r.prog&&(frees r.toRowW&&r.within.isEmpty))=true) (hb:r.prog.bare) (hw:r.toRowW.promised)
    (call:WalkO q loose XP YP r.toRowW d kwd fun f vs=>PySem.call f vs):r.Holds:=by
  obtain ⟨o1,o2⟩:=Bool.and_eq_true_iff.mp ok
  obtain ⟨k5,k6⟩:=Bool.and_eq_true_iff.mp o2
  obtain ⟨hsame,hu,ha,hap,hm⟩:=frees_parts k5
  have hwi:r.claim.within=[]:=List.isEmpty_iff.mp k6
  have hi:=ident_freeW hu ha hap
  refine ⟨k1,hw,⟨hb,o1,by show r.makers.map _=[];rw [hm];rfl⟩,hw.witness,fun w=>⟨(behind w).1,fun s' hs'=>?_⟩⟩
  obtain ⟨s₀,hf,hg0,s,hT,hz,hgens,hg,G0,RF,y⟩:=(behind w).2 s' hs'
  have pin:∀ n∈(if r.pinned=true then [r.name] else []),isTheDefsW r.prog s.heap n:=fun n hn=>by
    obtain rfl:n=r.name:=by split at hn<;>simp_all
    exact pinned_of_view hg G0 hdef hp hk
  refine ⟨s₀,hf,hg0,s,hT,pin,RF.1,RF.2.1,?_⟩
  have G:=RF.ground G0
  refine ClaimW.callFrom_of_specG (c:=r.claim) (tree:=fun vs=>do match ← nsGet mainNs r.name with
      | some f=>do ret (← PySem.call f vs)
      | none=>unsupported "claim.caller:no-such-global") hz hgens fun args hpre hlay ord hord=>?_
  obtain ⟨⟨vs,s₁⟩,hlaid⟩:=Option.isSome_iff_exists.mp (layAllW_isSome (P:=w.params) (ord:=ord) G.has args r.args s (pre_splitW hpre).1)
  have keeps:=layAllW_keeps _ _ _ hlaid
  have hal:=layAllW_rest _ _ _ hlaid
  obtain ⟨as,hrd,hin,hold⟩:=reads_layAllW hord _ _ _ hlaid hlay s₁.heap (fun _ _ e=>e)
  have L:Laid r.records w s s₁ args vs as:=⟨⟨ord,hord,hlaid⟩,hrd,hin,hold,keeps,hal.1.trans hgens,hal.2.2.1⟩
  have G₁:=G.keeps hXk keeps
  obtain ⟨a,o,pm,cd,doc,dV,kV,h1,h2,h3,h4,h5⟩:=G₁.fn hdef
  have h:=call w s s₁ _ _ G₁ (hYk _ _ _ y keeps) a o pm cd doc dV kV h2 h3 h4 h5 (defOf_name hdef▸h1) L.gens args vs as hpre hlay L.reads L.well (L.low G.low)
  refine ⟨vs,s₁,hlaid,wpAny_bind (wpAny_nsGet G₁.T.g ?_)⟩
  rw [h1]
  refine wpAny_bind (wpAny_mono h (fun v s' g=>wpAny_pure ⟨_,rfl,?_⟩) fun e s' g=>?_)
  · have z:=g.laid (c:=r.claim) hsame hwi hi L
    exact ⟨z.1,z.2.1,z.2.2,fun q=>⟨namesKept_of hT hg r.keeps keeps g.2.1.old,noTable hwr q⟩⟩
  · have z:=g.laid (c:=r.claim) hsame hwi hi L
    exact ⟨z.1,z.2.1,z.2.2,fun q=>⟨namesKept_of hT hg r.keeps keeps g.2.1.old,noTable hwr q⟩⟩
end Mine

open PySem PySem.W PyProof.Rows PySem.Calls
set_option maxRecDepth 100000
set_option Elab.async false
set_option backward.match.sparseCases false
namespace Mine
noncomputable def sBoot (P:Params) (os:OsState):Shared:=⟨boot_heap P,#[],boot_drawn,boot_toks,os⟩
noncomputable def sEnd (ks:KS) (life:Life) (os:OsState):Shared:=⟨absHeap ks.t ks.n life,#[],boot_drawn,ks.toks,os⟩
noncomputable def bootL (P:Params):List Obj:=[boot_o_0 P,boot_o_1 P,boot_o_2 P,boot_o_3 P,boot_o_4 P,boot_o_5 P,boot_o_6 P,boot_o_7 P,boot_o_8 P,boot_o_9 P,boot_o_10 P]
noncomputable def insAll:List Obj→KS→KS
  | [],k=>k
  | o::os,k=>insAll os ⟨k.t.ins k.n o,k.n+1,k.toks,k.ghost⟩
noncomputable def insOk:List Obj→KS→Bool
  | [],_=>true
  | o::os,k=>(alive o).isSome&&((k.t.ins k.n o).get k.n).isSome&&insOk os ⟨k.t.ins k.n o,k.n+1,k.toks,k.ghost⟩
theorem rel_pushes {prog:Program} {w:World} {s₀:Shared}:∀ (os:List Obj) (k:KS) (s:Shared),Rel prog w s₀ k s→insOk os k=true→Rel prog w s₀ (insAll os k) { s with heap:=os.foldl Heap.push s.heap }
  | [],_,_,R,_=>R
  | o::os,k,s,R,h=>by
    have h':((alive o).isSome&&((k.t.ins k.n o).get k.n).isSome&&insOk os ⟨k.t.ins k.n o,k.n+1,k.toks,k.ghost⟩)=true:=h
    obtain ⟨h1,h2⟩:=Bool.and_eq_true_iff.mp h'
    obtain ⟨h3,h4⟩:=Bool.and_eq_true_iff.mp h1
    obtain ⟨o',ho'⟩:=Option.isSome_iff_exists.mp h3
    have e:=(alive_some ho').1
    subst e
    exact rel_pushes os _ _ (R.alloc ho' h4) h2
noncomputable def bootH (P:Params):Heap:=(bootL P).foldl Heap.push ⟨#[],(boot_heap P).life⟩
theorem boot_pushed (P:Params):boot_heap P=bootH P:=by kernel_rfl
theorem ks0_is (P:Params):ks0 P=insAll (bootL P) ⟨.nil,0,boot_toks,none⟩:=by kernel_rfl
theorem boot_ok (P:Params):insOk (bootL P) ⟨.nil,0,boot_toks,none⟩=true:=by kernel_rfl!
theorem boot_rel (w:World) (prog:Program) (os:OsState):Rel prog w (sBoot w.params os) (ks0 w.params) (sBoot w.params os):=by
  have R0:Rel prog w (sBoot w.params os) ⟨.nil,0,boot_toks,none⟩ ⟨⟨#[],(boot_heap w.params).life⟩,#[],boot_drawn,boot_toks,os⟩:=
    ⟨rfl,fun a o h=>(by cases h),rfl,rfl,rfl,rfl,fun d h=>(by cases h),fun a h=>absurd h (Nat.not_lt_zero _),fun _=>rfl⟩
  have z:=rel_pushes (bootL w.params) _ _ R0 (boot_ok _)
  rw [← ks0_is] at z
  have e:sBoot w.params os=⟨bootH w.params,#[],boot_drawn,boot_toks,os⟩:=by unfold sBoot;rw [boot_pushed]
  have z':Rel prog w (sBoot w.params os) (ks0 w.params) ⟨bootH w.params,#[],boot_drawn,boot_toks,os⟩:=z
  rw [← e] at z'
  exact z'
theorem opening_plain:opening pw=plainProg pw.main.scope.names:=by kernel_rfl
theorem fence_all (s:Shared):fenceModules? pw s=some s:=by kernel_rfl
end Mine

open PySem PySem.W PyProof.Rows PySem.Calls
set_option maxRecDepth 100000
set_option Elab.async false
set_option backward.match.sparseCases false
namespace Mine
structure Am where
  s:List Nat
  sub:Int
  res:Int
deriving DecidableEq
inductive Bf where
  | len | ord | min | sum
deriving DecidableEq
noncomputable def Bf.id:Bf→String
  | .len=>"len" | .ord=>"ord" | .min=>"min" | .sum=>"sum"
inductive Bt where
  | range | list
deriving DecidableEq
noncomputable def Bt.id:Bt→String
  | .range=>"range" | .list=>"list"
inductive PV where
  | none | bool (b:Bool) | int (i:Int) | str (l:List Nat)
  | self (g:Nat) | loc (i:Nat) | am (r:Am) | tab (rs:List Am) | vset
  | cls (a:Addr) | fn (a:Addr) | blt (n:Bf) | typ (n:Bt) | ints (xs:List Int) | strs (xs:List (List Nat)) | strT (l:List Nat) (t:Tok)
deriving DecidableEq
structure Rho where
  sa:Addr
  sd:Addr
  g:Nat
  os:List Addr
  so:Addr × Obj
inductive AmAt (K:Frag) (a:Addr) (r:Am):Prop where
  | mk (ox:Obj) (dx:Addr) (od:Obj) (t1 t2 t3:Tok) (h1:K.lookup a=some ox) (h2:ox.cls=.ref 218) (h3:notCls ox=true) (h4:ox.dict=some dx) (h5:K.lookup dx=some od)
    (h6:lookIn "s" od=some (some (Value.str ⟨r.s.toArray⟩ t1))) (h7:lookIn "substring_i" od=some (some (Value.int r.sub t2))) (h8:lookIn "result" od=some (some (Value.int r.res t3))):AmAt K a r
noncomputable def TabAm (K:Frag) (a:Addr) (rs:List Am):Prop:=
  ∃ (o:Obj) (vs:Array Value) (n:Nat),K.lookup a=some o∧o.cls=.type "list"∧o.data=.seq vs n∧vs.size=rs.length∧∀ (i:Nat) (r:Am),rs[i]?=some r→∃ b,vs[i]?=some (Value.ref b)∧AmAt K b r
noncomputable def IntsOf (o:Obj) (xs:List Int):Prop:=∃ (vs:Array Value) (n:Nat),o.cls=.type "list"∧o.data=.seq vs n∧vs.size=xs.length∧∀ (i:Nat) (x:Int),xs[i]?=some x→∃ t,vs[i]?=some (Value.int x t)
noncomputable def StrsAt (K:Frag) (a:Addr) (ss:List (List Nat)):Prop:=
  ∃ (o:Obj) (vs:Array Value) (n:Nat),K.lookup a=some o∧o.cls=.type "list"∧o.data=.seq vs n∧vs.size=ss.length∧∀ (i:Nat) (s:List Nat),ss[i]?=some s→∃ t,vs[i]?=some (Value.str ⟨s.toArray⟩ t)
noncomputable def VR (K:Frag) (ρ:Rho) (v:Value):PV→Prop
  | .none=>v=.none
  | .bool b=>v=.bool b
  | .int i=>∃ t,v=.int i t
  | .str l=>∃ t,v=.str ⟨l.toArray⟩ t
  | .self g=>∃ a,v=.ref a∧g≤ρ.g∧(g=ρ.g→a=ρ.sa)
  | .loc i=>∃ a,ρ.os[i]?=some a∧v=.ref a
  | .am r=>∃ a,v=.ref a∧AmAt K a r
  | .tab rs=>∃ a,v=.ref a∧TabAm K a rs
  | .vset=>v=.ref 230
  | .cls a=>v=.ref a
  | .fn a=>v=.ref a
  | .blt n=>v=.builtin n.id
  | .typ n=>v=.type n.id
  | .ints xs=>v=.ref ρ.so.1∧IntsOf ρ.so.2 xs
  | .strs ss=>∃ a,v=.ref a∧StrsAt K a ss
  | .strT l t=>v=.str ⟨l.toArray⟩ t
structure Ext (ρ ρ':Rho):Prop where
  le:ρ.g≤ρ'.g
  self:ρ'.g=ρ.g→ρ'.sa=ρ.sa∧ρ'.sd=ρ.sd
  os:∀ (i:Nat) (a:Addr),ρ.os[i]?=some a→ρ'.os[i]?=some a
  so:ρ'.so=ρ.so
theorem Ext.refl (ρ:Rho):Ext ρ ρ:=⟨Nat.le_refl _,fun _=>⟨rfl,rfl⟩,fun _ _ e=>e,rfl⟩
theorem Ext.trans {a b c:Rho} (x:Ext a b) (y:Ext b c):Ext a c:=
  ⟨Nat.le_trans x.le y.le,fun e=>by
    have h1:c.g=b.g:=by have:=x.le;have:=y.le;(exact ar_jatj e (by assumption) this)
    have h2:b.g=a.g:=by (exact ar_plo8 e h1)
    exact ⟨(y.self h1).1.trans (x.self h2).1,(y.self h1).2.trans (x.self h2).2⟩,fun i o e=>y.os i o (x.os i o e),y.so.trans x.so⟩
theorem VR.ext {K:Frag} {ρ ρ':Rho} (x:Ext ρ ρ') {v:Value} {pv:PV} (h:VR K ρ v pv):VR K ρ' v pv:=by
  cases pv<;>try exact h
  · rename_i g
    obtain ⟨a,e,h1,h2⟩:=h
    refine ⟨a,e,Nat.le_trans h1 x.le,fun e=>?_⟩
    have h3:ρ'.g=ρ.g:=by have:=x.le;(exact ar_6qnp h1 e this)
    rw [(x.self h3).1];exact h2 (by (exact ar_lnq0 e h3))
  · obtain ⟨a,e,r⟩:=h;exact ⟨a,x.os _ _ e,r⟩
  · unfold VR at h ⊢;rw [x.so];exact h
noncomputable abbrev Fs:=List (Str × PV)
noncomputable def MapR (K:Frag) (ρ:Rho) (m:Str→Option Value) (fs:Fs):Prop:=
  ∀ x,(fs.lookup x=none→m x=none)∧∀ pv,fs.lookup x=some pv→∃ v,m x=some v∧VR K ρ v pv
theorem MapR.ext {K:Frag} {ρ ρ':Rho} (x:Ext ρ ρ') {m fs} (h:MapR K ρ m fs):MapR K ρ' m fs:=
  fun y=>⟨(h y).1,fun pv e=>let ⟨v,a,b⟩:=(h y).2 pv e;⟨v,a,b.ext x⟩⟩
noncomputable def put (x:Str) (v:PV):Fs→Fs
  | []=>[(x,v)]
  | (y,u)::r=>bif x==y then (y,v)::r else (y,u)::put x v r
theorem lookup_put (x:Str) (v:PV):∀ (fs:Fs) (y:Str),(put x v fs).lookup y=if y=x then some v else fs.lookup y
  | [],y=>by
    simp only [put,List.lookup_cons,List.lookup_nil]
    by_cases h:y=x
    · simp [h]
    · have:(y==x)=false:=by simpa using h
      simp [this,h]
  | (z,u)::r,y=>by
    simp only [put]
    cases hz:(x==z) with
    | true=>
      have e:x=z:=beq_iff_eq.mp hz
      subst e
      simp only [cond_true,List.lookup_cons]
      by_cases h:y=x
      · simp [h]
      · have:(y==x)=false:=by simpa using h
        simp [this,h]
    | false=>
      have e:x≠z:=by intro h;simp [h] at hz
      simp only [cond_false,List.lookup_cons]
      cases hy:(y==z) with
      | true=>
        have e2:y=z:=beq_iff_eq.mp hy
        subst e2
        simp [Ne.symm e]
      | false=>simpa using lookup_put x v r y
theorem MapR.put {K:Frag} {ρ:Rho} {m:Str→Option Value} {fs:Fs} (h:MapR K ρ m fs) (x:Str) {v:Value} {pv:PV} (hv:VR K ρ v pv) :
    MapR K ρ (fun y=>if y=x then some v else m y) (put x pv fs):=by
  intro y
  rw [lookup_put]
  by_cases e:y=x
  · simp only [e,if_true]
    exact ⟨fun q=>(by cases q),fun q e=>by cases e;exact ⟨v,rfl,hv⟩⟩
  · simp only [e,if_false];exact h y
inductive AO where
  | lst (xs:List PV)
  | tup (xs:List PV)
  | cell (v:Option PV)
noncomputable def AllR (K:Frag) (ρ:Rho):List Value→List PV→Prop
  | [],[]=>True
  | v::vs,p::ps=>VR K ρ v p∧AllR K ρ vs ps
  | _,_=>False
theorem AllR.ext {K:Frag} {ρ ρ':Rho} (x:Ext ρ ρ'):∀ {vs ps},AllR K ρ vs ps→AllR K ρ' vs ps
  | [],[],_=>trivial
  | _::_,_::_,⟨a,b⟩=>⟨a.ext x,b.ext x⟩
  | [],_::_,h=>h.elim
  | _::_,[],h=>h.elim
theorem AllR.len {K:Frag} {ρ:Rho}:∀ {vs ps},AllR K ρ vs ps→vs.length=ps.length
  | [],[],_=>rfl
  | _::_,_::_,⟨_,b⟩=>by simp [b.len]
  | [],_::_,h=>h.elim
  | _::_,[],h=>h.elim
theorem AllR.get {K:Frag} {ρ:Rho}:∀ {vs ps},AllR K ρ vs ps→∀ {i:Nat} {p},ps[i]?=some p→∃ v,vs[i]?=some v∧VR K ρ v p
  | [],[],_,i,p,e=>by simp at e
  | v::vs,q::ps,⟨a,b⟩,0,p,e=>by simp at e;subst e;exact ⟨v,rfl,a⟩
  | v::vs,q::ps,⟨a,b⟩,i+1,p,e=>by
    have e':ps[i]?=some p:=by simpa using e
    obtain ⟨u,h1,h2⟩:=AllR.get b e'
    exact ⟨u,by simpa using h1,h2⟩
  | [],_::_,h,_,_,_=>h.elim
  | _::_,[],h,_,_,_=>h.elim
noncomputable def OR (K:Frag) (ρ:Rho) (h:Heap) (a:Addr):AO→Prop
  | .lst xs=>∃ (o:Obj) (vs:Array Value) (n:Nat),h.get? a=some o∧o.cls=.type "list"∧o.data=.seq vs n∧AllR K ρ vs.toList xs
  | .tup xs=>∃ (o:Obj) (vs:Array Value) (n:Nat),h.get? a=some o∧o.cls=.type "tuple"∧o.data=.seq vs n∧AllR K ρ vs.toList xs
  | .cell none=>∃ o,h.get? a=some o∧o.data=.cell none
  | .cell (some pv)=>∃ o v,h.get? a=some o∧o.data=.cell (some v)∧VR K ρ v pv
theorem OR.ext {K:Frag} {ρ ρ':Rho} (x:Ext ρ ρ') {h a ao} (z:OR K ρ h a ao):OR K ρ' h a ao:=by
  rcases ao with xs | xs | _ | pv
  · obtain ⟨o,vs,n,h1,h2,h3,h4⟩:=z;exact ⟨o,vs,n,h1,h2,h3,h4.ext x⟩
  · obtain ⟨o,vs,n,h1,h2,h3,h4⟩:=z;exact ⟨o,vs,n,h1,h2,h3,h4.ext x⟩
  · exact z
  · obtain ⟨o,v,h1,h2,h3⟩:=z;exact ⟨o,v,h1,h2,h3.ext x⟩
theorem OR.slots {K:Frag} {ρ:Rho} {h h':Heap} (k:h.UpToSlots h') {a ao} (z:OR K ρ h a ao):OR K ρ h' a ao:=by
  rcases ao with xs | xs | _ | pv
  · obtain ⟨o,vs,n,h1,h2,h3,h4⟩:=z
    obtain ⟨sl,e⟩:=k a o h1 fun ws q=>by rw [h3] at q;cases q
    exact ⟨_,vs,n,e,h2,h3,h4⟩
  · obtain ⟨o,vs,n,h1,h2,h3,h4⟩:=z
    obtain ⟨sl,e⟩:=k a o h1 fun ws q=>by rw [h3] at q;cases q
    exact ⟨_,vs,n,e,h2,h3,h4⟩
  · obtain ⟨o,h1,h3⟩:=z
    obtain ⟨sl,e⟩:=k a o h1 fun ws q=>by rw [h3] at q;cases q
    exact ⟨_,e,h3⟩
  · obtain ⟨o,v,h1,h3,h4⟩:=z
    obtain ⟨sl,e⟩:=k a o h1 fun ws q=>by rw [h3] at q;cases q
    exact ⟨_,v,e,h3,h4⟩
theorem OR.other {K:Frag} {ρ:Rho} {h h':Heap} {a ao} (z:OR K ρ h a ao) (k:∀ o,h.get? a=some o→h'.get? a=some o):OR K ρ h' a ao:=by
  rcases ao with xs | xs | _ | pv
  · obtain ⟨o,vs,n,h1,h2,h3,h4⟩:=z;exact ⟨o,vs,n,k o h1,h2,h3,h4⟩
  · obtain ⟨o,vs,n,h1,h2,h3,h4⟩:=z;exact ⟨o,vs,n,k o h1,h2,h3,h4⟩
  · obtain ⟨o,h1,h2⟩:=z;exact ⟨o,k o h1,h2⟩
  · obtain ⟨o,v,h1,h2,h3⟩:=z;exact ⟨o,v,k o h1,h2,h3⟩
theorem OR.there {K:Frag} {ρ:Rho} {h:Heap} {a ao} (z:OR K ρ h a ao):∃ (o:Obj),h.get? a=some o∧o.data≠.plain:=by
  rcases ao with xs | xs | _ | pv
  · obtain ⟨o,vs,n,h1,h2,h3,h4⟩:=z;exact ⟨o,h1,by rw [h3];intro q;cases q⟩
  · obtain ⟨o,vs,n,h1,h2,h3,h4⟩:=z;exact ⟨o,h1,by rw [h3];intro q;cases q⟩
  · obtain ⟨o,h1,h2⟩:=z;exact ⟨o,h1,by rw [h2];intro q;cases q⟩
  · obtain ⟨o,v,h1,h2,h3⟩:=z;exact ⟨o,h1,by rw [h2];intro q;cases q⟩
noncomputable def NsZ (h:Heap) (a:Addr) (m:Str→Option Value) (z:Nat):Prop:=
  ∃ o es ep,h.get? a=some o∧o.data=.dict es ep∧StrKeys es∧(∀ name,nsFind es name=m name)∧es.size≤z
theorem NsZ.ns {h:Heap} {a:Addr} {m z} (x:NsZ h a m z):h.Ns a m:=let ⟨o,es,ep,a,b,c,d,_⟩:=x;⟨o,es,ep,a,b,c,d⟩
theorem NsZ.sameBut {h h':Heap} {a b m z} (hn:NsZ h a m z) (hs:Heap.SameBut b h h') (hab:a≠b):NsZ h' a m z:=
  let ⟨o,es,ep,ho,r⟩:=hn;⟨o,es,ep,(hs.2 a hab).trans ho,r⟩
theorem NsZ.slots {h h':Heap} {a m z} (k:h.UpToSlots h') (hn:NsZ h a m z):NsZ h' a m z:=by
  obtain ⟨o,es,ep,ho,hd,r⟩:=hn
  obtain ⟨sl,hs⟩:=k a o ho fun vs q=>by rw [hd] at q;cases q
  exact ⟨_,es,ep,hs,hd,r⟩
theorem nsSetZ {M:Model} {A:Around} {E:Value→Shared→Prop} {s:Shared} {a:Addr} {m} {z:Nat} (hn:NsZ s.heap a m z) (name:Str) (v:Value) (Q:Unit→Shared→Prop)
    (hQ:∀ h',NsZ h' a (fun x=>if x=name then some v else m x) (if (m name).isSome then z else z+1)→Heap.SameBut a s.heap h'→Q () { s with heap:=h',toks:=s.toks+1 }):wpAny M A (nsSet a name v) Q E s:=by
  intro Γ p _
  obtain ⟨o,es,ep,ho,hd,hk,hm,hz⟩:=hn
  simp only [nsSet,strHash,Sem.wp_bind',Sem.wp_cmd_ask,Sem.wp_pure',Sem.wp_cmd_mkText]
  rw [Sem.wp_loadPart_of M Γ _ p { s with toks:=s.toks+1 } (o:=o) _ ho]
  have hany:es.any (·.refKey)=false:=by
    rw [Array.any_eq_false'];intro e he;obtain ⟨n,t,h⟩:=hk e he;simp [DictEntry.refKey,h]
  simp only [hd,aRefKeyMayBeTheName_eq,aRefKeyMayBeTheNameByArray,hany,Bool.and_false,Bool.false_eq_true,if_false,Sem.wp_cmd_updatePart]
  refine ⟨by rw [ho];rfl,hQ _ ?_ (Heap.SameBut.update ..)⟩
  obtain ⟨c,d,dt,sl⟩:=o
  subst hd
  have h5:=hm name
  unfold nsFind at h5
  rw [findBy_of_findIdx?] at h5
  cases hi:es.findIdx? (·.key.isStr name) with
  | some i=>
    have hi':es.findIdx? (fun e=>(fun (n:Str) (v:Value)=>v.isStr n) name e.key)=some i:=hi
    rw [hi'] at h5
    have hlt:i < es.size:=(Array.findIdx?_eq_some_iff_getElem.mp hi).1
    refine ⟨_,_,ep,Heap.get?_update_self _ ho (by simp only [Obj.putName_eq,Obj.putNameByArray,hi];rfl),by simp only [Obj.putName_eq,Obj.putNameByArray,hi];rfl,hk.modify _ _,fun x=>?_,?_⟩
    · show _=if x=name then some v else m x
      rw [← hm];exact findBy_modify (fun n v=>v.isStr n) Value.isStr_inj es name x v i hi
    · rw [← h5]
      simp only [Array.getElem?_eq_getElem hlt,Option.map_some,Option.isSome_some,if_true,Array.size_modify]
      exact hz
  | none=>
    have hi':es.findIdx? (fun e=>(fun (n:Str) (v:Value)=>v.isStr n) name e.key)=none:=hi
    rw [hi'] at h5
    refine ⟨_,_,ep+1,Heap.get?_update_self _ ho (by simp only [Obj.putName_eq,Obj.putNameByArray,hi];rfl),by simp only [Obj.putName_eq,Obj.putNameByArray,hi];rfl,hk.push _ _ _ _,fun x=>?_,?_⟩
    · show _=if x=name then some v else m x
      rw [← hm]
      exact findBy_push (fun n v=>v.isStr n) es name x _ _ v (fun y=>by
        show (name==y)=decide (y=name)
        by_cases h:y=name
        · subst h;simp
        · have:¬ name=y:=fun e=>h e.symm
          simp [h,this]) hi
    · rw [← h5]
      simp only [Option.isSome_none,Bool.false_eq_true,if_false,Array.size_push]
      (exact ar_3hrl hz)
theorem length_put (x:Str) (v:PV):∀ fs:Fs,(put x v fs).length=if (fs.lookup x).isSome then fs.length else fs.length+1
  | []=>rfl
  | (y,u)::r=>by
    simp only [put]
    cases hz:(x==y) with
    | true=>
      have e:x=y:=beq_iff_eq.mp hz
      subst e
      simp [List.lookup_cons]
    | false=>
      simp only [cond_false,List.length_cons,length_put x v r,List.lookup_cons,hz]
      split<;>rfl
noncomputable def SR (K:Frag) (ρ:Rho) (h:Heap) (fs:Fs):Prop:=
  ∃ o m,h.get? ρ.sa=some o∧o.cls=.ref 925∧o.data=.plain∧o.dict=some ρ.sd∧NsZ h ρ.sd m fs.length∧MapR K ρ m fs
theorem SR.slots {K:Frag} {ρ:Rho} {h h':Heap} (k:h.UpToSlots h') {fs} (z:SR K ρ h fs):SR K ρ h' fs:=by
  obtain ⟨o,m,h1,h2,h4,h5,h6,h7⟩:=z
  obtain ⟨sl,e⟩:=k _ o h1 (by rw [h4];intro vs q;cases q)
  exact ⟨_,m,e,h2,h4,h5,h6.slots k,h7⟩
structure Fm where
  env:Env
  l:Fs
noncomputable def isFr (e:Env):Bool:=e.frame==some e.locals
noncomputable def frE (l:List Env):List Env:=l.filter isFr
theorem isFr_is {e:Env} (h:isFr e=true):e.frame=some e.locals:=beq_iff_eq.mp h
theorem frE_cons {e:Env} {l:List Env} (h:e.frame=some e.locals):frE (e::l)=e::frE l:=by
  unfold frE
  rw [List.filter_cons_of_pos (by unfold isFr;rw [h];exact beq_self_eq_true _)]
theorem frE_mem {l:List Env} {e:Env} (h:e∈frE l):e∈l∧e.frame=some e.locals:=let ⟨a,b⟩:=List.mem_filter.mp h;⟨a,isFr_is b⟩
noncomputable def FrOK:List Env→Prop
  | []=>True
  | e::r=>(∀ L,e.frame=some L→L=e.locals∨L∈r.map (·.locals))∧FrOK r
noncomputable def stor (env:Env) (m:Str→Option Value) (x:Str):Option Value:=if env.kindOf x=some .cell then (env.cells.lookup x).map Value.ref else m x
theorem stor_none {env:Env} {m:Str→Option Value} (h:∀ x∈env.scope.names,x.2≠.cell):stor env m=m:=by
  funext x
  unfold stor
  split
  · rename_i e
    have:env.scope.names.lookup x=some .cell:=e
    have hm:(x,NameKind.cell)∈env.scope.names:=mem_of_lookup this
    exact absurd rfl (h _ hm)
  · rfl
theorem stor_set {env:Env} {m:Str→Option Value} {x:Str} {v:Value} (h:env.kindOf x=some .local):stor env (fun y=>if y=x then some v else m y)=fun y=>if y=x then some v else stor env m y:=by
  funext y
  unfold stor
  by_cases e:y=x
  · subst e
    have:¬ env.kindOf y=some .cell:=by rw [h];decide
    simp [this]
  · simp [e]
structure HR (K:Frag) (base:Heap) (ρ:Rho) (S:Option Fs) (H:List AO) (F:List Fm) (h:Heap):Prop where
  stays:base.StaysIn h
  funs:h.FunFrames base (frE (F.map Fm.env))
  frames:∀ f∈F,∃ m,h.Ns f.env.locals m∧MapR K ρ (stor f.env m) f.l
  stem:∀ fs,S=some fs→SR K ρ h fs∧base.get? ρ.sd=none∧base.get? ρ.sa=none∧ρ.sd∉F.map (·.env.locals)∧ρ.sd∉ρ.os
  len:ρ.os.length=H.length
  objs:∀ (i:Nat) (a:Addr) (ao:AO),ρ.os[i]?=some a→H[i]?=some ao→OR K ρ h a ao
  apart:(F.map (·.env.locals)).Nodup∧ρ.os.Nodup∧∀ a∈ρ.os,a∉F.map (·.env.locals)
  new:∀ a∈ρ.os,base.get? a=none
  newF:∀ f∈F,base.get? f.env.locals=none
  so:base.get? ρ.so.1=some ρ.so.2
  frs:FrOK (F.map Fm.env)
section
variable {K:Frag} {base:Heap} {ρ:Rho} {S:Option Fs} {H:List AO} {F:List Fm} {h h':Heap}
theorem funFrames_slots {l:List Env} (k:h.UpToSlots h') (x:h.FunFrames base l):h'.FunFrames base l:=
  x.of_keeps fun b o e hn=>let ⟨_,e'⟩:=k b o e hn;⟨_,e',rfl⟩
theorem HR.slots (R:HR K base ρ S H F h) (k:h.UpToSlots h') (st:base.StaysIn h'):HR K base ρ S H F h' where
  stays:=st
  funs:=funFrames_slots k R.funs
  frames:=fun f hf=>let ⟨m,n,r⟩:=R.frames f hf;⟨m,k.ns n,r⟩
  stem:=fun fs e=>let ⟨a,b⟩:=R.stem fs e;⟨a.slots k,b⟩
  len:=R.len
  objs:=fun i a ao e1 e2=>(R.objs i a ao e1 e2).slots k
  apart:=R.apart
  new:=R.new
  newF:=R.newF
  so:=R.so
  frs:=R.frs
theorem HR.keeps (R:HR K base ρ S H F h) (k:∀ b o,h.get? b=some o→h'.get? b=some o):HR K base ρ S H F h':=
  R.slots (.of_keeps k) fun b o e=>k b o (R.stays b o e)
theorem funFrames_iff {l:List Env}:h.FunFrames base l↔∀ env∈l,env.scope.kind≠.module∧∃ L o,env.frame=some L∧base.get? L=none∧h.get? L=some o∧∀ vs,o.data≠.fields vs:=by
  induction l with
  | nil=>exact ⟨fun _ _ h=>(by cases h),fun _=>trivial⟩
  | cons e r ih=>
    constructor
    · rintro ⟨a,b,c⟩ x hx
      rcases List.mem_cons.mp hx with rfl | hx
      · exact ⟨a,b⟩
      · exact ih.mp c x hx
    · intro z
      exact ⟨(z e (.head _)).1,(z e (.head _)).2,ih.mpr fun x hx=>z x (.tail _ hx)⟩
theorem FunFrames_ns {l:List Env} {L:Addr} {m:Str→Option Value} (x:h.FunFrames base l) (n:h'.Ns L m) (sb:Heap.SameBut L h h'):h'.FunFrames base l:=by
  refine funFrames_iff.mpr fun env he=>?_
  obtain ⟨a,L',o,e1,e2,e3,e4⟩:=funFrames_iff.mp x env he
  refine ⟨a,L',?_⟩
  by_cases q:L'=L
  · subst q
    obtain ⟨o1,es,ep,f1,f2,_⟩:=n
    exact ⟨o1,e1,e2,f1,fun vs q=>by rw [f2] at q;cases q⟩
  · exact ⟨o,e1,e2,(sb.2 L' q).trans e3,e4⟩
theorem stays_ns {L:Addr} (x:base.StaysIn h) (n:base.get? L=none) (sb:Heap.SameBut L h h'):base.StaysIn h':=fun b o e=>by
  refine (sb.2 b fun q=>?_).trans (x b o e)
  rw [q,n] at e;cases e
theorem HR.setLocal {f:Fm} {x:Str} {v:Value} {pv:PV} {m:Str→Option Value} (R:HR K base ρ S H (f::F) h) (hk:f.env.kindOf x=some .local) (hm:h.Ns f.env.locals m) (hr:MapR K ρ (stor f.env m) f.l) (hv:VR K ρ v pv)
    (hn:h'.Ns f.env.locals (fun y=>if y=x then some v else m y)) (sb:Heap.SameBut f.env.locals h h') :
    HR K base ρ S H (⟨f.env,put x pv f.l⟩::F) h':=by
  have hne:base.get? f.env.locals=none:=R.newF f (.head _)
  have nin:f.env.locals∉F.map (·.env.locals):=(List.nodup_cons.mp (by simpa using R.apart.1)).1
  have other:∀ b,b≠f.env.locals→∀ o,h.get? b=some o→h'.get? b=some o:=fun b hb o e=>(sb.2 b hb).trans e
  refine ⟨stays_ns R.stays hne sb,FunFrames_ns R.funs hn sb,?_,?_,R.len,?_,R.apart,R.new,?_,R.so,R.frs⟩
  · intro g hg
    rcases List.mem_cons.mp hg with rfl | hg
    · exact ⟨_,hn,by rw [stor_set hk];exact hr.put x hv⟩
    · obtain ⟨m1,n1,r1⟩:=R.frames g (.tail _ hg)
      exact ⟨m1,n1.sameBut sb fun q=>nin (List.mem_map.mpr ⟨g,hg,q⟩),r1⟩
  · intro fs e
    obtain ⟨⟨o,m1,h1,h2,h4,h5,h6,h7⟩,b1,b2,b3,b4⟩:=R.stem fs e
    have d1:ρ.sd≠f.env.locals:=fun q=>b3 (List.mem_map.mpr ⟨f,.head _,q.symm⟩)
    have d2:ρ.sa≠f.env.locals:=fun q=>by
      obtain ⟨o1,es,ep,f1,f2,_⟩:=hm
      rw [← q,h1] at f1;cases f1
      rw [h4] at f2;cases f2
    exact ⟨⟨o,m1,other _ d2 _ h1,h2,h4,h5,h6.sameBut sb d1,h7⟩,b1,b2,b3,b4⟩
  · intro i a ao e1 e2
    exact (R.objs i a ao e1 e2).other (other a fun q=>R.apart.2.2 a (List.mem_of_getElem? e1) (q▸.head _))
  · intro g hg
    rcases List.mem_cons.mp hg with rfl | hg
    · exact hne
    · exact R.newF g (.tail _ hg)
theorem HR.setStem {fs:Fs} {x:Str} {v:Value} {pv:PV} {m:Str→Option Value} (R:HR K base ρ (some fs) H F h) (hm:h.Ns ρ.sd m) (hr:MapR K ρ m fs) (hv:VR K ρ v pv)
    (hn:NsZ h' ρ.sd (fun y=>if y=x then some v else m y) (put x pv fs).length) (sb:Heap.SameBut ρ.sd h h') :
    HR K base ρ (some (put x pv fs)) H F h':=by
  obtain ⟨⟨o,m1,h1,h2,h4,h5,h6,h7⟩,b1,b2,b3,b4⟩:=R.stem fs rfl
  have other:∀ b,b≠ρ.sd→∀ o,h.get? b=some o→h'.get? b=some o:=fun b hb o e=>(sb.2 b hb).trans e
  refine ⟨stays_ns R.stays b1 sb,FunFrames_ns R.funs hn.ns sb,?_,?_,R.len,?_,R.apart,R.new,R.newF,R.so,R.frs⟩
  · intro g hg
    obtain ⟨m1,n1,r1⟩:=R.frames g hg
    exact ⟨m1,n1.sameBut sb fun q=>b3 (List.mem_map.mpr ⟨g,hg,q⟩),r1⟩
  · intro fs' e
    cases e
    have d2:ρ.sa≠ρ.sd:=fun q=>by
      obtain ⟨o1,es,ep,f1,f2,_⟩:=hm
      rw [← q,h1] at f1;cases f1
      rw [h4] at f2;cases f2
    exact ⟨⟨o,_,other _ d2 _ h1,h2,h4,h5,hn,hr.put x hv⟩,b1,b2,b3,b4⟩
  · intro i a ao e1 e2
    exact (R.objs i a ao e1 e2).other (other a fun q=>b4 (q▸List.mem_of_getElem? e1))
theorem fresh_base (st:base.StaysIn h) {a:Addr} (n:h.objs.size≤a):base.get? a=none:=by
  cases q:base.get? a with
  | none=>rfl
  | some o=>exact absurd (Heap.lt_size (st _ o q)) (Nat.not_lt.mpr n)
theorem HR.osLt (R:HR K base ρ S H F h) {a:Addr} (ha:a∈ρ.os):a < h.objs.size:=by
  obtain ⟨i,hi⟩:=List.mem_iff_getElem?.mp ha
  have hl:i < H.length:=by rw [← R.len];exact (List.getElem?_eq_some_iff.mp hi).1
  obtain ⟨o,e,_⟩:=(R.objs i a _ hi (List.getElem?_eq_getElem hl)).there
  exact Heap.lt_size e
theorem HR.frLt (R:HR K base ρ S H F h) {f:Fm} (hf:f∈F):f.env.locals < h.objs.size:=let ⟨_,n,_⟩:=R.frames f hf;n.lt
theorem HR.enter {env:Env} {l:Fs} {m:Str→Option Value} (R:HR K base ρ S H F h) (hk:∀ b o,h.get? b=some o→h'.get? b=some o) (hn:h'.Ns env.locals m) (hr:MapR K ρ (stor env m) l)
    (hL:h.objs.size≤env.locals) (hmod:isFr env=true→env.scope.kind≠.module) (hfs:∀ L,env.frame=some L→L=env.locals∨L∈F.map (·.env.locals)):HR K base ρ S H (⟨env,l⟩::F) h':=by
  have R':=R.keeps hk
  have hb:base.get? env.locals=none:=fresh_base R.stays hL
  refine ⟨R'.stays,?_,?_,?_,R.len,R'.objs,⟨?_,R.apart.2.1,?_⟩,R.new,?_,R.so,⟨by rw [List.map_map];exact hfs,R.frs⟩⟩
  · show h'.FunFrames base (frE (env::F.map Fm.env))
    unfold frE
    rw [List.filter_cons]
    split
    · rename_i hi
      obtain ⟨o,es,ep,e1,e2,_⟩:=hn
      exact ⟨hmod hi,⟨_,o,isFr_is hi,hb,e1,fun vs q=>by rw [e2] at q;cases q⟩,R'.funs⟩
    · exact R'.funs
  · intro g hg
    rcases List.mem_cons.mp hg with rfl | hg
    · exact ⟨m,hn,hr⟩
    · exact R'.frames g hg
  · intro fs e
    obtain ⟨a,b1,b2,b3,b4⟩:=R'.stem fs e
    refine ⟨a,b1,b2,fun q=>?_,b4⟩
    rw [List.map_cons] at q
    rcases List.mem_cons.mp q with q | q
    · obtain ⟨⟨o,m1,h1,h2,h4,h5,h6,h7⟩,_⟩:=R.stem fs e
      exact absurd h6.ns.lt (by rw [q];exact Nat.not_lt.mpr hL)
    · exact b3 q
  · rw [List.map_cons,List.nodup_cons]
    refine ⟨fun q=>?_,R.apart.1⟩
    obtain ⟨g,hg,e⟩:=List.mem_map.mp q
    have:=R.frLt hg
    have e':g.env.locals=env.locals:=e
    rw [e'] at this
    exact Nat.not_lt.mpr hL this
  · intro a ha q
    rw [List.map_cons] at q
    rcases List.mem_cons.mp q with q | q
    · have:=R.osLt ha
      rw [q] at this
      exact Nat.not_lt.mpr hL this
    · exact R.apart.2.2 a ha q
  · intro g hg
    rcases List.mem_cons.mp hg with rfl | hg
    · exact hb
    · exact R.newF g hg
theorem HR.leave {f:Fm} (R:HR K base ρ S H (f::F) h):HR K base ρ S H F h:=
  ⟨R.stays,by
    have z:=R.funs
    rw [List.map_cons] at z
    unfold frE at z
    rw [List.filter_cons] at z
    split at z
    · exact z.2.2
    · exact z,fun g hg=>R.frames g (.tail _ hg),fun fs e=>let ⟨a,b1,b2,b3,b4⟩:=R.stem fs e;⟨a,b1,b2,fun q=>b3 (.tail _ q),b4⟩,R.len,R.objs,
    ⟨(List.nodup_cons.mp R.apart.1).2,R.apart.2.1,fun a ha q=>R.apart.2.2 a ha (.tail _ q)⟩,R.new,fun g hg=>R.newF g (.tail _ hg),R.so,R.frs.2⟩
theorem HR.mkExt (ρ:Rho) (a:Addr):Ext ρ { ρ with os:=ρ.os++[a] }:=
  ⟨Nat.le_refl _,fun _=>⟨rfl,rfl⟩,fun i b e=>by
    have hi:=(List.getElem?_eq_some_iff.mp e).1
    show (ρ.os++[a])[i]?=some b
    rw [List.getElem?_append_left hi];exact e,rfl⟩
theorem HR.make {ao:AO} {a:Addr} (R:HR K base ρ S H F h) (hk:∀ b o,h.get? b=some o→h'.get? b=some o) (ha:h.objs.size≤a)
    (ho:OR K ρ h' a ao):HR K base { ρ with os:=ρ.os++[a] } S (H++[ao]) F h':=by
  have R':=R.keeps hk
  have x:=HR.mkExt ρ a
  refine ⟨R'.stays,R'.funs,?_,?_,by simp [R.len],?_,⟨R.apart.1,?_,?_⟩,?_,R.newF,R.so,R.frs⟩
  · intro g hg
    obtain ⟨m1,n1,r1⟩:=R'.frames g hg
    exact ⟨m1,n1,r1.ext x⟩
  · intro fs e
    obtain ⟨⟨o,m1,h1,h2,h4,h5,h6,h7⟩,b1,b2,b3,b4⟩:=R'.stem fs e
    refine ⟨⟨o,m1,h1,h2,h4,h5,h6,h7.ext x⟩,b1,b2,b3,fun q=>?_⟩
    rcases List.mem_append.mp q with q | q
    · exact b4 q
    · obtain ⟨⟨_,_,_,_,_,_,h6',_⟩,_⟩:=R.stem fs e
      have:=h6'.ns.lt
      have q':ρ.sd=a:=by simpa using q
      rw [q'] at this
      exact Nat.not_lt.mpr ha this
  · intro i b ao' e1 e2
    by_cases hi:i < ρ.os.length
    · have e1':(ρ.os++[a])[i]?=some b:=e1
      rw [List.getElem?_append_left hi] at e1'
      rw [List.getElem?_append_left (by rw [← R.len];exact hi)] at e2
      exact (R'.objs i b ao' e1' e2).ext x
    · have e1':(ρ.os++[a])[i]?=some b:=e1
      rw [List.getElem?_append_right (by (exact ar_n3le hi))] at e1'
      rw [List.getElem?_append_right (by rw [← R.len];(exact ar_n3le hi)),← R.len] at e2
      cases hd:i - ρ.os.length with
      | zero=>
        rw [hd] at e1' e2
        cases e1';cases e2
        exact ho.ext x
      | succ k=>rw [hd] at e1';cases e1'
  · rw [List.nodup_append]
    refine ⟨R.apart.2.1,by simp,fun y hy z hz=>?_⟩
    have:=R.osLt hy
    have q':z=a:=by simpa using hz
    intro e
    rw [e,q'] at this
    exact Nat.not_lt.mpr ha this
  · intro b hb q
    rcases List.mem_append.mp hb with hb | hb
    · exact R.apart.2.2 b hb q
    · obtain ⟨g,hg,e⟩:=List.mem_map.mp q
      have:=R.frLt hg
      have e':g.env.locals=b:=e
      rw [e',show b=a by simpa using hb] at this
      exact Nat.not_lt.mpr ha this
  · intro b hb
    rcases List.mem_append.mp hb with hb | hb
    · exact R.new b hb
    · rw [show b=a by simpa using hb]
      exact fresh_base R.stays ha
noncomputable def soft (ρ:Rho) (S:Option Fs) (F:List Fm):List Addr:=F.map (·.env.locals)++(match S with | some _=>[ρ.sd,ρ.sa] | none=>[])++ρ.os
theorem HR.soft_new (R:HR K base ρ S H F h):∀ a∈soft ρ S F,base.get? a=none:=by
  intro a ha
  unfold soft at ha
  rcases List.mem_append.mp ha with ha | ha
  · rcases List.mem_append.mp ha with ha | ha
    · obtain ⟨f,hf,rfl⟩:=List.mem_map.mp ha
      exact R.newF f hf
    · cases S with
      | none=>cases ha
      | some fs=>
        obtain ⟨_,b1,b2,_⟩:=R.stem fs rfl
        rcases List.mem_cons.mp ha with rfl | ha
        · exact b1
        · rw [List.mem_singleton.mp ha];exact b2
  · exact R.new a ha
theorem HR.base_in (R:HR K base ρ S H F h):base.StaysIn (hideAll h (soft ρ S F)):=fun b o e=>by
  refine hideAll_get _ (R.stays b o e) fun q=>?_
  rw [R.soft_new b q] at e;cases e
theorem HR.rebase (R:HR K base ρ S H F h):HR K (hideAll h (soft ρ S F)) ρ S H F h:=by
  have inF:∀ f∈F,f.env.locals∈soft ρ S F:=fun f hf=>List.mem_append_left _ (List.mem_append_left _ (List.mem_map.mpr ⟨f,hf,rfl⟩))
  refine ⟨fun b o e=>of_hideAll _ e,funFrames_hide R.funs fun env he a hfr=>?_,R.frames,fun fs e=>?_,R.len,R.objs,R.apart,fun a ha=>hideAll_none _ (List.mem_append_right _ ha),fun f hf=>hideAll_none _ (inF f hf),R.base_in _ _ R.so,R.frs⟩
  · obtain ⟨he,hfr'⟩:=frE_mem he
    obtain ⟨f,hf,rfl⟩:=List.mem_map.mp he
    rw [hfr'] at hfr;cases hfr
    exact inF f hf
  · obtain ⟨a,b1,b2,b3,b4⟩:=R.stem fs e
    subst e
    exact ⟨a,hideAll_none _ (List.mem_append_left _ (List.mem_append_right _ (.head _))),hideAll_none _ (List.mem_append_left _ (List.mem_append_right _ (.tail _ (.head _)))),b3,b4⟩
theorem HR.back {base':Heap} (k:base.StaysIn base') (so:base.get? ρ.so.1=some ρ.so.2) (R:HR K base' ρ S H F h):HR K base ρ S H F h:=
  ⟨fun b o e=>R.stays b o (k b o e),funFrames_base k R.funs,R.frames,fun fs e=>let ⟨a,b1,b2,b3,b4⟩:=R.stem fs e;⟨a,fresh_of_stays k b1,fresh_of_stays k b2,b3,b4⟩,R.len,R.objs,R.apart,
    fun a ha=>fresh_of_stays k (R.new a ha),fun f hf=>fresh_of_stays k (R.newF f hf),so,R.frs⟩
theorem AllR.set {K:Frag} {ρ:Rho}:∀ {vs:List Value} {ps:List PV} {i:Nat} {v:Value} {p:PV},AllR K ρ vs ps→VR K ρ v p→AllR K ρ (vs.set i v) (ps.set i p)
  | [],[],_,_,_,_,_=>trivial
  | _::_,_::_,0,_,_,h,hv=>⟨hv,h.2⟩
  | _::_,_::_,_+1,_,_,h,hv=>⟨h.1,AllR.set h.2 hv⟩
  | [],_::_,_,_,_,h,_=>h.elim
  | _::_,[],_,_,_,h,_=>h.elim
theorem HR.setObj {i:Nat} {a:Addr} {ao:AO} (R:HR K base ρ S H F h) (hi:ρ.os[i]?=some a) (sb:Heap.SameBut a h h') (ho:OR K ρ h' a ao):HR K base ρ S (H.set i ao) F h':=by
  have hm:a∈ρ.os:=List.mem_of_getElem? hi
  have nb:base.get? a=none:=R.new a hm
  have other:∀ b,b≠a→∀ o,h.get? b=some o→h'.get? b=some o:=fun b hb o e=>(sb.2 b hb).trans e
  have hil:i < H.length:=by rw [← R.len];exact (List.getElem?_eq_some_iff.mp hi).1
  obtain ⟨oa,ga,da⟩:=(R.objs i a _ hi (List.getElem?_eq_getElem hil)).there
  refine ⟨stays_ns R.stays nb sb,funFrames_iff.mpr fun env he=>?_,?_,?_,by simp [R.len],?_,R.apart,R.new,R.newF,R.so,R.frs⟩
  · obtain ⟨q,L,o,e1,e2,e3,e4⟩:=funFrames_iff.mp R.funs env he
    obtain ⟨he',hfr⟩:=frE_mem he
    obtain ⟨f,hf,rfl⟩:=List.mem_map.mp he'
    rw [hfr] at e1;cases e1
    exact ⟨q,_,o,hfr,e2,other _ (fun q=>R.apart.2.2 a hm (q▸List.mem_map.mpr ⟨f,hf,rfl⟩)) _ e3,e4⟩
  · intro g hg
    obtain ⟨m1,n1,r1⟩:=R.frames g hg
    exact ⟨m1,n1.sameBut sb fun q=>R.apart.2.2 a hm (q▸List.mem_map.mpr ⟨g,hg,rfl⟩),r1⟩
  · intro fs e
    obtain ⟨⟨o,m1,h1,h2,h4,h5,h6,h7⟩,b1,b2,b3,b4⟩:=R.stem fs e
    have d1:ρ.sd≠a:=fun q=>b4 (q▸hm)
    have d2:ρ.sa≠a:=fun q=>by
      rw [q,ga] at h1;cases h1
      exact da h4
    exact ⟨⟨o,m1,other _ d2 _ h1,h2,h4,h5,h6.sameBut sb d1,h7⟩,b1,b2,b3,b4⟩
  · intro j b ao' e1 e2
    by_cases hj:j=i
    · subst hj
      rw [hi] at e1;cases e1
      rw [List.getElem?_set_self hil] at e2;cases e2
      exact ho
    · rw [List.getElem?_set_ne (Ne.symm hj)] at e2
      refine (R.objs j b ao' e1 e2).other (other b fun q=>?_)
      subst q
      have n:=R.apart.2.1
      have h1:=List.getElem?_eq_some_iff.mp e1
      have h2:=List.getElem?_eq_some_iff.mp hi
      obtain ⟨l1,x1⟩:=h1
      obtain ⟨l2,x2⟩:=h2
      exact hj ((List.getElem_inj n).mp (x1.trans x2.symm))
theorem HR.soft_lt (R:HR K base ρ S H F h):∀ a∈soft ρ S F,a < h.objs.size:=by
  intro a ha
  unfold soft at ha
  rcases List.mem_append.mp ha with ha | ha
  · rcases List.mem_append.mp ha with ha | ha
    · obtain ⟨f,hf,rfl⟩:=List.mem_map.mp ha
      exact R.frLt hf
    · cases S with
      | none=>cases ha
      | some fs=>
        obtain ⟨⟨o,m,h1,h2,h4,h5,h6,h7⟩,_⟩:=R.stem fs rfl
        rcases List.mem_cons.mp ha with rfl | ha
        · exact h6.ns.lt
        · rw [List.mem_singleton.mp ha];exact Heap.lt_size h1
  · exact R.osLt ha
theorem HR.other {it:Addr} (R:HR K base ρ S H F h) (nb:base.get? it=none) (ns:it∉soft ρ S F) (k:Heap.ExtBut it h h'):HR K base ρ S H F h':=by
  have inF:∀ f∈F,f.env.locals≠it:=fun f hf q=>ns (q▸List.mem_append_left _ (List.mem_append_left _ (List.mem_map.mpr ⟨f,hf,rfl⟩)))
  have keep:∀ b o,b∈soft ρ S F→h.get? b=some o→h'.get? b=some o:=fun b o hb e=>k b o (fun q=>ns (q▸hb)) e
  refine ⟨fun b o e=>k b o (fun q=>by rw [q,nb] at e;cases e) (R.stays b o e),funFrames_iff.mpr fun env he=>?_,fun f hf=>?_,fun fs e=>?_,R.len,fun i a ao e1 e2=>?_,R.apart,R.new,R.newF,R.so,R.frs⟩
  · obtain ⟨a,L,o,e1,e2,e3,e4⟩:=funFrames_iff.mp R.funs env he
    obtain ⟨he',hfr⟩:=frE_mem he
    obtain ⟨f,hf,rfl⟩:=List.mem_map.mp he'
    have:L=f.env.locals:=by rw [hfr] at e1;cases e1;rfl
    exact ⟨a,L,o,e1,e2,k L o (by rw [this];exact inF f hf) e3,e4⟩
  · obtain ⟨m,n,r⟩:=R.frames f hf
    exact ⟨m,n.extBut k (inF f hf),r⟩
  · obtain ⟨⟨o,m,h1,h2,h4,h5,⟨oz,es,ep,z1,z2⟩,h7⟩,b⟩:=R.stem fs e
    subst e
    have s1:ρ.sd∈soft ρ (some fs) F:=List.mem_append_left _ (List.mem_append_right _ (.head _))
    have s2:ρ.sa∈soft ρ (some fs) F:=List.mem_append_left _ (List.mem_append_right _ (.tail _ (.head _)))
    exact ⟨⟨o,m,keep _ _ s2 h1,h2,h4,h5,⟨oz,es,ep,keep _ _ s1 z1,z2⟩,h7⟩,b⟩
  · exact (R.objs i a ao e1 e2).other fun o e=>keep _ _ (List.mem_append_right _ (List.mem_of_getElem? e1)) e
theorem HR.add {ao:AO} {a:Addr} (R:HR K base ρ S H F h) (nb:base.get? a=none) (ns:a∉soft ρ S F) (ho:OR K ρ h a ao):HR K base { ρ with os:=ρ.os++[a] } S (H++[ao]) F h:=by
  have x:=HR.mkExt ρ a
  have n1:a∉F.map (·.env.locals):=fun q=>ns (List.mem_append_left _ (List.mem_append_left _ q))
  have n2:a∉ρ.os:=fun q=>ns (List.mem_append_right _ q)
  refine ⟨R.stays,R.funs,?_,?_,by simp [R.len],?_,⟨R.apart.1,?_,?_⟩,?_,R.newF,R.so,R.frs⟩
  · intro g hg
    obtain ⟨m1,n1,r1⟩:=R.frames g hg
    exact ⟨m1,n1,r1.ext x⟩
  · intro fs e
    subst e
    obtain ⟨⟨o,m1,h1,h2,h4,h5,h6,h7⟩,b1,b2,b3,b4⟩:=R.stem fs rfl
    refine ⟨⟨o,m1,h1,h2,h4,h5,h6,h7.ext x⟩,b1,b2,b3,fun q=>?_⟩
    rcases List.mem_append.mp q with q | q
    · exact b4 q
    · refine ns (List.mem_append_left _ (List.mem_append_right _ ?_))
      have:ρ.sd=a:=by simpa using q
      rw [← this];exact .head _
  · intro i b ao' e1 e2
    by_cases hi:i < ρ.os.length
    · have e1':(ρ.os++[a])[i]?=some b:=e1
      rw [List.getElem?_append_left hi] at e1'
      rw [List.getElem?_append_left (by rw [← R.len];exact hi)] at e2
      exact (R.objs i b ao' e1' e2).ext x
    · have e1':(ρ.os++[a])[i]?=some b:=e1
      rw [List.getElem?_append_right (by (exact ar_n3le hi))] at e1'
      rw [List.getElem?_append_right (by rw [← R.len];(exact ar_n3le hi)),← R.len] at e2
      cases hd:i - ρ.os.length with
      | zero=>
        rw [hd] at e1' e2
        cases e1';cases e2
        exact ho.ext x
      | succ k=>rw [hd] at e1';cases e1'
  · rw [List.nodup_append]
    refine ⟨R.apart.2.1,by simp,fun y hy z hz e=>?_⟩
    have q':z=a:=by simpa using hz
    rw [e,q'] at hy
    exact n2 hy
  · intro b hb q
    rcases List.mem_append.mp hb with hb | hb
    · exact R.apart.2.2 b hb q
    · rw [show b=a by simpa using hb] at q
      exact n1 q
  · intro b hb
    rcases List.mem_append.mp hb with hb | hb
    · exact R.new b hb
    · rw [show b=a by simpa using hb]
      exact nb
end
end Mine

open PySem PySem.W PyProof.Rows PySem.Calls
set_option maxRecDepth 100000
set_option Elab.async false
set_option backward.match.sparseCases false
namespace Mine
noncomputable abbrev Ex:=PySem.Expr
section
variable {prog:Program} {w:World} {A:Around} {E:Value→Shared→Prop} {s:Shared} {env:Env}
noncomputable def isStar (e:Ex):Bool:=Nat.beq e.ctorIdx 22
noncomputable def noStar (l:List Ex):Bool:=l.all fun e=>!isStar e
noncomputable def argsOf (l:List Ex) (env:Env):List (Bool × Sem Value):=l.map fun e=>(false,eval e env)
theorem star_plain {e:Ex} {r:List Ex} (h:isStar e=false):starEach (e::r) env=(false,eval e env)::starEach r env:=by
  cases e<;>first | rfl | exact Bool.noConfusion h
theorem starEach_plain:∀ {l:List Ex},noStar l=true→starEach l env=argsOf l env
  | [],_=>rfl
  | e::r,h=>by
    obtain ⟨h1,h2⟩:=Bool.and_eq_true_iff.mp (h:(!isStar e&&noStar r)=true)
    rw [star_plain ((Bool.not_eq_true' _).mp h1),starEach_plain h2];rfl
theorem backTo_plain {pos:Pos} {l:List Ex}:backTo pos (argsOf l env)=argsOf l env:=by
  unfold backTo argsOf
  rw [List.map_map]
  rfl
theorem argsOf_any {l:List Ex}:(argsOf l env).any (·.1)=false:=by
  unfold argsOf
  rw [List.any_map]
  induction l with
  | nil=>rfl
  | cons a r ih=>rw [List.any_cons,ih];rfl
theorem argsOf_all {l:List Ex}:(argsOf l env).all (fun x=>!x.1)=true:=by
  unfold argsOf
  rw [List.all_map]
  induction l with
  | nil=>rfl
  | cons a r ih=>rw [List.all_cons,ih];rfl
theorem argsW {f:Value} {l:List Ex} {Q:Args→Shared→Prop} {M:Model} (h:wpAny M A (spliced (argsOf l env)) (fun vs s'=>Q ⟨vs,[]⟩ s') E s):wpAny M A (evalArgs f true (argsOf l env) []) Q E s:=by
  cases l with
  | nil=>
    unfold evalArgs
    show wpAny M A (spliced (argsOf [] env) >>= _) Q E s
    refine wpAny_bind (wpAny_mono h (fun vs s' h'=>?_) fun _ _ x=>x)
    refine wpAny_holding ?_
    exact wpAny_bind (wpAny_pure (wpAny_bind (wpAny_pure (wpAny_pure h'))))
  | cons e r=>exact evalArgs_plain h
variable {M:Model}
theorem callW_fun {pos:Pos} {a:Addr} {o:Obj} {fd:FuncData} {first:List Value} {l:List Ex} {Q:Value→Shared→Prop}
    (h:wpAny M A (spliced (argsOf l env)) (fun vs s₁=>(s₁.heap.get? a=some o∧o.data=.func fd)∧wpAny M A (call (.ref a) (first++vs)) Q E s₁) E s) :
    wpAny M A (callWith pos (.ref a) first (argsOf l env) []) Q E s:=callWith_function (argsW h)
theorem callW_blt {pos:Pos} {id:String} {first:List Value} {l:List Ex} {Q:Value→Shared→Prop}
    (h:wpAny M A (spliced (argsOf l env)) (fun vs s₁=>wpAny M A (call (.builtin id) (first++vs)) Q E s₁) E s) :
    wpAny M A (callWith pos (.builtin id) first (argsOf l env) []) Q E s:=callWith_builtin argsOf_any (argsW h)
theorem callW_typ {pos:Pos} {T:String} {l:List Ex} {Q:Value→Shared→Prop}
    (h:wpAny M A (spliced (argsOf l env)) (fun vs s₁=>wpAny M A (call (.type T) vs) Q E s₁) E s) :
    wpAny M A (callWith pos (.type T) [] (argsOf l env) []) Q E s:=PySem.callWith_type argsOf_any (argsW h)
theorem callName {x:Str} {np pos:Pos} {l:List Ex} {Q:Value→Shared→Prop} (hs:noStar l=true)
    (h:wpAny M A (eval (.Name x np) env) (fun f s₁=>wpAny M A (callWith pos f [] (argsOf l env) []) Q E s₁) E s) :
    wpAny M A (eval (.Call (.Name x np) l [] pos) env) Q E s:=by
  have e:eval (.Call (.Name x np) l [] pos) env=(eval (.Name x np) env >>= fun f=>callWith pos f [] (backTo pos (starEach l env)) []):=rfl
  rw [e,starEach_plain hs,backTo_plain]
  exact wpAny_bind h
noncomputable def superS:Str:="super"
noncomputable def nameNot (f:Ex):Bool:=match asName f with
  | some q=>!(q.1==superS)
  | none=>false
noncomputable def call0Not (e:Ex):Bool:=match asCallV e with
  | some (f,[],[],_)=>nameNot f
  | _=>false
noncomputable def baseOk (e:Ex):Bool:=Nat.beq e.ctorIdx 23||(Nat.beq e.ctorIdx 21||call0Not e)
theorem sub_ex (e:Ex) (h:e.ctorIdx=21):∃ a b p,e=.Subscript a b p:=PySem.Expr.Subscript.elim (motive_1:=fun e=>∃ a b p,e=.Subscript a b p) e h fun a b p=>⟨a,b,p,rfl⟩
theorem call0Not_is {o:Ex} (h:call0Not o=true):∃ id np p,o=.Call (.Name id np) [] [] p∧(id != superS)=true:=by
  unfold call0Not at h
  cases q:asCallV o with
  | none=>rw [q] at h;cases h
  | some v=>
    obtain ⟨f,a,k,p⟩:=v
    rw [q] at h
    rcases a with _ | ⟨_,_⟩
    · rcases k with _ | ⟨_,_⟩
      · dsimp only at h
        unfold nameNot at h
        cases q2:asName f with
        | none=>rw [q2] at h;cases h
        | some w=>
          rw [q2] at h
          exact ⟨w.1,w.2,p,by rw [asCallV_is q,asName_is q2],h⟩
      · cases h
    · cases h
theorem base_plain {o:Ex} {m:Str} {whole:Sem Value} (ho:baseOk o=true):attributeBase o m env whole=whole:=by
  unfold baseOk at ho
  rcases Bool.or_eq_true_iff.mp ho with h | h
  · obtain ⟨n,p,rfl⟩:=name_ex o (Nat.eq_of_beq_eq_true h);rfl
  · rcases Bool.or_eq_true_iff.mp h with h | h
    · obtain ⟨a,b,p,rfl⟩:=sub_ex o (Nat.eq_of_beq_eq_true h);rfl
    · obtain ⟨id,np,p,rfl,h⟩:=call0Not_is h
      unfold attributeBase
      dsimp only
      rw [if_pos (by rw [show (id != ("super":Str))=true from h];rfl)]
theorem callMeth {o:Ex} {m:Str} {ap pos:Pos} {l:List Ex} {Q:Value→Shared→Prop} (ho:baseOk o=true) (hs:noStar l=true) (hl:l.length < 29) (hline:(ap.endLine==pos.line)=true)
    (h:wpAny M A (eval o env) (fun ov s₁=>∀ pl,wpAny M A (getMethod ov m pl) (fun fp s₂=>wpAny M A (callWith pos fp.1 fp.2 (argsOf l env) []) Q E s₂) E s₁) E s) :
    wpAny M A (eval (.Call (.Attribute o m ap) l [] pos) env) Q E s:=by
  rw [arm_eval_Call]
  have hb:attributeBase o m env (eval o env)=eval o env:=base_plain ho
  rw [hb,starEach_plain hs,backTo_plain]
  refine wpAny_bind (wpAny_mono h (fun ov s₁ h₁=>wpAny_bind (wpAny_standAt ?_)) fun _ _ x=>x)
  have hf:methodCallForm (l.length+([]:List Keyword).length) (argsOf l env) (backToKw pos (keywordEach [] env))=true:=by
    show ((argsOf l env).all (fun x=>!x.1)&&true&&decide (l.length+0+0 < 30))=true
    rw [argsOf_all];simp;(exact ar_30gn hl)
  have hpos:methodCallPos true o env ap pos=pure pos:=by unfold methodCallPos;simp [hline]
  unfold methodCall
  rw [hf,hpos]
  exact wpAny_bind (wpAny_holding (wpAny_mono (h₁ _) (fun fp s₂ h₂=>wpAny_bind (wpAny_pure h₂)) fun _ _ x=>x))
theorem attrName {x attr:Str} {np p:Pos} {Q:Value→Shared→Prop}
    (h:wpAny M A (eval (.Name x np) env) (fun o s₁=>wpAny M A (getAttr o attr true) Q E s₁) E s):wpAny M A (eval (.Attribute (.Name x np) attr p) env) Q E s:=by
  rw [arm_eval_Attribute]
  have e1:attributeBase (.Name x np) attr env (eval (.Name x np) env)=eval (.Name x np) env:=rfl
  rw [e1]
  refine wpAny_bind (wpAny_mono h (fun o s₁ h₁=>wpAny_bind (wpAny_standAt (wpAny_bind (wpAny_holding (wpAny_mono h₁ (fun r s₂ h₂=>?_) fun _ _ y=>y))))) fun _ _ y=>y)
  have e2:letTemporaryGo (.Name x np) o r=pure ():=rfl
  rw [e2]
  exact wpAny_bind (wpAny_pure (wpAny_pure h₂))
noncomputable def noSlice (e:Ex):Bool:=!Nat.beq e.ctorIdx 26
theorem subs_plain {slice:Ex} {o i:Value} (h:noSlice slice=true):subscripted slice false o i=operate [o,i] (getItem o i):=by
  cases slice<;>first | rfl | exact Bool.noConfusion h
theorem exprS {e:Ex} {pos:Pos} {Q:Flow→Shared→Prop} (h:wpAny M A (eval e env) (fun v s'=>(∀ a,v≠.ref a)∧Q .next s') E s)
    (hi:interactive env=false) (hs:swapsWith e none pos.line env=pure false):wpAny M A (exec (.Expr e pos) env) Q E s:=by
  refine wpAny_Expr (wpAny_mono h (fun v s' h'=>?_) fun _ _ x=>x) hi hs
  obtain ⟨a,b⟩:=h'
  cases v<;>first | exact b | exact (a _ rfl).elim
end
end Mine

open PySem PySem.W PyProof.Rows PySem.Calls
set_option maxRecDepth 100000
set_option Elab.async false
set_option backward.match.sparseCases false
namespace Mine
noncomputable def isV (c:Nat):Bool:=[97,101,105,111,117,225,233,237,243,250,252].contains c
noncomputable def numP (a:PV) (k:Int→Prop):Prop:=match a with | .int x=>k x | _=>False
noncomputable def txtP (a:PV) (k:List Nat→Prop):Prop:=match a with | .str x=>k x | _=>False
theorem numP_is {a:PV} {k:Int→Prop} (h:numP a k):∃ x,a=.int x∧k x:=by
  cases a<;>first | exact ⟨_,rfl,h⟩ | exact h.elim
theorem txtP_is {a:PV} {k:List Nat→Prop} (h:txtP a k):∃ x,a=.str x∧k x:=by
  cases a<;>first | exact ⟨_,rfl,h⟩ | exact h.elim
noncomputable def numPP (a b:PV) (k:Int→Int→Prop):Prop:=numP a fun x=>numP b fun y=>k x y
theorem numPP_is {a b:PV} {k:Int→Int→Prop} (h:numPP a b k):∃ x y,a=.int x∧b=.int y∧k x y:=by
  obtain ⟨x,e1,h1⟩:=numP_is h
  obtain ⟨y,e2,h2⟩:=numP_is h1
  exact ⟨x,y,e1,e2,h2⟩
noncomputable def txtOr (a b:PV) (f:List Nat→List Nat→Prop) (k:Int→Int→Prop):Prop:=match a with | .str x=>txtP b fun y=>f x y | a=>numPP a b k
theorem txtOr_is {a b:PV} {f:List Nat→List Nat→Prop} {k:Int→Int→Prop} (h:txtOr a b f k):(∃ x y,a=.str x∧b=.str y∧f x y)∨∃ x y,a=.int x∧b=.int y∧k x y:=by
  cases a<;>first
    | (have h':txtP b _:=h;obtain ⟨y,rfl,q⟩:=txtP_is h';exact .inl ⟨_,y,rfl,rfl,q⟩)
    | exact .inr (numPP_is h)
noncomputable def pBin (op:Operator) (a b:PV) (k:PV→Prop):Prop:=match op with
  | .Add=>txtOr a b (fun x y=>x.length+y.length≤4000∧k (.str (x++y))) fun a b=>k (.int (a+b))
  | .Sub=>numPP a b fun a b=>k (.int (a - b))
  | .RShift=>numPP a b fun a b=>b=1∧0≤a∧k (.int (a / 2))
  | .Mod=>numPP a b fun a b=>0 < b∧k (.int (a % b))
  | .FloorDiv=>numPP a b fun a b=>(0 < b∧b < 1000000000)∧k (.int (a / b))
  | .Pow=>numPP a b fun a b=>(0≤b∧b≤1000∧0≤a∧a < 1000000000)∧k (.int (a ^ b.toNat))
  | _=>False
noncomputable def pAug (op:Operator) (a b:PV) (k:PV→Prop):Prop:=match op with
  | .Add=>numPP a b fun a b=>k (.int (a+b))
  | .Sub=>numPP a b fun a b=>k (.int (a - b))
  | _=>False
noncomputable def vowP (a b:PV) (k:Nat→Prop):Prop:=txtP a fun x=>match b with | .vset=>∃ c,x=[c]∧k c | _=>False
theorem vowP_is {a b:PV} {k:Nat→Prop} (h:vowP a b k):∃ c,a=.str [c]∧b=.vset∧k c:=by
  obtain ⟨x,e1,h1⟩:=txtP_is h
  cases b<;>first | (obtain ⟨c,e2,q⟩:=h1;exact ⟨c,e1.trans (by rw [e2]),rfl,q⟩) | exact h1.elim
noncomputable def pIsNone (a b:PV) (k:Bool→Prop):Prop:=match b with
  | .none=>(match a with | .none=>k true | .str _=>k false | _=>False)
  | _=>False
noncomputable def pCmp (op:CmpOp) (a b:PV) (k:Bool→Prop):Prop:=match op with
  | .Lt=>numPP a b fun a b=>k (decide (a < b))
  | .LtE=>numPP a b fun a b=>k (decide (a≤b))
  | .Gt=>numPP a b fun a b=>k (decide (b < a))
  | .GtE=>numPP a b fun a b=>k (decide (b≤a))
  | .Eq=>txtOr a b (fun a b=>k (decide (a=b))) fun a b=>k (decide (a=b))
  | .NotEq=>txtOr a b (fun a b=>k (!decide (a=b))) fun a b=>k (!decide (a=b))
  | .In=>vowP a b fun c=>k (isV c)
  | .NotIn=>vowP a b fun c=>k (!isV c)
  | .Is=>pIsNone a b k
  | _=>False
noncomputable def clip (n:Nat) (i:Int):Nat:=if i < 0 then (i+n).toNat else min i.toNat n
noncomputable def slc {α:Type} (x:List α) (lo hi:Option Int):List α:=
  let a:=match lo with | some i=>clip x.length i | none=>0
  let b:=match hi with | some i=>clip x.length i | none=>x.length
  (x.take b).drop a
theorem sl_len (l:List Nat):(⟨l.toArray⟩:Str).length=l.length:=by show l.toArray.size=_;simp
section
variable {prog:Program} {w:World} {A:Around} {E:Value→Shared→Prop} {s:Shared} {K:Frag} {ρ:Rho} {va vb:Value} {a b:PV}
theorem numPP_v {k:Int→Int→Prop} (h:numPP a b k) (ha:VR K ρ va a) (hb:VR K ρ vb b) (G:Value→Value→Prop) (c:∀ x y t u,k x y→G (.int x t) (.int y u)):G va vb:=by
  obtain ⟨x,y,rfl,rfl,h⟩:=numPP_is h
  obtain ⟨t,rfl⟩:=ha;obtain ⟨u,rfl⟩:=hb
  exact c x y t u h
theorem txtOr_v {f:List Nat→List Nat→Prop} {k:Int→Int→Prop} (h:txtOr a b f k) (ha:VR K ρ va a) (hb:VR K ρ vb b) (G:Value→Value→Prop) (d:∀ x y t u,f x y→G (.str ⟨x.toArray⟩ t) (.str ⟨y.toArray⟩ u)) (c:∀ x y t u,k x y→G (.int x t) (.int y u)):G va vb:=by
  rcases txtOr_is h with ⟨x,y,rfl,rfl,h⟩ | ⟨x,y,rfl,rfl,h⟩
  · obtain ⟨t,rfl⟩:=ha;obtain ⟨u,rfl⟩:=hb
    exact d x y t u h
  · obtain ⟨t,rfl⟩:=ha;obtain ⟨u,rfl⟩:=hb
    exact c x y t u h
theorem bin_ok {op:Operator} {k:PV→Prop} {Q:Value→Shared→Prop} (h:pBin op a b k) (ha:VR K ρ va a) (hb:VR K ρ vb b)
    (hq:∀ v pv tk,VR K ρ v pv→k pv→Q v { s with toks:=tk }):wpAny (model prog w) A (binaryOp op va vb) Q E s:=by
  cases op with
  | Add=>
    refine txtOr_v h ha hb (fun va vb=>wpAny (model prog w) A (binaryOp .Add va vb) Q E s) (fun x y t u h=>?_) fun x y t u h=>P.add_int (hq _ (.int _) _ ⟨_,rfl⟩ h)
    refine SB.add (fun t' k'=>hq _ (.str _) _ ⟨t',?_⟩ h.2) (by rw [sl_len,sl_len,sizeLine_eq];(exact ar_jmn6 h.1))
    congr 1
    show Str.mk _=Str.mk _
    simp
  | Sub=>exact numPP_v h ha hb (fun va vb=>wpAny (model prog w) A (binaryOp .Sub va vb) Q E s) fun x y t u h=>P.sub_int (hq _ (.int _) _ ⟨_,rfl⟩ h)
  | RShift=>
    refine numPP_v h ha hb (fun va vb=>wpAny (model prog w) A (binaryOp .RShift va vb) Q E s) fun x y t u h=>?_
    rw [h.1]
    exact wpAny_rshift1_int h.2.1 (hq _ (.int _) _ ⟨_,rfl⟩ h.2.2)
  | Mod=>
    refine numPP_v h ha hb (fun va vb=>wpAny (model prog w) A (binaryOp .Mod va vb) Q E s) fun x y t u h=>AutoIntOps.mod_1 (by simp;(exact ar_wztw h.1)) (hq _ (.int _) _ ⟨s.toks,?_⟩ h.2)
    rw [Int.fmod_eq_emod_of_nonneg _ (Int.le_of_lt h.1)]
  | FloorDiv=>
    refine numPP_v h ha hb (fun va vb=>wpAny (model prog w) A (binaryOp .FloorDiv va vb) Q E s) fun x y t u h=>PyProof.Rows.floordiv_int (by (exact ar_wztw h.1.1)) (hq _ (.int _) _ ⟨s.toks,?_⟩ h.2) (.inl (PyProof.noPylong_small (by (exact ar_wjeh h.1.1 h.1.2))))
    rw [Int.fdiv_eq_ediv_of_nonneg _ (by (exact ar_zpfb h.1.1))]
  | Pow=>exact numPP_v h ha hb (fun va vb=>wpAny (model prog w) A (binaryOp .Pow va vb) Q E s) fun x y t u h=>PyProof.Rows.pow_int_small h.1.1 (by (exact ar_hohe h.1.2.1)) (by (exact ar_vqpk h.1.2.2.1 h.1.2.2.2)) (hq _ (.int _) _ ⟨_,rfl⟩ h.2)
  | _=>exact h.elim
theorem aug_ok {op:Operator} {k:PV→Prop} {Q:Value→Shared→Prop} (h:pAug op a b k) (ha:VR K ρ va a) (hb:VR K ρ vb b)
    (hq:∀ v pv tk,VR K ρ v pv→k pv→Q v { s with toks:=tk }):wpAny (model prog w) A (inplaceOp op va vb) Q E s:=by
  cases op with
  | Add=>exact numPP_v h ha hb (fun va vb=>wpAny (model prog w) A (inplaceOp .Add va vb) Q E s) fun x y t u h=>P.iadd_int (hq _ (.int _) _ ⟨_,rfl⟩ h)
  | Sub=>exact numPP_v h ha hb (fun va vb=>wpAny (model prog w) A (inplaceOp .Sub va vb) Q E s) fun x y t u h=>P.isub_int (hq _ (.int _) _ ⟨_,rfl⟩ h)
  | _=>exact h.elim
theorem beq_dec {α:Type} [BEq α] [LawfulBEq α] [DecidableEq α] (x y:α):(x==y)=decide (x=y):=by
  rw [Bool.eq_iff_iff,beq_iff_eq,decide_eq_true_iff]
theorem isVow_char (c:Nat):isVow ⟨#[c]⟩=isV c:=by
  have e:vows=[97,101,105,111,117,225,233,237,243,250,252].map fun c=>(⟨#[c]⟩:Str):=by decide +kernel
  unfold isVow isV
  rw [e]
  simp only [List.map_cons,List.map_nil,List.contains_cons,List.contains_nil]
  have q:∀ d:Nat,((⟨#[c]⟩:Str)==⟨#[d]⟩)=(c==d):=fun d=>by
    rw [Bool.eq_iff_iff,beq_iff_eq,beq_iff_eq]
    constructor
    · intro h;injection h with h;simpa using h
    · rintro rfl;rfl
  simp only [q]
theorem vowP_v {k:Nat→Prop} (hs:∃ X n,s.heap.get? 230=some X∧VSet prog w X n) (h:vowP a b k) (ha:VR K ρ va a) (hb:VR K ρ vb b) (G:Value→Value→Prop)
    (c:∀ c t X n,k c→s.heap.get? 230=some X→VSet prog w X n→G (.str ⟨#[c]⟩ t) (.ref 230)):G va vb:=by
  obtain ⟨c',rfl,rfl,hk⟩:=vowP_is h
  obtain ⟨t,rfl⟩:=ha
  obtain rfl:vb=.ref 230:=hb
  obtain ⟨X,n,hX,hSet⟩:=hs
  exact c c' t X n hk hX hSet
theorem cmp_ok {op:CmpOp} {k:Bool→Prop} {Q:Value→Shared→Prop} (hs:∃ X n,s.heap.get? 230=some X∧VSet prog w X n) (h:pCmp op a b k) (ha:VR K ρ va a) (hb:VR K ρ vb b)
    (hq:∀ r tk,k r→Q (.bool r) { s with toks:=tk }):wpAny (model prog w) A (compareOp op va vb) Q E s:=by
  cases op with
  | Lt=>exact numPP_v h ha hb (fun va vb=>wpAny (model prog w) A (compareOp .Lt va vb) Q E s) fun x y t u h=>P.lt_int (hq _ s.toks h)
  | LtE=>exact numPP_v h ha hb (fun va vb=>wpAny (model prog w) A (compareOp .LtE va vb) Q E s) fun x y t u h=>P.le_int (hq _ s.toks h)
  | Gt=>exact numPP_v h ha hb (fun va vb=>wpAny (model prog w) A (compareOp .Gt va vb) Q E s) fun x y t u h=>P.gt_int (hq _ s.toks h)
  | GtE=>exact numPP_v h ha hb (fun va vb=>wpAny (model prog w) A (compareOp .GtE va vb) Q E s) fun x y t u h=>P.ge_int (hq _ s.toks h)
  | Eq=>exact txtOr_v h ha hb (fun va vb=>wpAny (model prog w) A (compareOp .Eq va vb) Q E s) (fun x y t u h=>P.eq_str (hq _ s.toks (by rw [beq_dec];exact h))) fun x y t u h=>P.eq_int (hq _ s.toks (by rw [beq_dec];exact h))
  | NotEq=>exact txtOr_v h ha hb (fun va vb=>wpAny (model prog w) A (compareOp .NotEq va vb) Q E s) (fun x y t u h=>P.ne_str (hq _ s.toks (by rw [bne,beq_dec];exact h))) fun x y t u h=>P.ne_int (hq _ s.toks (by rw [bne,beq_dec];exact h))
  | In=>
    refine vowP_v hs h ha hb (fun va vb=>wpAny (model prog w) A (compareOp .In va vb) Q E s) fun c t X n hk hX hSet=>?_
    refine wpAny_inSet_of (knd:=strKind prog w) (S:=isVow) (k:=⟨#[c]⟩) (strKind_is prog w _ _) rfl (hSet.1.setOf hX hSet.2) ?_
    exact isVow_char c▸hq _ _ (isVow_char c▸hk)
  | NotIn=>
    refine vowP_v hs h ha hb (fun va vb=>wpAny (model prog w) A (compareOp .NotIn va vb) Q E s) fun c t X n hk hX hSet=>?_
    refine wpAny_notInSet_of (knd:=strKind prog w) (S:=isVow) (k:=⟨#[c]⟩) (strKind_is prog w _ _) rfl (hSet.1.setOf hX hSet.2) ?_
    exact isVow_char c▸hq _ _ (isVow_char c▸hk)
  | Is=>
    have h':pIsNone a b k:=h
    unfold pIsNone at h'
    cases b<;>try exact h'.elim
    obtain rfl:vb=.none:=hb
    cases a<;>try exact h'.elim
    · obtain rfl:va=.none:=ha
      exact wpAny_is_plain rfl (hq _ s.toks h')
    · obtain ⟨t,rfl⟩:=ha
      exact wpAny_is_plain rfl (hq _ s.toks h')
  | _=>exact h.elim
end
end Mine

open PySem PySem.W PyProof.Rows PySem.Calls PySem.Builtin PySem.Builtin.Str
set_option maxRecDepth 100000
set_option Elab.async false
set_option backward.match.sparseCases false
namespace Mine
theorem pick_list (x:List Nat):∀ (n a:Nat),a+n≤x.length→((List.range n).map (a+·)).filterMap (x[·]?)=(x.drop a).take n
  | 0,a,_=>by simp
  | n+1,a,h=>by
    have h1:a < x.length:=by (exact ar_gmo5 h)
    rw [List.range_succ_eq_map,List.map_cons,List.map_map,List.filterMap_cons]
    have e:(x[a+0]?)=some x[a]:=by simp [List.getElem?_eq_getElem h1]
    rw [e,List.drop_eq_getElem_cons h1,List.take_succ_cons]
    have e2:(List.range n).map ((fun y=>a+y) ∘ Nat.succ)=(List.range n).map ((a+1)+·):=by
      apply List.map_congr_left
      intro k _
      show a+(k+1)=a+1+k
      (exact ar_p8hj)
    rw [e2,pick_list x n (a+1) (by (exact ar_jucj h))]
theorem clip_le (n:Nat) (i:Int):clip n i≤n∨i < 0:=by
  unfold clip
  by_cases h:i < 0
  · exact .inr h
  · left;rw [if_neg h];exact Nat.min_le_right _ _
theorem clip_le' (n:Nat) (i:Int):clip n i≤n:=by
  unfold clip
  split
  · (exact ar_eb0u (by assumption))
  · exact Nat.min_le_right _ _
theorem clip_eq (n:Nat) (i:Int):max 0 (min (if i < 0 then i+n else i) (n:Int))=(clip n i:Int):=by
  unfold clip
  split<;>(first | exact ar_3cyv (by assumption) | exact ar_xdwa)
theorem slice_list (x:List Nat) (l u:Option Int):(strSliceIndices l u 1 x.length).filterMap (x[·]?)=slc x l u∧(strSliceIndices l u 1 x.length).length=(slc x l u).length:=by
  have key:∀ a b:Nat,a≤x.length→b≤x.length→(sliceRange (a:Int) (b:Int) 1).filterMap (x[·]?)=(x.take b).drop a∧(sliceRange (a:Int) (b:Int) 1).length=((x.take b).drop a).length:=by
    intro a b ha hb
    have e:sliceRange (a:Int) (b:Int) 1=(List.range (b - a)).map (a+·):=by
      unfold sliceRange
      have c:(if (1:Int) > 0 then (if (a:Int) < (b:Int) then ((b:Int) - a+1 - 1) / 1 else 0) else (if (a:Int) > b then ((a:Int) - b - 1 - 1) / (-1) else 0)).toNat=b - a:=by
        rw [if_pos (by decide)]
        split<;>simp<;>(exact ar_ddn1 (by assumption))
      dsimp only
      rw [c]
      apply List.map_congr_left
      intro k _
      show ((a:Int)+1 * (k:Int)).toNat=a+k
      (exact ar_rek8)
    rw [e]
    by_cases hab:a≤b
    · rw [pick_list x (b - a) a (by (exact ar_bfqu hb hab))]
      constructor
      · rw [List.drop_take]
      · simp;(exact ar_joz5 hb)
    · have:b - a=0:=by (exact ar_z2eh hab)
      rw [this]
      constructor
      · simp;(exact ar_213d hab)
      · simp;(exact ar_yyqd hab)
  unfold strSliceIndices slc
  cases l<;>cases u<;>simp only [show ((1:Int) > 0)=True from by simp,if_true]
  · exact key 0 x.length (by (exact ar_micu)) (by (exact ar_hskg))
  · rw [clip_eq];exact key 0 _ (by (exact ar_micu)) (clip_le' _ _)
  · rw [clip_eq];exact key _ x.length (clip_le' _ _) (by (exact ar_hskg))
  · rw [clip_eq,clip_eq];exact key _ _ (clip_le' _ _) (clip_le' _ _)
section
variable {prog:Program} {w:World} {A:Around} {E:Value→Shared→Prop} {s:Shared} {K:Frag} {ρ:Rho} {env:Env}
theorem slice_post {x:List Nat} {t:Tok} {l u:Option (Int × Tok)} {Q:Value→Shared→Prop} (h:∀ v tk,(∃ t',v=.str ⟨(slc x (l.map (·.1)) (u.map (·.1))).toArray⟩ t')→Q v { s with toks:=tk }) (hsz:x.length≤4000) :
    (sliceMade ⟨x.toArray⟩ t l u none).post Q s:=by
  unfold sliceMade slicePicked
  rw [show (⟨x.toArray⟩:Str).length=x.length from sl_len x]
  obtain ⟨e1,e2⟩:=slice_list x (l.map (·.1)) (u.map (·.1))
  have hle:(slc x (l.map (·.1)) (u.map (·.1))).length≤x.length:=by unfold slc;simp;(exact ar_xkrs)
  have e1':(strSliceIndices (l.map (·.1)) (u.map (·.1)) 1 x.length).filterMap ((⟨x.toArray⟩:Str).cps[·]?)=slc x (l.map (·.1)) (u.map (·.1)):=by
    rw [← e1]
    congr 1
    funext y
    simp
  show (if ((1:Int)==1&&(strSliceIndices (l.map (·.1)) (u.map (·.1)) 1 x.length).length==x.length)=true then Made.val (.str ⟨x.toArray⟩ t) else Made.str _).post Q s
  split
  · rename_i q
    refine h _ s.toks ⟨t,?_⟩
    have q':(slc x (l.map (·.1)) (u.map (·.1))).length=x.length:=by rw [← e2];simpa using q
    have:slc x (l.map (·.1)) (u.map (·.1))=x:=by
      refine List.Sublist.eq_of_length ?_ q'
      unfold slc
      exact (List.drop_sublist _ _).trans (List.take_sublist _ _)
    rw [this]
  · refine ⟨?_,h _ _ ⟨s.toks,?_⟩⟩
    · show (⟨_⟩:Str).length≤sizeLine
      rw [sl_len]
      show ((strSliceIndices (l.map (·.1)) (u.map (·.1)) 1 x.length).filterMap ((⟨x.toArray⟩:Str).cps[·]?)).length≤sizeLine
      rw [e1',sizeLine_eq];(exact ar_t1vj hsz hle)
    · show Value.str ⟨((strSliceIndices (l.map (·.1)) (u.map (·.1)) 1 x.length).filterMap ((⟨x.toArray⟩:Str).cps[·]?)).toArray⟩ _=_
      rw [e1']
noncomputable def PartR:Value→Option Int→Prop
  | v,none=>v=.none
  | v,some i=>∃ t,v=.int i t
end
end Mine

open PySem PySem.W PyProof.Rows PySem.Calls PySem.Builtin PySem.Builtin.Str
set_option maxRecDepth 100000
set_option Elab.async false
set_option backward.match.sparseCases false
namespace Mine
noncomputable def pItem (o j:PV) (k:PV→Prop):Prop:=match o with
  | .str x=>numP j fun i=>0≤i∧i < 4000∧∃ c,x[i.toNat]?=some c∧k (.str [c])
  | .tab rs=>numP j fun i=>0≤i∧i < 4000∧∃ r,rs[i.toNat]?=some r∧k (.am r)
  | _=>False
noncomputable def isLoc:PV→Bool
  | .loc _=>true
  | _=>false
noncomputable def pFnLen (v:PV) (k:PV→Prop):Prop:=match v with
  | .str x=>x.length≤4000∧k (.int x.length)
  | .tab rs=>rs.length≤4000∧k (.int rs.length)
  | _=>False
noncomputable def oneP (vs:List PV) (f:PV→Prop):Prop:=match vs with | [v]=>f v | _=>False
noncomputable def twoP (vs:List PV) (f:PV→PV→Prop):Prop:=match vs with | [v,u]=>f v u | _=>False
theorem oneP_is {vs:List PV} {f:PV→Prop} (h:oneP vs f):∃ v,vs=[v]∧f v:=by
  rcases vs with _ | ⟨v,_ | ⟨_,_⟩⟩<;>first | exact ⟨_,rfl,h⟩ | exact h.elim
theorem twoP_is {vs:List PV} {f:PV→PV→Prop} (h:twoP vs f):∃ v u,vs=[v,u]∧f v u:=by
  rcases vs with _ | ⟨v,_ | ⟨u,_ | ⟨_,_⟩⟩⟩<;>first | exact ⟨_,_,rfl,h⟩ | exact h.elim
noncomputable def pFn (n:Bf) (vs:List PV) (k:PV→Prop):Prop:=match n with
  | .len=>oneP vs fun v=>pFnLen v k
  | .ord=>oneP vs fun v=>txtP v fun x=>∃ c:Nat,x=[c]∧k (.int c)
  | .min=>twoP vs fun a b=>numPP a b fun a b=>k (.int (if b < a then b else a))
  | .sum=>False
noncomputable def ewith:Str:="endswith"
inductive Sm where
  | ends | replace
noncomputable def Sm.id:Sm→String
  | .ends=>"str.endswith" | .replace=>"str.replace"
noncomputable def rplS:Str:="replace"
noncomputable def repl (x y z:List Nat):List Nat:=(Txt.replace ⟨x.toArray⟩ ⟨y.toArray⟩ ⟨z.toArray⟩).cps.toList
noncomputable def strMeth (m:Str):Option Sm:=bif m==ewith then some .ends else bif m==rplS then some .replace else none
noncomputable def tokP (a:PV) (k:List Nat→Tok→Prop):Prop:=match a with | .strT x t=>k x t | _=>False
theorem tokP_is {a:PV} {k:List Nat→Tok→Prop} (h:tokP a k):∃ x t,a=.strT x t∧k x t:=by
  cases a<;>first | exact ⟨_,_,rfl,h⟩ | exact h.elim
noncomputable def pStrM (m:Sm) (x:List Nat) (vs:List PV) (k:PV→Prop):Prop:=match m with
  | .ends=>oneP vs fun v=>txtP v fun y=>k (.bool (y.isSuffixOf x))
  | .replace=>twoP vs fun a b=>tokP a fun y u=>tokP b fun z v=>(u≠0∧v≠0∧u≠v∧y≠z∧x.length≤4000∧z.length≤10)∧k (.str (repl x y z))
theorem ends_eq (x y:List Nat):Txt.endswith ⟨x.toArray⟩ ⟨y.toArray⟩=y.isSuffixOf x:=by
  unfold Txt.endswith
  rw [StrLaws.subAt_eq,sl_len,sl_len]
  rw [Bool.eq_iff_iff]
  simp only [Bool.and_eq_true,decide_eq_true_eq,List.isSuffixOf_iff_suffix,beq_iff_eq]
  constructor
  · rintro ⟨h1,h2⟩
    have:(x.drop (x.length - y.length)).take y.length=x.drop (x.length - y.length):=List.take_of_length_le (by simp;(exact ar_9a7h))
    rw [this] at h2
    exact ⟨x.take (x.length - y.length),(congrArg (x.take (x.length - y.length)++·) h2.symm).trans (List.take_append_drop _ _)⟩
  · rintro ⟨r,rfl⟩
    simp
theorem AllR1 {K:Frag} {ρ:Rho} {vs:List Value} {p:PV} (h:AllR K ρ vs [p]):∃ v,vs=[v]∧VR K ρ v p:=by
  cases vs with
  | nil=>exact h.elim
  | cons v r=>cases r with
    | nil=>exact ⟨v,rfl,h.1⟩
    | cons _ _=>exact h.2.elim
theorem AllR2 {K:Frag} {ρ:Rho} {vs:List Value} {p q:PV} (h:AllR K ρ vs [p,q]):∃ v u,vs=[v,u]∧VR K ρ v p∧VR K ρ u q:=by
  cases vs with
  | nil=>exact h.elim
  | cons v r=>
    obtain ⟨u,rfl,hu⟩:=AllR1 h.2
    exact ⟨v,u,rfl,h.1,hu⟩
section
variable {prog:Program} {w:World} {A:Around} {E:Value→Shared→Prop} {s:Shared} {K:Frag} {ρ:Rho} {va vb:Value} {a b:PV}
theorem numP_v {k:Int→Prop} (h:numP a k) (ha:VR K ρ va a) (G:Value→Prop) (c:∀ x t,k x→G (.int x t)):G va:=by
  obtain ⟨x,rfl,h⟩:=numP_is h
  obtain ⟨t,rfl⟩:=ha
  exact c x t h
theorem txtP_v {k:List Nat→Prop} (h:txtP a k) (ha:VR K ρ va a) (G:Value→Prop) (c:∀ x t,k x→G (.str ⟨x.toArray⟩ t)):G va:=by
  obtain ⟨x,rfl,h⟩:=txtP_is h
  obtain ⟨t,rfl⟩:=ha
  exact c x t h
theorem oneP_v {f:PV→Prop} {vs:List Value} {ps:List PV} (h:oneP ps f) (hv:AllR K ρ vs ps) (G:List Value→Prop) (c:∀ p v,VR K ρ v p→f p→G [v]):G vs:=by
  obtain ⟨p,rfl,h⟩:=oneP_is h
  obtain ⟨v,rfl,h1⟩:=AllR1 hv
  exact c p v h1 h
theorem twoP_v {f:PV→PV→Prop} {vs:List Value} {ps:List PV} (h:twoP ps f) (hv:AllR K ρ vs ps) (G:List Value→Prop) (c:∀ p q v u,VR K ρ v p→VR K ρ u q→f p q→G [v,u]):G vs:=by
  obtain ⟨p,q,rfl,h⟩:=twoP_is h
  obtain ⟨v,u,rfl,h1,h2⟩:=AllR2 hv
  exact c p q v u h1 h2 h
theorem TabAm.isList {a:Addr} {rs:List Am} (x:TabAm K a rs) {h:Heap} (hk:K.In h):∃ vs:Array Value,h.IsList a vs∧vs.size=rs.length∧∀ (i:Nat) (r:Am),rs[i]?=some r→∃ b,vs[i]?=some (Value.ref b)∧AmAt K b r:=by
  obtain ⟨o,vs,n,h1,h2,h3,h4,h5⟩:=x
  exact ⟨vs,⟨o,hk _ _ h1,h2,n,h3⟩,h4,h5⟩
omit prog w A E s K ρ va vb a b in
theorem at_index {i:Int} {n:Nat} (h0:0≤i) (h1:i < (n:Int)):seqIndex? i n=some i.toNat:=by
  unfold seqIndex?
  simp [Int.not_lt.mpr h0,h0,h1]
theorem item_ok {k:PV→Prop} {Q:Value→Shared→Prop} (hk:K.In s.heap) (h:pItem a b k) (ha:VR K ρ va a) (hb:VR K ρ vb b)
    (hq:∀ v pv tk,VR K ρ v pv→k pv→Q v { s with toks:=tk }) :
    ∃ T id,s.TypeIs va T∧typeLookup (.type T) "__getitem__"=pure (some (.builtin id))∧wpAny (model prog w) A (getItem va vb) Q E s:=by
  cases a<;>try exact h.elim
  · obtain ⟨t,rfl⟩:=ha
    rename_i x
    refine ⟨"str",_,typeIs_str _ _ _,F.slot_str_getitem.lookup,numP_v h hb (fun vb=>wpAny (model prog w) A (getItem (.str _ t) vb) Q E s) fun i u h=>h.2.2.elim fun c hc=>?_⟩
    have hlt:i.toNat < x.length:=(List.getElem?_eq_some_iff.mp hc.1).1
    refine P.getItem_str (c:=c) (Bool.or_eq_false_iff.mpr ⟨decide_eq_false (ar_nld6 h.1),decide_eq_false (ar_g7vr h.2.1)⟩) ?_ (hq _ (.str [c]) _ ⟨_,rfl⟩ hc.2)
    rw [sl_len,at_index h.1 (ar_a6kb hlt)]
    simpa using hc.1
  · obtain ⟨l,rfl,hT⟩:=ha
    obtain ⟨vs,hl,hsz,hall⟩:=hT.isList hk
    exact ⟨"list",_,hl.typeIs,slot_list_getitem.lookup,numP_v h hb (fun vb=>wpAny (model prog w) A (getItem (.ref l) vb) Q E s) fun i u h=>h.2.2.elim fun r hr=>(hall _ _ hr.1).elim fun b hb=>
      wpAny_getItem_list hl h.1 (ar_pfqt h.2.1) hb.1 (hq _ (.am r) s.toks ⟨b,rfl,hb.2⟩ hr.2)⟩
theorem fn_ok {n:Bf} {k:PV→Prop} {vs:List Value} {ps:List PV} {Q:Value→Shared→Prop} (hh:A.handled=none) (hk:K.In s.heap) (h:pFn n ps k) (hv:AllR K ρ vs ps)
    (hq:∀ v pv h' tk,(∀ b o,s.heap.get? b=some o→h'.get? b=some o)→VR K ρ v pv→k pv→Q v { s with heap:=h',toks:=tk }) :
    wpAny (model prog w) A (call (.builtin n.id) vs) Q E s:=by
  have id':∀ b o,s.heap.get? b=some o→s.heap.get? b=some o:=fun _ _ e=>e
  cases n with
  | len=>
    refine oneP_v h hv (fun vs=>wpAny (model prog w) A (call (.builtin "len") vs) Q E s) fun p v hv' h'=>?_
    cases p<;>try exact h'.elim
    · obtain ⟨t,rfl⟩:=hv'
      refine P.len_str (by have:=h'.1;rw [sl_len];(exact ar_j7v4 this)) ?_
      rw [sl_len]
      exact hq _ (.int _) s.heap _ id' ⟨_,rfl⟩ h'.2
    · obtain ⟨l,rfl,hT⟩:=hv'
      obtain ⟨its,hl,hsz,hall⟩:=hT.isList hk
      refine call_len_list hl (by have:=h'.1;(exact ar_ow3s hsz this)) ?_
      rw [hsz]
      exact hq _ (.int _) s.heap _ id' ⟨_,rfl⟩ h'.2
  | ord=>
    exact oneP_v h hv (fun vs=>wpAny (model prog w) A (call (.builtin "ord") vs) Q E s) fun p v hv h=>txtP_v h hv (fun v=>wpAny (model prog w) A (call (.builtin "ord") [v]) Q E s) fun x t h=>h.elim fun c h=>h.1▸P.ord_of_char (hq _ (.int _) s.heap _ id' ⟨_,rfl⟩ h.2)
  | min=>
    refine twoP_v h hv (fun vs=>wpAny (model prog w) A (call (.builtin "min") vs) Q E s) fun p q v v' hp hq' h=>numPP_v h hp hq' (fun v v'=>wpAny (model prog w) A (call (.builtin "min") [v,v']) Q E s) fun a b t u h=>min_two_ints hh fun h' tk hk2=>hq _ (.int (if b < a then b else a)) h' tk hk2 ?_ h
    by_cases q:b < a
    · rw [if_pos q,if_pos q];exact ⟨_,rfl⟩
    · rw [if_neg q,if_neg q];exact ⟨_,rfl⟩
  | sum=>exact h.elim
theorem strMeth_ok {m:Str} {i:Sm} (h:strMeth m=some i) {x:Str} {t:Tok} {pl:Sem Bool} {M:Model} {Q:Value × List Value→Shared→Prop} (q:Q (.builtin i.id,[.str x t]) s) :
    wpAny M A (getMethod (.str x t) m pl) Q E s:=by
  unfold strMeth at h
  cases h2:(m==ewith) with
  | true=>
    rw [h2] at h;cases h
    obtain rfl:=beq_iff_eq.mp h2
    exact GM.endswith q
  | false=>
    rw [h2] at h
    cases h3:(m==rplS) with
    | true=>
      rw [h3] at h;cases h
      obtain rfl:=beq_iff_eq.mp h3
      exact GM.replace q
    | false=>rw [h3] at h;cases h
theorem strm_ok {m:Sm} {x:List Nat} {t:Tok} {k:PV→Prop} {vs:List Value} {ps:List PV} {Q:Value→Shared→Prop} (h:pStrM m x ps k) (hv:AllR K ρ vs ps)
    (hq:∀ v pv tk,VR K ρ v pv→k pv→Q v { s with toks:=tk }):wpAny (model prog w) A (call (.builtin m.id) (.str ⟨x.toArray⟩ t::vs)) Q E s:=by
  cases m with
  | ends=>
    refine oneP_v h hv (fun vs=>wpAny (model prog w) A (call (.builtin "str.endswith") (.str ⟨x.toArray⟩ t::vs)) Q E s) fun p v hv h=>txtP_v h hv (fun v=>wpAny (model prog w) A (call (.builtin "str.endswith") [.str ⟨x.toArray⟩ t,v]) Q E s) fun y u h=>SC.endswith ?_
    rw [ends_eq]
    exact hq _ (.bool _) s.toks rfl h
  | replace=>
    obtain ⟨p,q,rfl,h1⟩:=twoP_is h
    obtain ⟨y,u,rfl,h2⟩:=tokP_is h1
    obtain ⟨z,v,rfl,⟨q1,q2,q3,q4,q5,q6⟩,hk⟩:=tokP_is h2
    obtain ⟨v',u',rfl,hv1,hv2⟩:=AllR2 hv
    unfold VR at hv1 hv2
    subst hv1 hv2
    refine SC.replaceW q1 q2 q3 ?_ (by rw [sl_len];(exact ar_brqv q5)) (by rw [sl_len];(exact ar_r083 q6)) fun t' k'=>hq _ _ k' ?_ hk
    · rw [beq_eq_false_iff_ne]
      intro e
      injection e with e
      exact q4 (by simpa using e)
    · refine ⟨t',?_⟩
      unfold repl
      rw [Array.toArray_toList]
end
end Mine

open PySem PySem.W PyProof.Rows PySem.Calls PySem.Builtin PySem.Builtin.Str PySem.Spec PySem.SeqAt
set_option maxRecDepth 100000
set_option Elab.async false
set_option backward.match.sparseCases false
namespace Mine
noncomputable def strsOf:List PV→Option (List (List Nat))
  | []=>some []
  | .str x::r=>(strsOf r).map (x::·)
  | _=>none
noncomputable def strL (l:List Nat):Str:=⟨l.toArray⟩
theorem strL_inj {a b:List Nat}:strL a=strL b↔a=b:=⟨fun h=>by unfold strL at h;injection h with h;simpa using h,fun h=>by rw [h]⟩
section
variable {K:Frag} {ρ:Rho}
theorem strsAre_of:∀ {vs:List Value} {ps:List PV} {ss:List (List Nat)},AllR K ρ vs ps→strsOf ps=some ss→StrsAre vs (ss.map strL)
  | [],[],ss,_,h=>by cases h;exact .nil
  | v::vs,p::ps,ss,⟨h1,h2⟩,h=>by
    cases p<;>try (cases h;done)
    rename_i x
    obtain ⟨t,rfl⟩:=h1
    have h':(strsOf ps).map (x::·)=some ss:=h
    obtain ⟨r,e,rfl⟩:=Option.map_eq_some_iff.mp h'
    exact .cons _ t (strsAre_of h2 e)
  | [],_::_,_,h,_=>h.elim
  | _::_,[],_,h,_=>h.elim
theorem OR.isList {h:Heap} {a:Addr} {ps:List PV} (z:OR K ρ h a (.lst ps)):∃ vs:Array Value,h.IsList a vs∧AllR K ρ vs.toList ps∧vs.size=ps.length:=by
  obtain ⟨o,vs,n,h1,h2,h3,h4⟩:=z
  exact ⟨vs,⟨o,h1,h2,n,h3⟩,h4,by have:=h4.len;simpa using this⟩
theorem OR.lstOf {h:Heap} {a:Addr} {vs:Array Value} {ps:List PV} (x:h.IsList a vs) (z:AllR K ρ vs.toList ps):OR K ρ h a (.lst ps):=by
  obtain ⟨o,h1,h2,n,h3⟩:=x
  exact ⟨o,vs,n,h1,h2,h3,z⟩
end
theorem ps_same:∀ ns ms:List Str,PySem.Spec.sameAll (ns.map PyData.str) (ms.map PyData.str)=decide (ns=ms)
  | [],[]=>by simp [PySem.Spec.sameAll]
  | [],_::_=>by simp [PySem.Spec.sameAll]
  | _::_,[]=>by simp [PySem.Spec.sameAll]
  | a::r,b::t=>by
    simp only [List.map_cons,PySem.Spec.sameAll,PySem.Spec.same,ps_same r t]
    by_cases h:a=b<;>by_cases h':r=t<;>simp [h,h']
theorem ps_same' (ns ms:List Str):PySem.Spec.same (.list (ns.map PyData.str)) (.list (ms.map PyData.str))=decide (ns=ms):=by
  simp only [PySem.Spec.same];exact ps_same ns ms
noncomputable def okL (ss:List (List Nat)):Bool:=ss.all fun x=>x.all fun c=>decide (c < 0x110000)
theorem ps_lay:∀ ss:List (List Nat),okL ss=true→PyData.canLayAll0 ((ss.map strL).map PyData.str)=true
  | [],_=>rfl
  | x::r,h=>by
    unfold okL at h
    rw [List.all_cons,Bool.and_eq_true] at h
    have h1:PyData.strOk (strL x)=true:=by
      unfold PyData.strOk strL
      simpa using h.1
    simp only [List.map_cons,PyData.canLayAll0,PyData.canLay0,h1,ps_lay r h.2,Bool.and_self]
theorem ps_depth:∀ ns:List Str,PyData.depthAll (ns.map PyData.str)=0
  | []=>rfl
  | _::r=>by simp [PyData.depthAll,PyData.depth,ps_depth r]
theorem ps_shaped (ss:List (List Nat)) (h:okL ss=true):SeqAt.shaped (.list ((ss.map strL).map PyData.str))=true:=by
  simp only [SeqAt.shaped,PyData.canLay0,PyData.depth,ps_lay ss h,ps_depth,Bool.true_and]
  decide
theorem map_strL (a b:List (List Nat)):decide (a.map strL=b.map strL)=decide (a=b):=by
  rw [decide_eq_decide]
  constructor
  · intro h
    induction a generalizing b with
    | nil=>cases b with
      | nil=>rfl
      | cons _ _=>cases h
    | cons x r ih=>cases b with
      | nil=>cases h
      | cons y t=>
        rw [List.map_cons,List.map_cons] at h
        injection h with h1 h2
        rw [strL_inj.mp h1,ih t h2]
  · rintro rfl;rfl
section
variable {prog:Program} {w:World} {A:Around} {E:Value→Shared→Prop} {s:Shared} {K:Frag} {ρ:Rho} {env:Env}
theorem subscrA {value slice:Ex} {pos:Pos} {Q:Value→Shared→Prop} (hs:noSlice slice=true)
    (h:wpAny (model prog w) A (eval value env) (fun o s₁=>wpAny (model prog w) A (eval slice env) (fun i s₂=>∃ T id,s₂.TypeIs o T∧typeLookup (.type T) "__getitem__"=pure (some (.builtin id)) ∧
      wpAny (model prog w) A (getItem o i) Q E s₂) E s₁) E s):wpAny (model prog w) A (eval (.Subscript value slice pos) env) Q E s:=by
  refine Subscript_ (wpAny_mono h (fun o s₁ h₁=>wpAny_mono h₁ (fun i s₂ h₂=>?_) fun _ _ x=>x) fun _ _ x=>x)
  obtain ⟨T,id,hT,hl,hg⟩:=h₂
  unfold subscriptTail
  refine wpAny_bind ?_
  rw [getitemInPython_of_ne hT.not_modules]
  refine wpAny_bind (wpAny_specialOf hT hl ?_)
  refine wpAny_pure ?_
  rw [subs_plain hs]
  refine wpAny_bind (wpAny_operating (wpAny_mono hg (fun r s₃ h₃=>?_) fun _ _ x=>x))
  exact wpAny_bind (wpAny_letTemporaryGo (wpAny_pure h₃))
theorem listItem_ok {l:Addr} {ps:List PV} {z:Int} {t:Tok} {p:PV} {Q:Value→Shared→Prop} (ho:OR K ρ s.heap l (.lst ps)) (h0:0≤z) (h1:z < 4000) (hp:ps[z.toNat]?=some p) (hq:∀ v,VR K ρ v p→Q v s) :
    ∃ T id,s.TypeIs (.ref l) T∧typeLookup (.type T) "__getitem__"=pure (some (.builtin id))∧wpAny (model prog w) A (getItem (.ref l) (.int z t)) Q E s:=by
  obtain ⟨vs,hl,ha,hsz⟩:=ho.isList
  obtain ⟨v,hv,hr⟩:=ha.get hp
  exact ⟨"list",_,hl.typeIs,slot_list_getitem.lookup,wpAny_getItem_list hl h0 (by (exact ar_pfqt h1)) (by simpa using hv) (hq v hr)⟩
theorem disp_list {es:List Ex} {pos:Pos} {Q:Value→Shared→Prop} (hs:noStar es=true)
    (h:wpAny (model prog w) A (spliced (argsOf es env)) (fun vs s₁=>vs.length≤sizeLine∧Q (.ref s₁.heap.objs.size) { s₁ with heap:=s₁.heap.push { cls:=.type "list",data:=.seq vs.toArray } }) E s) :
    wpAny (model prog w) A (eval (.List es pos) env) Q E s:=by
  refine wpAny_List_spliced ?_
  rw [starEach_plain hs,backTo_plain]
  exact h
theorem listIn_ok {l:Addr} {ps:List PV} {ss:List (List Nat)} {x:List Nat} {t:Tok} {Q:Value→Shared→Prop} (ho:OR K ρ s.heap l (.lst ps)) (hs:strsOf ps=some ss) (hq:Q (.bool (ss.contains x)) s) :
    wpAny (model prog w) A (compareOp .In (.str ⟨x.toArray⟩ t) (.ref l)) Q E s:=by
  obtain ⟨vs,hl,ha,hsz⟩:=ho.isList
  refine in_list_strs (vs:=vs.toList) (by simpa using hl) (strsAre_of ha hs) ?_
  have:((ss.map strL).any (·==(⟨x.toArray⟩:Str)))=ss.contains x:=by
    rw [List.any_map,Bool.eq_iff_iff,List.any_eq_true,List.contains_iff_mem]
    constructor
    · rintro ⟨y,hy,e⟩
      have:strL y=strL x:=beq_iff_eq.mp e
      rwa [← strL_inj.mp this]
    · exact fun hx=>⟨x,hx,by show (strL x==strL x)=true;simp⟩
  rw [this];exact hq
theorem listNotIn_ok {l:Addr} {ps:List PV} {ss:List (List Nat)} {x:List Nat} {t:Tok} {Q:Value→Shared→Prop} (ho:OR K ρ s.heap l (.lst ps)) (hs:strsOf ps=some ss) (hq:Q (.bool (!ss.contains x)) s) :
    wpAny (model prog w) A (compareOp .NotIn (.str ⟨x.toArray⟩ t) (.ref l)) Q E s:=by
  obtain ⟨vs,hl,ha,hsz⟩:=ho.isList
  refine notin_list_strs (vs:=vs.toList) (by simpa using hl) (strsAre_of ha hs) ?_
  have:((ss.map strL).any (·==(⟨x.toArray⟩:Str)))=ss.contains x:=by
    rw [List.any_map,Bool.eq_iff_iff,List.any_eq_true,List.contains_iff_mem]
    constructor
    · rintro ⟨y,hy,e⟩
      have:strL y=strL x:=beq_iff_eq.mp e
      rwa [← strL_inj.mp this]
    · exact fun hx=>⟨x,hx,by show (strL x==strL x)=true;simp⟩
  rw [this];exact hq
theorem listNe_ok {l l':Addr} {ps ps':List PV} {ss ss':List (List Nat)} {Q:Value→Shared→Prop} (hu:A.units+64 < cLine) (ho:OR K ρ s.heap l (.lst ps)) (hs:strsOf ps=some ss) (ho':OR K ρ s.heap l' (.lst ps')) (hs':strsOf ps'=some ss') (hk:okL ss=true) (hk':okL ss'=true)
    (hq:Q (.bool (!decide (ss=ss'))) s):wpAny (model prog w) A (compareOp .NotEq (.ref l) (.ref l')) Q E s:=by
  obtain ⟨vs,hl,ha,_⟩:=ho.isList
  obtain ⟨vs',hl',ha',_⟩:=ho'.isList
  obtain ⟨o,h1,h2,n,h3⟩:=hl
  obtain ⟨o',h1',h2',n',h3'⟩:=hl'
  refine ne_dataH_same (.list h1 h2 h3 (PyProof.Rows.strs_readAll _ (strsAre_of ha hs))) (.list h1' h2' h3' (PyProof.Rows.strs_readAll _ (strsAre_of ha' hs'))) (ps_shaped _ hk) (ps_shaped _ hk') hu
    (SeqAt.noMix_of_shape (.list .str) rfl _ _ (list_map_has fun _=>rfl) (list_map_has fun _=>rfl)) ?_
  rw [ps_same',map_strL];exact hq
theorem listEq_ok {l l':Addr} {ps ps':List PV} {ss ss':List (List Nat)} {Q:Value→Shared→Prop} (hu:A.units+64 < cLine) (ho:OR K ρ s.heap l (.lst ps)) (hs:strsOf ps=some ss) (ho':OR K ρ s.heap l' (.lst ps')) (hs':strsOf ps'=some ss') (hk:okL ss=true) (hk':okL ss'=true)
    (hq:Q (.bool (decide (ss=ss'))) s):wpAny (model prog w) A (compareOp .Eq (.ref l) (.ref l')) Q E s:=by
  obtain ⟨vs,hl,ha,_⟩:=ho.isList
  obtain ⟨vs',hl',ha',_⟩:=ho'.isList
  obtain ⟨o,h1,h2,n,h3⟩:=hl
  obtain ⟨o',h1',h2',n',h3'⟩:=hl'
  refine eq_dataH_same (.list h1 h2 h3 (PyProof.Rows.strs_readAll _ (strsAre_of ha hs))) (.list h1' h2' h3' (PyProof.Rows.strs_readAll _ (strsAre_of ha' hs'))) (ps_shaped _ hk) (ps_shaped _ hk') hu
    (SeqAt.noMix_of_shape (.list .str) rfl _ _ (list_map_has fun _=>rfl) (list_map_has fun _=>rfl)) ?_
  rw [ps_same',map_strL];exact hq
theorem listLen_ok {l:Addr} {ps:List PV} {Q:Value→Shared→Prop} (ho:OR K ρ s.heap l (.lst ps)) (hsz:ps.length≤4000) (hq:∀ t tk,Q (.int ps.length t) { s with toks:=tk }):wpAny (model prog w) A (call (.builtin "len") [.ref l]) Q E s:=by
  obtain ⟨vs,hl,ha,e⟩:=ho.isList
  refine call_len_list hl (by (exact ar_a448 hsz e)) ?_
  rw [e];exact hq _ _
theorem intsLen_ok {l:Addr} {o:Obj} {xs:List Int} {Q:Value→Shared→Prop} (ho:s.heap.get? l=some o) (hx:IntsOf o xs) (hsz:xs.length≤4000) (hq:∀ t tk,Q (.int xs.length t) { s with toks:=tk }):wpAny (model prog w) A (call (.builtin "len") [.ref l]) Q E s:=by
  obtain ⟨vs,n,h1,h2,h3,h4⟩:=hx
  refine call_len_list ⟨o,ho,h1,n,h2⟩ (by (exact ar_a448 hsz h3)) ?_
  rw [h3];exact hq _ _
theorem pick_arr {α:Type} (x:Array α) (n a:Nat) (h:a+n≤x.size):((List.range n).map (a+·)).filterMap (x[·]?)=(x.toList.drop a).take n:=PySem.pick_run x a n
theorem slicePick_slc (items:Array Value) (lo hi:Option Int):(slicePick items lo hi none).toList=slc items.toList lo hi:=by
  have key:∀ a b:Nat,a≤items.size→b≤items.size→(sliceRange (a:Int) (b:Int) 1).filterMap (items[·]?)=(items.toList.take b).drop a:=by
    intro a b ha hb
    rw [sliceRange_one,pick_run,List.drop_take]
  unfold slicePick sliceBounds slc
  have hl:items.toList.length=items.size:=by simp
  cases lo<;>cases hi<;>simp only [Option.getD_none,show ((1:Int) > 0)=True from by simp,if_true,hl]
  · exact key 0 items.size (by (exact ar_micu)) (by (exact ar_hskg))
  · rw [clip_eq];exact key 0 _ (by (exact ar_micu)) (clip_le' _ _)
  · rw [clip_eq];exact key _ items.size (clip_le' _ _) (by (exact ar_hskg))
  · rw [clip_eq,clip_eq];exact key _ _ (clip_le' _ _) (clip_le' _ _)
theorem allR_sub {vs:List Value} {ps:List PV} (h:AllR K ρ vs ps) (a b:Nat):AllR K ρ ((vs.take b).drop a) ((ps.take b).drop a):=by
  have tk:∀ (b:Nat) (vs:List Value) (ps:List PV),AllR K ρ vs ps→AllR K ρ (vs.take b) (ps.take b):=by
    intro b
    induction b with
    | zero=>intro vs ps _;simp [AllR]
    | succ n ih=>
      intro vs ps h
      cases vs with
      | nil=>cases ps with
        | nil=>exact trivial
        | cons _ _=>exact h.elim
      | cons v vs=>cases ps with
        | nil=>exact h.elim
        | cons p ps=>exact ⟨h.1,ih vs ps h.2⟩
  have dr:∀ (b:Nat) (vs:List Value) (ps:List PV),AllR K ρ vs ps→AllR K ρ (vs.drop b) (ps.drop b):=by
    intro b
    induction b with
    | zero=>intro vs ps h;exact h
    | succ n ih=>
      intro vs ps h
      cases vs with
      | nil=>cases ps with
        | nil=>exact trivial
        | cons _ _=>exact h.elim
      | cons v vs=>cases ps with
        | nil=>exact h.elim
        | cons p ps=>exact ih vs ps h.2
  exact dr a _ _ (tk b _ _ h)
theorem allR_slc {vs:List Value} {ps:List PV} (h:AllR K ρ vs ps) (lo hi:Option Int):AllR K ρ (slc vs lo hi) (slc ps lo hi):=by
  unfold slc
  rw [h.len]
  exact allR_sub h _ _
theorem allR_ints:∀ {vs:List Value} {xs:List Int},vs.length=xs.length→(∀ (i:Nat) (x:Int),xs[i]?=some x→∃ t,vs[i]?=some (Value.int x t))→AllR K ρ vs (xs.map .int)
  | [],[],_,_=>trivial
  | v::vs,x::xs,hl,h=>⟨by obtain ⟨t,e⟩:=h 0 x rfl;exact ⟨t,by simpa using e⟩,allR_ints (by simpa using hl) fun i y e=>h (i+1) y e⟩
  | [],_::_,h,_=>by simp at h
  | _::_,[],h,_=>by simp at h
theorem part_is {v:Value} {i:Option Int} (h:PartR v i):IsPart v i:=by
  cases i with
  | none=>rw [show v=.none from h];exact .none
  | some i=>obtain ⟨t,rfl⟩:=h;exact .int i t
theorem getItem_ints {l sl:Addr} {xs:List Int} {o:Obj} {vl vu:Value} {lo hi:Option Int} {Q:Value→Shared→Prop} (ho:s.heap.get? l=some o) (hx:IntsOf o xs) (hsz:xs.length≤4000)
    (hs:s.heap.IsSliceOf sl vl vu .none) (pl:PartR vl lo) (pu:PartR vu hi)
    (hq:∀ h' ,(∀ b o,s.heap.get? b=some o→h'.get? b=some o)→OR K ρ h' s.heap.objs.size (.lst ((slc xs lo hi).map .int))→Q (.ref s.heap.objs.size) { s with heap:=h' }) :
    wpAny (model prog w) A (getItem (.ref l) (.ref sl)) Q E s:=by
  obtain ⟨vs,n,h1,h2,h3,h4⟩:=hx
  refine wpAny_getItem_list_slice ⟨o,ho,h1,n,h2⟩ hs (part_is pl) (part_is pu) .none (by simp) ?_ (by rw [h3,sizeLine_eq];(exact ar_xrg6 hsz))
  refine hq _ (fun _ _ e=>Heap.get?_push_of_some _ e) (OR.lstOf ⟨_,Heap.get?_push_size _ rfl,rfl,_,rfl⟩ ?_)
  rw [slicePick_slc]
  have e:slc (xs.map PV.int) lo hi=(slc xs lo hi).map .int:=by unfold slc;simp [List.map_take,List.map_drop]
  rw [← e]
  exact allR_slc (allR_ints (by simpa using h3) fun i x e=>by simpa using h4 i x e) lo hi
end
end Mine

open PySem PySem.W PyProof.Rows PySem.Calls PySem.Builtin PySem.Builtin.Str PySem.Spec PySem.SeqAt
set_option maxRecDepth 100000
set_option Elab.async false
set_option backward.match.sparseCases false
namespace Mine
theorem meets_join (l b:Addr) (ol ob:Obj) (vs us:Array Value) (nl nb:Nat) (l2:ol.cls=.type "list") (l3:ol.data=.seq vs nl) (b2:ob.cls=.type "list") (b3:ob.data=.seq us nb) (hc0:vs.size+us.size≤sizeLine) :
    Meets (Builtin.«list.__add__» ⟨[.ref l,.ref b],[]⟩) (fun _ R s=>s.heap.get? l=some ol∧s.heap.get? b=some ob∧R (.ok (.ret (Value.ref s.heap.objs.size))) { s with heap:=s.heap.push { cls:=Value.type "list",data:=Data.seq (vs++us) },toks:=s.toks }):=
  .of_wp fun prog w A R s h=>by
    obtain ⟨c,d0,dt,sl⟩:=ol
    obtain ⟨c',d0',dt',sl'⟩:=ob
    dsimp only at l2 l3 b2 b3
    subst l2 l3 b2 b3
    obtain ⟨hp,g,d,tk,os⟩:=s
    obtain ⟨hl,hb,h⟩:=h
    have f3:isSubtype (.type "list") (.type "list")=pure true:=by rw [isSubtype_type];kernel_rfl
    wp_walk using wpAny_loadPart' hl,wpAny_loadPart' hb
    exact ⟨_,rfl,h⟩
theorem AllR.app {K:Frag} {ρ:Rho}:∀ {vs us:List Value} {ps qs:List PV},AllR K ρ vs ps→AllR K ρ us qs→AllR K ρ (vs++us) (ps++qs)
  | [],_,[],_,_,h=>h
  | _::_,_,_::_,_,⟨a,b⟩,h=>⟨a,b.app h⟩
  | [],_,_::_,_,h,_=>h.elim
  | _::_,_,[],_,h,_=>h.elim
section
variable {prog:Program} {w:World} {A:Around} {E:Value→Shared→Prop} {s:Shared} {K:Frag} {ρ:Rho} {env:Env}
theorem listAdd_ok {l b:Addr} {ps qs:List PV} {Q:Value→Shared→Prop} (ho:OR K ρ s.heap l (.lst ps)) (hb:OR K ρ s.heap b (.lst qs)) (hsz:ps.length+qs.length≤4000)
    (hq:∀ o:Obj,OR K ρ (s.heap.push o) s.heap.objs.size (.lst (ps++qs))→Q (.ref s.heap.objs.size) { s with heap:=s.heap.push o }):wpAny (model prog w) A (binaryOp .Add (.ref l) (.ref b)) Q E s:=by
  obtain ⟨vs,hl,ha,e⟩:=ho.isList
  obtain ⟨us,hb',hc,e'⟩:=hb.isList
  obtain ⟨ol,l1,l2,nl,l3⟩:=hl
  obtain ⟨ob,b1,b2,nb,b3⟩:=hb'
  refine wpAny_binaryOp_concat ⟨ol,l1,l2⟩ ⟨ob,b1,b2⟩ noFill_list_add seq_list_add (call_meets F.slot_list_add ⟨ol,l1,l2⟩ F.entry_list_add (F.args_list_add_2 _ _) (meets_join l b ol ob vs us nl nb l2 l3 b2 b3 (by rw [sizeLine_eq];(exact ar_iux1 hsz e e'))) ⟨l1,b1,?_⟩)
  refine hq _ ⟨_,_,_,Heap.get?_push_size _ rfl,rfl,rfl,?_⟩
  rw [Array.toList_append]
  exact ha.app hc
theorem StrsAt.list {a:Addr} {ss:List (List Nat)} (h:StrsAt K a ss) {hp:Heap} (X:K.In hp):OR K ρ hp a (.lst (ss.map .str)):=by
  obtain ⟨o,vs,n,h1,h2,h3,h4,h5⟩:=h
  refine ⟨o,vs,n,X _ _ h1,h2,h3,?_⟩
  have gen:∀ (us:List Value) (ss:List (List Nat)),us.length=ss.length→(∀ (i:Nat) (x:List Nat),ss[i]?=some x→∃ t,us[i]?=some (Value.str ⟨x.toArray⟩ t))→AllR K ρ us (ss.map .str):=by
    intro us
    induction us with
    | nil=>intro ss hl _;cases ss with
      | nil=>exact trivial
      | cons _ _=>simp at hl
    | cons u us ih=>intro ss hl h;cases ss with
      | nil=>simp at hl
      | cons x ss=>exact ⟨by obtain ⟨t,e⟩:=h 0 x rfl;exact ⟨t,by simpa using e⟩,ih ss (by simpa using hl) fun i y e=>h (i+1) y e⟩
  exact gen vs.toList ss (by simpa using h4) fun i x e=>by simpa using h5 i x e
end
end Mine

open PySem PySem.W PyProof.Rows PySem.Calls PySem.Builtin PySem.Builtin.Str PySem.Spec PySem.SeqAt
set_option maxRecDepth 100000
set_option Elab.async false
set_option backward.match.sparseCases false
namespace Mine
noncomputable abbrev Pr:=Sem Value × Sem Value
noncomputable def constPV (c:Const):Option PV:=match c with
  | .str s=>some (.str s.cps.toList)
  | .int i=>some (.int i)
  | _=>none
noncomputable def pairOf (k:Option PySem.Expr) (v:PySem.Expr):Option (List Nat × PV):=(k.bind strOf).bind fun s=>((constOf v).bind constPV).map fun p=>(s.cps.toList,p)
noncomputable def constPairs:List (Option PySem.Expr)→List PySem.Expr→Option (List (List Nat × PV))
  | [],[]=>some []
  | k::ks,v::vs=>(pairOf k v).bind fun p=>(constPairs ks vs).map (p::·)
  | _,_=>none
noncomputable def KV (K:Frag) (ρ:Rho):List (Str × Value)→List (List Nat × PV)→Prop
  | [],[]=>True
  | (k,v)::r,(p,pv)::q=>k=strL p∧VR K ρ v pv∧KV K ρ r q
  | _,_=>False
section
variable {prog:Program} {w:World} {K:Frag} {ρ:Rho}
theorem KV.keys:∀ {kvs:List (Str × Value)} {ps:List (List Nat × PV)},KV K ρ kvs ps→kvs.map (·.1)=ps.map fun p=>strL p.1
  | [],[],_=>rfl
  | (k,v)::r,(p,pv)::q,⟨a,b,c⟩=>by simp only [List.map_cons,a,c.keys]
  | [],_::_,h=>h.elim
  | _::_,[],h=>h.elim
theorem KV.len {kvs:List (Str × Value)} {ps:List (List Nat × PV)} (h:KV K ρ kvs ps):kvs.length=ps.length:=by
  have:=congrArg List.length h.keys
  simpa using this
theorem KV.app:∀ {a b:List (Str × Value)} {p q:List (List Nat × PV)},KV K ρ a p→KV K ρ b q→KV K ρ (a++b) (p++q)
  | [],_,[],_,_,h=>h
  | (_,_)::_,_,(_,_)::_,_,⟨x,y,z⟩,h=>⟨x,y,z.app h⟩
  | [],_,_::_,_,h,_=>h.elim
  | _::_,_,[],_,h,_=>h.elim
variable (prog w K ρ) in
noncomputable def TreesOf:List Pr→List (List Nat × PV)→Prop
  | [],[]=>True
  | t::r,p::q=>(∀ (A:Around) (s:Shared) (Q:Value→Shared→Prop) (E:Value→Shared→Prop),(∀ u tk,Q (.str (strL p.1) u) { s with toks:=tk })→wpAny (model prog w) A t.1 Q E s) ∧
      (∀ (A:Around) (s:Shared) (Q:Value→Shared→Prop) (E:Value→Shared→Prop),(∀ v tk,VR K ρ v p.2→Q v { s with toks:=tk })→wpAny (model prog w) A t.2 Q E s)∧TreesOf r q
  | _,_=>False
theorem TreesOf.len:∀ {l:List Pr} {ps:List (List Nat × PV)},TreesOf prog w K ρ l ps→l.length=ps.length
  | [],[],_=>rfl
  | _::_,_::_,⟨_,_,h⟩=>by simp [h.len]
  | [],_::_,h=>h.elim
  | _::_,[],h=>h.elim
theorem TreesOf.take:∀ (n:Nat) {l:List Pr} {ps:List (List Nat × PV)},TreesOf prog w K ρ l ps→TreesOf prog w K ρ (l.take n) (ps.take n)
  | 0,_,_,_=>by simp [TreesOf]
  | _+1,[],[],_=>trivial
  | n+1,_::_,_::_,⟨a,b,h⟩=>⟨a,b,h.take n⟩
  | _+1,[],_::_,h=>h.elim
  | _+1,_::_,[],h=>h.elim
theorem TreesOf.drop:∀ (n:Nat) {l:List Pr} {ps:List (List Nat × PV)},TreesOf prog w K ρ l ps→TreesOf prog w K ρ (l.drop n) (ps.drop n)
  | 0,_,_,h=>h
  | _+1,[],[],_=>trivial
  | n+1,_::_,_::_,⟨_,_,h⟩=>h.drop n
  | _+1,[],_::_,h=>h.elim
  | _+1,_::_,[],h=>h.elim
theorem treesOf_cons {env:Env} {pos:Pos} {k:Str} {n n':Nat} {p p':Pos} {c:Const} {ks:List (Option PySem.Expr)} {vs:List PySem.Expr} {pv:PV} {r:List (List Nat × PV)} (hr:TreesOf prog w K ρ (pairTrees ks vs env pos) r∧ks.all (·.isSome)=true∧ks.length=vs.length)
    (hv:∀ (A:Around) (s:Shared) (Q:Value→Shared→Prop) (E:Value→Shared→Prop),(∀ v tk,VR K ρ v pv→Q v { s with toks:=tk })→wpAny (model prog w) A (eval (.Constant c n' p') env) Q E s) :
    TreesOf prog w K ρ (pairTrees (some (.Constant (.str k) n p)::ks) (.Constant c n' p'::vs) env pos) ((k.cps.toList,pv)::r)∧((some (PySem.Expr.Constant (.str k) n p)::ks).all fun x=>x.isSome)=true∧(some (PySem.Expr.Constant (.str k) n p)::ks).length=(PySem.Expr.Constant c n' p'::vs).length:=by
  obtain ⟨a1,a2,a3⟩:=hr
  have e:pairTrees (some (.Constant (.str k) n p)::ks) (.Constant c n' p'::vs) env pos=(eval (.Constant (.str k) n p) env,do let x ← eval (.Constant c n' p') env;standAt pos;pure x)::pairTrees ks vs env pos:=rfl
  rw [e]
  refine ⟨⟨?_,?_,a1⟩,?_,?_⟩
  · intro A s Q E hq
    show wpAny _ A (eval (.Constant (.str k) n p) env) Q E s
    exact wpAny_Constant_str (hq s.toks (s.toks+1))
  · intro A s Q E hq
    exact wpAny_bind (hv A s _ E fun v tk hvv=>wpAny_bind (wpAny_standAt (wpAny_pure (hq v tk hvv))))
  · simpa using a2
  · simpa using a3
theorem constPV_ok {c:Const} {pv:PV} (h:constPV c=some pv) {env:Env} {n:Nat} {p:Pos} (A:Around) (s:Shared) (Q:Value→Shared→Prop) (E:Value→Shared→Prop) (hq:∀ v tk,VR K ρ v pv→Q v { s with toks:=tk }):wpAny (model prog w) A (eval (.Constant c n p) env) Q E s:=by
  unfold constPV at h
  split at h
  · cases h;exact wpAny_Constant_str (hq _ _ ⟨s.toks,by congr 1⟩)
  · cases h;exact wpAny_Constant_int (hq _ _ ⟨_,rfl⟩)
  · cases h
theorem treesOf_const {env:Env} {pos:Pos}:∀ {ks:List (Option PySem.Expr)} {vs:List PySem.Expr} {ps:List (List Nat × PV)},constPairs ks vs=some ps→TreesOf prog w K ρ (pairTrees ks vs env pos) ps∧ks.all (·.isSome)=true∧ks.length=vs.length
  | [],[],ps,h=>by cases h;exact ⟨trivial,rfl,rfl⟩
  | [],_::_,ps,h=>(Option.some_ne_none _ h.symm).elim
  | _::_,[],ps,h=>(Option.some_ne_none _ h.symm).elim
  | k::ks,v::vs,ps,h=>by
    obtain ⟨p,h1,h2⟩:=Option.bind_eq_some_iff.mp (h:(pairOf k v).bind (fun p=>(constPairs ks vs).map (p::·))=some ps)
    obtain ⟨r,h3,rfl⟩:=Option.map_eq_some_iff.mp h2
    obtain ⟨s,h4,h5⟩:=Option.bind_eq_some_iff.mp h1
    obtain ⟨ke,rfl,h6⟩:=Option.bind_eq_some_iff.mp h4
    obtain ⟨pv,h7,rfl⟩:=Option.map_eq_some_iff.mp h5
    obtain ⟨c,h8,h9⟩:=Option.bind_eq_some_iff.mp h7
    obtain ⟨n,q,rfl⟩:=strOf_is h6
    obtain ⟨n',q',rfl⟩:=constOf_is h8
    exact treesOf_cons (treesOf_const h3) (constPV_ok h9)
variable {A:Around} {E:Value→Shared→Prop} {s:Shared}
noncomputable def Vals (K:Frag) (ρ:Rho):List (Value × Value)→List (List Nat × PV)→Prop
  | [],[]=>True
  | (k,v)::r,(p,pv)::q=>(∃ t,k=.str (strL p) t)∧VR K ρ v pv∧Vals K ρ r q
  | _,_=>False
theorem Vals.kv:∀ {vs:List (Value × Value)} {ps:List (List Nat × PV)},Vals K ρ vs ps→allStrKeys vs=true∧KV K ρ (strPairs vs) ps
  | [],[],_=>⟨rfl,trivial⟩
  | (_,_)::_,(_,_)::_,⟨⟨t,rfl⟩,b,h⟩=>⟨h.kv.1,rfl,b,h.kv.2⟩
  | [],_::_,h=>h.elim
  | _::_,[],h=>h.elim
theorem evalPairs_ok:∀ (l:List Pr) (ps:List (List Nat × PV)) (s:Shared) (Q:List (Value × Value)→Shared→Prop),TreesOf prog w K ρ l ps→(∀ vs tk,Vals K ρ vs ps→Q vs { s with toks:=tk })→wpAny (model prog w) A (evalPairs l) Q E s
  | [],[],s,Q,_,hq=>evalPairs_nil (hq [] s.toks trivial)
  | (k,v)::r,(p,pv)::q,s,Q,⟨a,b,h⟩,hq=>by
    refine evalPairs_cons (a A s _ E fun u tk=>b A _ _ E fun v' tk' hv=>evalPairs_ok r q _ _ h fun vs tk'' hvs=>?_)
    exact hq _ tk'' ⟨⟨u,rfl⟩,hv,hvs⟩
  | [],_::_,_,_,h,_=>h.elim
  | _::_,[],_,_,h,_=>h.elim
theorem subShort_ok {l:List Pr} {ps:List (List Nat × PV)} {Q:Addr→Shared→Prop} (hl:l.length≤15) (h:TreesOf prog w K ρ l ps) (nd:(ps.map fun p=>strL p.1).Nodup)
    (hq:∀ h' tk kvs,(∀ b o,s.heap.get? b=some o→h'.get? b=some o)→h'.DictOf (strKind prog w) s.heap.objs.size kvs→KV K ρ kvs ps→Q s.heap.objs.size { s with heap:=h',toks:=tk }) :
    wpAny (model prog w) A (subDict l) Q E s:=by
  refine wpAny_subDict (knd:=strKind prog w) hl (evalPairs_ok l ps _ _ h fun vs tk hvs=>?_)
  obtain ⟨a,b⟩:=hvs.kv
  refine display_done_str a (by rw [b.keys];exact nd) (Heap.DictOf.new s.heap) fun h' hd hs=>?_
  exact hq h' _ _ (fun b o e=>(hs.2 b (Nat.ne_of_lt (Heap.lt_size e))).trans (Heap.get?_push_of_some _ e)) hd b
theorem subLoop:∀ (l:List Pr) (ps:List (List Nat × PV)) (d:Addr) (acc:List (Str × Value)) (s:Shared) (Q:PUnit→Shared→Prop),TreesOf prog w K ρ l ps→s.heap.DictOf (strKind prog w) d acc→((acc.map (·.1))++ps.map fun p=>strL p.1).Nodup→acc.length+ps.length≤4000 →
    (∀ h' tk kvs,Heap.SameBut d s.heap h'→h'.DictOf (strKind prog w) d (acc++kvs)→KV K ρ kvs ps→Q PUnit.unit { s with heap:=h',toks:=tk }) →
    wpAny (model prog w) A (forIn l PUnit.unit fun (x:Pr) (_:PUnit)=>(do let kv ← x.1;let vv ← holding [kv] x.2;holding [kv,vv] (dictSet d kv vv);pure (ForInStep.yield PUnit.unit):Sem (ForInStep PUnit))) Q E s
  | [],[],d,acc,s,Q,_,hd,_,_,hq=>by
    rw [List.forIn_nil]
    refine wpAny_pure (hq s.heap s.toks [] (Heap.SameBut.refl _ _) (by rw [List.append_nil];exact hd) trivial)
  | (k,v)::r,(p,pv)::q,d,acc,s,Q,⟨a,b,h⟩,hd,nd,hl,hq=>by
    rw [List.forIn_cons]
    refine wpAny_bind (wpAny_bind (a A s _ E fun u tk=>?_))
    refine wpAny_bind (wpAny_holding (b A _ _ E fun v' tk' hv=>?_))
    refine wpAny_bind (wpAny_holding (wpAny_dictSet_pairs (knd:=strKind prog w) (k:=strL p) (kvs:=acc) (hsz:=by rw [sizeLine_eq];simp at hl;(exact ar_a2it hl)) (strKind_is prog w _ u) hd fun h₁ hd₁ hs₁=>?_))
    refine wpAny_pure ?_
    have hfresh:¬ (acc.any fun kv=>decide (kv.1=strL p))=true:=by
      rw [List.any_eq_true]
      rintro ⟨kv,hkv,he⟩
      have he':=of_decide_eq_true he
      rw [List.map_cons,List.nodup_append] at nd
      exact nd.2.2 _ (List.mem_map.mpr ⟨kv,hkv,rfl⟩) _ (.head _) he'
    rw [stored,if_neg hfresh] at hd₁
    refine subLoop r q d (acc++[(strL p,v')]) _ Q h hd₁ ?_ (by simp at hl ⊢;(exact ar_t9c3 hl)) fun h' tk'' kvs hs₂ hd₂ hk=>?_
    · rw [List.map_append,List.append_assoc];exact nd
    · rw [List.append_assoc] at hd₂
      exact hq h' tk'' ((strL p,v')::kvs) (hs₁.trans hs₂) hd₂ ⟨rfl,hv,hk⟩
  | [],_::_,_,_,_,_,h,_,_,_,_=>h.elim
  | _::_,[],_,_,_,_,h,_,_,_,_=>h.elim
theorem sub_ok {l:List Pr} {ps:List (List Nat × PV)} {Q:Addr→Shared→Prop} (h:TreesOf prog w K ρ l ps) (nd:(ps.map fun p=>strL p.1).Nodup) (hz:ps.length≤4000)
    (hq:∀ h' tk kvs,(∀ b o,s.heap.get? b=some o→h'.get? b=some o)→h'.DictOf (strKind prog w) s.heap.objs.size kvs→KV K ρ kvs ps→Q s.heap.objs.size { s with heap:=h',toks:=tk }) :
    wpAny (model prog w) A (subDict l) Q E s:=by
  by_cases hl:l.length≤15
  · exact subShort_ok hl h nd hq
  · unfold subDict
    refine wpAny_bind (wpAny_alloc ?_)
    refine wpAny_bind (wpAny_holding ?_)
    rw [if_neg hl]
    refine wpAny_bind (wpAny_rule ?_)
    refine wpAny_bind (subLoop l ps s.heap.objs.size [] _ _ h (Heap.DictOf.new s.heap) (by simpa using nd) (by simpa using hz) fun h' tk kvs hs hd hk=>?_)
    refine wpAny_pure (wpAny_pure ?_)
    exact hq h' tk kvs (fun b o e=>(hs.2 b (Nat.ne_of_lt (Heap.lt_size e))).trans (Heap.get?_push_of_some _ e)) (by simpa using hd) hk
end
end Mine

open PySem PySem.W PyProof.Rows PySem.Calls PySem.Builtin PySem.Builtin.Str PySem.Spec PySem.SeqAt
set_option maxRecDepth 100000
set_option Elab.async false
set_option backward.match.sparseCases false
namespace Mine
section
variable {prog:Program} {w:World} {K:Frag} {ρ:Rho} {A:Around} {E:Value→Shared→Prop} {s:Shared}
theorem put_ok {d:Addr} {kvs:List (Str × Value)} {k:Str} {key v:Value} {Q:Unit→Shared→Prop} (hkey:(strKind prog w).is k key=true) (hm:s.heap.DictOf (strKind prog w) d kvs) (nk:k∉kvs.map (·.1)) (hz:kvs.length≤4000)
    (hQ:∀ h',h'.DictOf (strKind prog w) d (kvs++[(k,v)])→Heap.SameBut d s.heap h'→Q () { s with heap:=h' }):wpAny (model prog w) A (dictPut d ((strKind prog w).hash k) key v) Q E s:=by
  obtain ⟨o,es,ep,ho,hc,hd,hk,hp,hn⟩:=hm
  have hes:es.size≤sizeLine:=by
    have e1:=hp.length
    have e2:es.toList.length=es.size:=by simp
    rw [sizeLine_eq];(exact ar_rsu7 hz e1 e2)
  unfold dictPut
  refine wpAny_bind (wpAny_dictFind_of hkey ho hd hk ?_)
  have hidx:(es.findIdx? fun e=>(strKind prog w).is k e.key)=kvs.findIdx? fun kv=>decide (kv.1=k):=by
    rw [← hp.findIdx k];obtain ⟨l⟩:=es;simp
  cases hi:es.findIdx? fun e=>(strKind prog w).is k e.key with
  | some i=>
    have:=any_of_findIdx_some (hidx▸hi)
    rw [List.any_eq_true] at this
    obtain ⟨kv,hkv,he⟩:=this
    exact absurd (List.mem_map.mpr ⟨kv,hkv,of_decide_eq_true he⟩) nk
  | none=>
    refine wpAny_updateDictKeys (hz:=hes) ho hd (hQ _ ⟨_,_,ep+1,Heap.get?_update_self _ ho (Obj.isFreed_of_dict (Obj.data_mapDictKeys hd _)),hc.mapDictKeys _,Obj.data_mapDictKeys hd _,hk.push hkey _,?_,?_⟩ (Heap.SameBut.update ..))
    · have:=hp.append hkey ((strKind prog w).hash k) v
      obtain ⟨l⟩:=es
      simpa using this
    · rw [List.map_append,List.nodup_append]
      refine ⟨hn,by simp,?_⟩
      intro a ha b hb
      simp only [List.map_cons,List.map_nil,List.mem_singleton] at hb
      subst hb
      exact fun e=>nk (e▸ha)
theorem merge_ok {d o:Addr} {kvs more:List (Str × Value)} {Q:Unit→Shared→Prop} (hdo:d≠o) (hoS:(o==sysModules)=false) (hd:s.heap.DictOf (strKind prog w) d kvs) (ho:s.heap.DictOf (strKind prog w) o more)
    (ne:kvs≠[]) (nd:((kvs++more).map (·.1)).Nodup) (hsz:kvs.length+more.length≤4000)
    (hQ:∀ h',h'.DictOf (strKind prog w) d (kvs++more)→Heap.SameBut d s.heap h'→Q () { s with heap:=h' }):wpAny (model prog w) A (mergeMapping d (.ref o) false) Q E s:=by
  obtain ⟨od,esd,epd,hod,hcd,hdd,hkd,hpd,hnd⟩:=id hd
  obtain ⟨oo,eso,epo,hoo,hco,hdo',hko,hpo,hno⟩:=id ho
  have hlen:more.length=eso.size:=by rw [← hpo.length];simp
  have hemp:esd.isEmpty=false:=by
    cases q:esd.isEmpty with
    | false=>rfl
    | true=>
      have h0:esd=#[]:=Array.isEmpty_iff.mp q
      have:=hpd.length
      rw [h0] at this
      exact absurd (List.length_eq_zero_iff.mp (by simpa using this.symm)) ne
  unfold mergeMapping
  dsimp only
  refine wpAny_bind (wpAny_isInstance (T:="dict") (U:="dict") (b:=true) ho.typeIs (by rw [isSubtype_type];kernel_rfl) ?_)
  rw [if_pos rfl]
  refine wpAny_bind (wpAny_specialOf ho.typeIs F.slot_dict_iter.lookup ?_)
  have e1:((some (Value.builtin "dict.__iter__"):Option Value)==some (.builtin "dict.__iter__"))=true:=by decide +kernel
  rw [e1]
  refine wpAny_bind (wpAny_pure ?_)
  dsimp only
  rw [if_neg (by rw [hoS];exact Bool.false_ne_true)]
  refine wpAny_bind (wpAny_dictEntries hod hdd ?_)
  rw [if_neg (by rw [hemp];exact Bool.false_ne_true)]
  refine wpAny_bind (wpAny_dictEntries hoo hdo' ?_)
  refine wpAny_bind (wpAny_dictEpoch hoo hdo' ?_)
  refine wpAny_bind ?_
  refine wpAny_forIn_list _
      (fun rest _ s'=>∃ h' i,s'={ s with heap:=h' }∧rest=(List.range eso.size).drop i∧i≤eso.size∧h'.DictOf (strKind prog w) d (kvs++more.take i)∧h'.get? o=some oo∧Heap.SameBut d s.heap h')
      _ ?_ ?_ _ _ ⟨s.heap,0,rfl,by simp,Nat.zero_le _,by simpa using hd,hoo,Heap.SameBut.refl _ _⟩
  · rintro x rest b s' ⟨h',i,rfl,hr,hi,hd',hoo',hs'⟩
    have hlt:i < eso.size:=by
      have:=congrArg List.length hr
      simp at this
      (exact ar_es09 this)
    obtain ⟨rfl,hrest⟩:x=i∧rest=(List.range eso.size).drop (i+1):=by
      rw [List.drop_eq_getElem_cons (by simpa using hlt)] at hr
      injection hr with h1 h2
      exact ⟨by simpa using h1,h2⟩
    refine wpAny_bind (wpAny_dictEntries hoo' hdo' ?_)
    rw [Array.getElem?_eq_getElem hlt]
    obtain ⟨kv,hkv⟩:∃ kv,more[x]?=some kv:=⟨more[x]'(by rw [hlen];exact hlt),List.getElem?_eq_getElem _⟩
    obtain ⟨k,v⟩:=kv
    obtain ⟨hkey,hval⟩:=hpo.get? (e:=eso[x]) (by simp [hlt]) hkv
    obtain ⟨k',hkey',hhash⟩:=hko eso[x] (Array.getElem_mem hlt)
    obtain rfl:k'=k:=(strKind prog w).inj _ _ _ hkey' hkey
    dsimp only
    rw [if_neg Bool.false_ne_true]
    have htk:more.take (x+1)=more.take x++[(k',v)]:=by rw [List.take_add_one,hkv];rfl
    have hnk:k'∉(kvs++more.take x).map (·.1):=by
      have hsp:kvs++more=(kvs++more.take x)++((k',v)::more.drop (x+1)):=by
        have hx:more[x]'(by rw [hlen];exact hlt)=(k',v):=by
          rw [List.getElem?_eq_getElem (by rw [hlen];exact hlt)] at hkv
          exact Option.some.inj hkv
        rw [← hx,← List.drop_eq_getElem_cons,List.append_assoc,List.take_append_drop]
      rw [hsp,List.map_append,List.nodup_append] at nd
      exact fun q=>nd.2.2 _ q _ (by rw [List.map_cons];exact .head _) rfl
    rw [hhash,hval]
    refine wpAny_bind (wpAny_holding (put_ok (s:={ s with heap:=h' }) hkey hd' hnk (by rw [List.length_append,List.length_take];(exact ar_ctyo hsz)) fun h'' hd'' hs''=>?_))
    have hoo'':h''.get? o=some oo:=(hs''.2 o (Ne.symm hdo)).trans hoo'
    refine wpAny_bind (wpAny_dictEpoch hoo'' hdo' ?_)
    rw [if_neg (by simp)]
    refine wpAny_pure ⟨h'',x+1,rfl,hrest,hlt,?_,hoo'',hs'.trans hs''⟩
    rw [htk,← List.append_assoc];exact hd''
  · rintro b s' ⟨h',i,rfl,hr,hi,hd',hoo',hs'⟩
    have hin:i=eso.size:=by
      have:=congrArg List.length hr
      simp at this
      (exact ar_9o96 hi this)
    refine wpAny_pure (hQ h' ?_ hs')
    rw [hin,← hlen,List.take_length] at hd';exact hd'
end
end Mine

open PySem PySem.W PyProof.Rows PySem.Calls PySem.Builtin PySem.Builtin.Str PySem.Spec PySem.SeqAt
set_option maxRecDepth 100000
set_option Elab.async false
set_option backward.match.sparseCases false
namespace Mine
noncomputable def flushD (run:List Pr) (main:Option Addr):Sem (Option Addr):=do
  if run.isEmpty then return main
  match main with
  | none=>return some (← subDict run)
  | some d=>
    let sub ← holding [.ref d] (subDict run)
    (holding [.ref d,.ref sub] (mergeMapping d (.ref sub) false)).onRaise fun x=>do let _ ← holding [.ref d,x] (runValue (.builtin "proto.let_go" {}))
    return some d
section
variable {prog:Program} {w:World} {K:Frag} {ρ:Rho} {A:Around} {E:Value→Shared→Prop}
variable (prog w K ρ) in
noncomputable def MainIs (h:Heap) (main:Option Addr) (ps:List (List Nat × PV)):Prop:=match main with
  | none=>ps=[]
  | some d=>∃ kvs,h.DictOf (strKind prog w) d kvs∧KV K ρ kvs ps∧ps≠[]
theorem MainIs.keep {h h':Heap} {main:Option Addr} {ps:List (List Nat × PV)} (k:∀ b o,h.get? b=some o→h'.get? b=some o) (m:MainIs prog w K ρ h main ps):MainIs prog w K ρ h' main ps:=by
  cases main with
  | none=>exact m
  | some d=>obtain ⟨kvs,a,b⟩:=m;exact ⟨kvs,a.keep k,b⟩
noncomputable def Since (h₀ h:Heap) (main:Option Addr):Prop:=(∀ b o,h₀.get? b=some o→h.get? b=some o)∧∀ d,main=some d→h₀.objs.size≤d
theorem flush_ok {run:List Pr} {main:Option Addr} {ps qs:List (List Nat × PV)} {s:Shared} {h₀:Heap} {Q:Option Addr→Shared→Prop} (h:TreesOf prog w K ρ run qs) (m:MainIs prog w K ρ s.heap main ps) (sn:Since h₀ s.heap main) (hm:sysModules < h₀.objs.size)
    (nd:((ps++qs).map fun p=>strL p.1).Nodup) (hz:ps.length+qs.length≤4000) (h0:h₀.objs.size≤s.heap.objs.size)
    (hq:∀ main' h' tk,Since h₀ h' main'→h₀.objs.size≤h'.objs.size→MainIs prog w K ρ h' main' (ps++qs)→Q main' { s with heap:=h',toks:=tk }):wpAny (model prog w) A (flushD run main) Q E s:=by
  unfold flushD
  by_cases he:run.isEmpty=true
  · rw [if_pos he]
    have hr:run=[]:=List.isEmpty_iff.mp he
    subst hr
    have hqs:qs=[]:=by
      have:=h.len
      exact List.length_eq_zero_iff.mp this.symm
    subst hqs
    rw [List.append_nil] at hq
    exact wpAny_pure (hq main s.heap s.toks sn h0 m)
  · rw [if_neg he]
    have hne:qs≠[]:=by
      rintro rfl
      have:=h.len
      exact he (List.isEmpty_iff.mpr (List.length_eq_zero_iff.mp this))
    have nd2:(qs.map fun p=>strL p.1).Nodup:=by
      rw [List.map_append,List.nodup_append] at nd
      exact nd.2.1
    cases main with
    | none=>
      obtain rfl:ps=[]:=m
      dsimp only
      refine wpAny_bind (sub_ok h nd2 (by (exact ar_kov4 hz)) fun h' tk kvs hk hd hkv=>wpAny_pure ?_)
      refine hq (some s.heap.objs.size) h' tk ⟨fun b o e=>hk b o (sn.1 b o e),fun d e=>by cases e;exact h0⟩ ?_ ⟨kvs,hd,by simpa using hkv,by simpa using hne⟩
      obtain ⟨o,_,_,e,_⟩:=hd
      exact Nat.le_trans h0 (Nat.le_of_lt (Heap.lt_size e))
    | some d=>
      obtain ⟨kvs,hd,hkv,hps⟩:=m
      dsimp only
      refine wpAny_bind (wpAny_holding (sub_ok h nd2 (by (exact ar_kov4 hz)) fun h' tk kvs' hk hd' hkv'=>?_))
      have hdlt:d < s.heap.objs.size:=by
        obtain ⟨o,_,_,e,_⟩:=hd
        exact Heap.lt_size e
      refine wpAny_bind (wpAny_onRaise (wpAny_holding (merge_ok (kvs:=kvs) (more:=kvs') (Nat.ne_of_lt hdlt) ?_ (hd.keep hk) hd' ?_ ?_ ?_ fun h'' hd'' hs''=>wpAny_pure ?_)))
      · rw [beq_eq_false_iff_ne]
        exact Nat.ne_of_gt (Nat.lt_of_lt_of_le hm h0)
      · rintro rfl
        have:=hkv.len
        exact hps (List.length_eq_zero_iff.mp this.symm)
      · rw [List.map_append,hkv.keys,hkv'.keys,← List.map_append];exact nd
      · rw [hkv.len,hkv'.len];exact hz
      · refine hq (some d) h'' tk ⟨fun b o e=>?_,sn.2⟩ ?_ ⟨kvs++kvs',hd'',hkv.app hkv',by intro e;exact hps (List.append_eq_nil_iff.mp e).1⟩
        · have hb:b≠d:=Nat.ne_of_lt (Nat.lt_of_lt_of_le (Heap.lt_size e) (sn.2 d rfl))
          exact (hs''.2 b hb).trans (hk b o (sn.1 b o e))
        · rw [hs''.1]
          obtain ⟨o,_,_,e,_⟩:=hd'
          exact Nat.le_trans h0 (Nat.le_of_lt (Heap.lt_size e))
theorem disp_loop (f:(Option (Sem Value) × Sem Value)→(Option Addr × List Pr)→Sem (ForInStep (Option Addr × List Pr)))
    (hf1:∀ (p:Pr) (main:Option Addr) (run:List Pr),run.length+1≠17→f (some p.1,p.2) (main,run)=pure (.yield (main,run++[p])))
    (hf2:∀ (p:Pr) (main:Option Addr) (run:List Pr),run.length+1=17→f (some p.1,p.2) (main,run)=(flushD (run++[p]) main >>= fun m=>pure (.yield (m,[]))))
    {h₀:Heap} (hm:sysModules < h₀.objs.size) {Q:Option Addr→Shared→Prop}:∀ (l run:List Pr) (main:Option Addr) (ps qs rs:List (List Nat × PV)) (s:Shared),TreesOf prog w K ρ run qs→TreesOf prog w K ρ l rs→MainIs prog w K ρ s.heap main ps→Since h₀ s.heap main →
    ((ps++qs++rs).map fun p=>strL p.1).Nodup→ps.length+qs.length+rs.length≤4000→h₀.objs.size≤s.heap.objs.size→run.length < 17 →
    (∀ main' h' tk,Since h₀ h' main'→h₀.objs.size≤h'.objs.size→MainIs prog w K ρ h' main' (ps++qs++rs)→Q main' { s with heap:=h',toks:=tk }) →
    wpAny (model prog w) A (forIn (l.map fun p=>(some p.1,p.2)) (main,run) f) (fun r s'=>wpAny (model prog w) A (flushD r.2 r.1) Q E s') E s
  | [],run,main,ps,qs,rs,s,h1,h2,m,sn,nd,hz,h0,hl,hq=>by
    have hrs:rs=[]:=List.length_eq_zero_iff.mp h2.len.symm
    subst hrs
    rw [List.append_nil] at nd hq
    rw [List.map_nil,List.forIn_nil]
    exact wpAny_pure (flush_ok h1 m sn hm nd (by (exact ar_1icg hz)) h0 hq)
  | p::l,run,main,ps,qs,[],s,h1,h2,m,sn,nd,hz,h0,hl,hq=>h2.elim
  | p::l,run,main,ps,qs,r::rs,s,h1,h2,m,sn,nd,hz,h0,hl,hq=>by
    rw [List.map_cons,List.forIn_cons]
    have h1':TreesOf prog w K ρ (run++[p]) (qs++[r]):=by
      clear hl
      induction run generalizing qs with
      | nil=>cases qs with
        | nil=>exact ⟨h2.1,h2.2.1,trivial⟩
        | cons _ _=>exact h1.elim
      | cons x run ih=>cases qs with
        | nil=>exact h1.elim
        | cons y qs=>
          refine ⟨h1.1,h1.2.1,?_⟩
          have gen:∀ (run:List Pr) (qs:List (List Nat × PV)),TreesOf prog w K ρ run qs→TreesOf prog w K ρ (run++[p]) (qs++[r]):=by
            intro run
            induction run with
            | nil=>intro qs h;cases qs with
              | nil=>exact ⟨h2.1,h2.2.1,trivial⟩
              | cons _ _=>exact h.elim
            | cons x run ih=>intro qs h;cases qs with
              | nil=>exact h.elim
              | cons y qs=>exact ⟨h.1,h.2.1,ih qs h.2.2⟩
          exact gen run qs h1.2.2
    have eA:ps++(qs++[r])++rs=ps++qs++r::rs:=by simp
    by_cases h17:run.length+1=17
    · rw [hf2 p main run h17]
      refine wpAny_bind (wpAny_bind (flush_ok h1' m sn hm ?_ (by simp at hz ⊢;(exact ar_rmjn hz)) h0 fun main' h' tk sn' h0' m'=>wpAny_pure ?_))
      · rw [← eA,List.map_append,List.nodup_append] at nd
        exact nd.1
      · refine disp_loop f hf1 hf2 hm l [] main' (ps++(qs++[r])) [] rs _ trivial h2.2.2 m' sn' ?_ (by simp at hz ⊢;(exact ar_x709 hz)) h0' (by decide) fun main'' h'' tk' sn'' h0'' m''=>?_
        · rw [List.append_nil,eA];exact nd
        · rw [List.append_nil,eA] at m''
          exact hq main'' h'' tk' sn'' h0'' m''
    · rw [hf1 p main run h17]
      refine wpAny_bind (wpAny_pure ?_)
      refine disp_loop f hf1 hf2 hm l (run++[p]) main ps (qs++[r]) rs s h1' h2.2.2 m sn (by rw [eA];exact nd) (by simp at hz ⊢;(exact ar_x709 hz)) h0 (by simp;(exact ar_0n2b hl h17)) fun main'' h'' tk' sn'' h0'' m''=>?_
      rw [eA] at m''
      exact hq main'' h'' tk' sn'' h0'' m''
theorem display_ok {env:Env} {keys:List (Option PySem.Expr)} {values:List PySem.Expr} {pos:Pos} {ps:List (List Nat × PV)} {s:Shared} {Q:Value→Shared→Prop} (hc:constPairs keys values=some ps) (nd:(ps.map fun p=>strL p.1).Nodup) (hz:ps.length≤4000) (hne:ps≠[])
    (hm:sysModules < s.heap.objs.size)
    (hq:∀ d h' tk kvs,(∀ b o,s.heap.get? b=some o→h'.get? b=some o)→s.heap.objs.size≤d→h'.DictOf (strKind prog w) d kvs→KV K ρ kvs ps→Q (.ref d) { s with heap:=h',toks:=tk }) :
    wpAny (model prog w) A (eval (.Dict keys values pos) env) Q E s:=by
  obtain ⟨t1,t2,t3⟩:=treesOf_const (prog:=prog) (w:=w) (K:=K) (ρ:=ρ) (env:=env) (pos:=pos) hc
  rw [arm_eval_Dict,zip_pairTrees keys values env pos t2 t3]
  refine wpAny_bind (wpAny_standAt ?_)
  unfold dictDisplay
  dsimp only
  refine wpAny_bind (wpAny_mono (disp_loop (Q:=fun m s'=>wpAny (model prog w) A (match m with | some d=>pure (.ref d) | none=>newDict) Q E s') _ ?_ ?_ hm (pairTrees keys values env pos) [] none [] [] ps s trivial t1 rfl ⟨fun _ _ e=>e,fun d e=>by cases e⟩ (by simpa using nd) (by simpa using hz) (Nat.le_refl _) (by decide) fun main' h' tk sn h0 m=>?_) (fun r s' h=>?_) fun _ _ e=>e)
  · intro p main run h
    have:((run++[(p.1,p.2)]).length==17)=false:=by simp;(exact ar_1x9m h)
    simp only [this,Bool.false_eq_true,if_false]
  · intro p main run h
    have:((run++[(p.1,p.2)]).length==17)=true:=by simp;(exact ar_skje h)
    simp only [this,if_true]
    rfl
  · have m':MainIs prog w K ρ h' main' ps:=by simpa using m
    cases main' with
    | none=>exact absurd m' hne
    | some d=>
      obtain ⟨kvs,a,b,_⟩:=m'
      exact wpAny_pure (hq d h' tk kvs sn.1 (sn.2 d rfl) a b)
  · obtain ⟨main,run⟩:=r
    exact wpAny_bind h
end
end Mine

open PySem PySem.W PyProof.Rows PySem.Calls PySem.Builtin PySem.Builtin.Str
set_option maxRecDepth 100000
set_option Elab.async false
set_option backward.match.sparseCases false
namespace Mine
structure Fn where
  params:List Str
  scope:Scope
  body:List Stmt
structure Tabs where
  gl:Str→Option PV
  cat:Addr→Str→Option PV
  fld:Str→Bool
  meth:Str→Option Addr
  fns:Addr→Option Fn
  exc:Addr→Bool
  cfn:Addr→Option Fn:=fun _=>none
  ini:Bool:=false
noncomputable def backIn (K:Frag) (C:Addr) (x:Str):Bool:=match findIn K (.ref C) x with
  | some none=>true
  | some (some a)=>specialIn K a "__get__"==some none&&takesIn K a==some false
  | none=>false
inductive fnIn (K:Frag) (f:Addr) (F:Fn):Prop where
  | mk (o:Obj) (fd:FuncData) (h1:K.lookup f=some o) (h2:o.data=.func fd) (h3:fd.scope=F.scope) (h4:fd.body=.stmts F.body) (h5:fd.globals=mainGlobals) (h6:fd.builtins=builtinsNs) (h7:fd.closure=[])
    (h8:∀ h,K.In h→h.CodeRec fd.code fd.qualname) (h9:fd.scope.kind=.function) (h10:fd.scope.isCoroutine=false) (h11:fd.scope.isGenerator=false) (h12:∀ x∈fd.scope.names,x.2≠.cell)
    (h13:∀ x∈F.params,fd.scope.names.lookup x=some .local) (h14:F.params.Nodup)
    (h15:∀ vs:List Value,vs.length=F.params.length→bindArgs fd ⟨vs,[]⟩=pure (F.params.zip vs)):fnIn K f F
inductive fnInC (K:Frag) (f:Addr) (F:Fn):Prop where
  | mk (o:Obj) (fd:FuncData) (h1:K.lookup f=some o) (h2:o.data=.func fd) (h3:fd.scope=F.scope) (h4:fd.body=.stmts F.body) (h5:fd.globals=mainGlobals) (h6:fd.builtins=builtinsNs) (h7:fd.closure=[])
    (h8:∀ h,K.In h→h.CodeRec fd.code fd.qualname) (h9:fd.scope.kind=.function) (h10:fd.scope.isCoroutine=false) (h11:fd.scope.isGenerator=false) (h12:(fd.scope.names.map (·.1)).Nodup)
    (h13:∀ x∈F.params,fd.scope.names.lookup x=some .local∨fd.scope.names.lookup x=some .cell) (h14:F.params.Nodup)
    (h15:∀ vs:List Value,vs.length=F.params.length→bindArgs fd ⟨vs,[]⟩=pure (F.params.zip vs)):fnInC K f F
structure Facts (prog:Program) (w:World) (K:Frag) (base:Heap) (mg mb:Str→Option Value) (T:Tabs):Prop where
  inK:K.In base
  lim:base.NoLimit
  hg:base.Ns mainGlobals mg
  hb:base.Ns builtinsNs mb
  set:∃ X n,base.get? 230=some X∧VSet prog w X n
  gl:∀ x pv,T.gl x=some pv→∃ v,(∀ ρ,VR K ρ v pv)∧(mg x=some v∨(mg x=none∧mb x=some v))
  cat:∀ C x pv,T.cat C x=some pv→∃ v mc,readsIn K C mc=true∧findCls K (.ref C) mc x=some (.val v)∧handedIn v=true∧∀ ρ,VR K ρ v pv
  ga:findIn K (.ref 925) "__getattribute__"=some (some (.builtin "object.__getattribute__"))
  gt:findIn K (.ref 925) "__getattr__"=some none
  sa:findIn K (.ref 925) "__setattr__"=some (some (.builtin "object.__setattr__"))
  po:plainOver K 925=true
  hd:(clsIn K 925).any (·.hasDict)=true
  fld:∀ x,T.fld x=true→backIn K 925 x=true
  meth:∀ m f,T.meth m=some f→findIn K (.ref 925) m=some (some (.ref f))∧typeIn K (.ref f)=some (.type "function")
  aga:findIn K (.ref 218) "__getattribute__"=some (some (.builtin "object.__getattribute__"))
  ahd:(clsIn K 218).any (·.hasDict)=true
  afl:(["s","substring_i","result"]:List Str).all (fun x=>findIn K (.ref 218) x==some none)=true
  fns:∀ f F,T.fns f=some F→fnIn K f F
  exc:∀ C,T.exc C=true→excIn K C [.type "Exception",.type "BaseException",.type "object"] "Exception.__new__"=true
  cfns:∀ f F,T.cfn f=some F→fnInC K f F
  ini:T.ini=true→makesIn K 925=true∧findIn K (.ref 925) "__init__"=some (some (.ref 35))∧typeIn K (.ref 35)=some (.type "function")∧keepIn K (.ref 925)=true
theorem Facts.keeps {prog:Program} {w:World} {K:Frag} {base base':Heap} {mg mb:Str→Option Value} {T:Tabs} (W:Facts prog w K base mg mb T) (k:base.StaysIn base'):Facts prog w K base' mg mb T:=
  { W with inK:=W.inK.keeps k,lim:=W.lim.keeps k,hg:=W.hg.keeps k,hb:=W.hb.keeps k,set:=let ⟨X,n,a,b⟩:=W.set;⟨X,n,k _ _ a,b⟩ }
theorem Facts.isFn {prog:Program} {w:World} {K:Frag} {base:Heap} {mg mb:Str→Option Value} {T:Tabs} (W:Facts prog w K base mg mb T) {f:Addr} (h:((T.fns f).isSome||(T.cfn f).isSome)=true):∃ o fd,K.lookup f=some o∧o.data=.func fd:=by
  rcases Bool.or_eq_true_iff.mp h with h | h
  · obtain ⟨F,e⟩:=Option.isSome_iff_exists.mp h
    obtain ⟨o,fd,a,b,_⟩:=W.fns f F e
    exact ⟨o,fd,a,b⟩
  · obtain ⟨F,e⟩:=Option.isSome_iff_exists.mp h
    obtain ⟨o,fd,a,b,_⟩:=W.cfns f F e
    exact ⟨o,fd,a,b⟩
theorem look_ns {h:Heap} {a:Addr} {m:Str→Option Value} (n:h.Ns a m):∃ o,h.get? a=some o∧∀ x,lookIn x o=some (m x):=by
  obtain ⟨o,es,ep,h1,h2,h3,h4⟩:=n
  refine ⟨o,h1,fun x=>?_⟩
  have h5:=h4 x
  unfold nsFind findBy at h5
  unfold lookIn
  rw [h2]
  dsimp only
  rw [Array.find?_toList]
  have nr:es.toList.any (·.refKey)=false:=by
    rw [List.any_eq_false]
    intro e he
    obtain ⟨n,t,q⟩:=h3 e (by simpa using he)
    unfold DictEntry.refKey
    rw [q]
    simp
  rw [← h5]
  cases q:es.find? (·.key.isStr x) with
  | some e=>rfl
  | none=>rw [nr];rfl
theorem VR.handed {K:Frag} {ρ:Rho} {v:Value} {pv:PV} (h:VR K ρ v pv):handedIn v=true:=by
  cases pv<;>try (first | (obtain ⟨rfl,_⟩:=h;rfl) | (obtain rfl:=h;rfl) | (obtain ⟨_,rfl⟩:=h;rfl) | (obtain ⟨_,rfl,_⟩:=h;rfl) | (obtain ⟨_,_,rfl⟩:=h;rfl))
  rename_i n
  obtain rfl:v=.builtin n.id:=h
  cases n<;>decide +kernel
section
variable {prog:Program} {w:World} {A:Around} {E:Value→Shared→Prop} {s:Shared} {K:Frag} {base:Heap} {mg mb:Str→Option Value} {T:Tabs} {ρ:Rho} {fs:Fs} {S:Option Fs} {H:List AO} {F:List Fm}
theorem HR.inK (W:Facts prog w K base mg mb T) {h:Heap} (R:HR K base ρ S H F h):K.In h:=W.inK.keeps R.stays
theorem HR.set (W:Facts prog w K base mg mb T) {h:Heap} (R:HR K base ρ S H F h):∃ X n,h.get? 230=some X∧VSet prog w X n:=let ⟨X,n,a,b⟩:=W.set;⟨X,n,R.stays _ _ a,b⟩
theorem getSelf (W:Facts prog w K base mg mb T) (R:HR K base ρ (some fs) H F s.heap) {x:Str} {pv:PV} (hf:T.fld x=true) (hl:fs.lookup x=some pv) {Q:Value→Shared→Prop} {b:Bool}
    (hq:∀ v tk,VR K ρ v pv→Q v { s with toks:=tk }):wpAny (model prog w) A (getAttr (.ref ρ.sa) x b) Q E s:=by
  obtain ⟨⟨o,m,h1,h2,h4,h5,h6,h7⟩,_⟩:=R.stem fs rfl
  obtain ⟨od,g1,g2⟩:=look_ns h6.ns
  obtain ⟨v,e1,e2⟩:=(h7 x).2 pv hl
  have I:InstAt s.heap ρ.sa o 925 (some od):=⟨h1,h2,by unfold notCls;rw [h4],by rw [h5];exact g1⟩
  obtain ⟨cd,hcd,hdct⟩:=any_some W.hd
  have own:PySem.W.ownOf cd (some od) x=some (some v):=by unfold PySem.W.ownOf;rw [hdct,if_pos rfl];show lookIn x od=_;rw [g2,e1]
  have ff:findObj K 925 (some od) x=some (.value v):=by
    have q:=W.fld x hf
    unfold backIn at q
    unfold findObj
    rw [hcd]
    split at q
    · rename_i e;rw [e];simp [own]
    · rename_i a e
      simp only [Bool.and_eq_true,beq_iff_eq] at q
      rw [e];simp [own,q.1]
    · cases q
  exact get_value (R.inK W) I W.ga ff e2.handed (hq v _ e2)
theorem getCls (W:Facts prog w K base mg mb T) (R:HR K base ρ S H F s.heap) {C:Addr} {x:Str} {pv:PV} (hc:T.cat C x=some pv) {Q:Value→Shared→Prop} {b:Bool}
    (hq:∀ v tk,VR K ρ v pv→Q v { s with toks:=tk }):wpAny (model prog w) A (getAttr (.ref C) x b) Q E s:=by
  obtain ⟨v,mc,a1,a2,a3,a4⟩:=W.cat C x pv hc
  exact cls_value (R.inK W) a1 a2 a3 (hq v _ (a4 ρ))
noncomputable def amGet (r:Am) (x:Str):Option PV:=
  if x=("s":Str) then some (.str r.s) else if x=("substring_i":Str) then some (.int r.sub) else if x=("result":Str) then some (.int r.res) else none
theorem getAm (W:Facts prog w K base mg mb T) (R:HR K base ρ S H F s.heap) {a:Addr} {r:Am} (hA:AmAt K a r) {x:Str} {pv:PV} (hx:amGet r x=some pv) {Q:Value→Shared→Prop} {b:Bool}
    (hq:∀ v tk,VR K ρ v pv→Q v { s with toks:=tk }):wpAny (model prog w) A (getAttr (.ref a) x b) Q E s:=by
  obtain ⟨ox,dx,od,t1,t2,t3,k1,k2,k3,k4,k5,l1,l2,l3⟩:=hA
  have X:=R.inK W
  have I:InstAt s.heap a ox 218 (some od):=⟨X _ _ k1,k2,k3,by rw [k4];exact X _ _ k5⟩
  obtain ⟨cd,hcd,hdct⟩:=any_some W.ahd
  have fin:∀ v,findIn K (.ref 218) x=some none→lookIn x od=some (some v)→VR K ρ v pv→wpAny (model prog w) A (getAttr (.ref a) x b) Q E s:=by
    intro v f1 f2 f3
    have own:PySem.W.ownOf cd (some od) x=some (some v):=by unfold PySem.W.ownOf;rw [hdct,if_pos rfl];exact f2
    have ff:findObj K 218 (some od) x=some (.value v):=by
      unfold findObj
      rw [hcd,f1];simp [own]
    exact get_value X I W.aga ff f3.handed (hq v _ f3)
  have al:=W.afl
  simp only [List.all_cons,List.all_nil,Bool.and_true,Bool.and_eq_true,beq_iff_eq] at al
  obtain ⟨f1,f2,f3⟩:=al
  unfold amGet at hx
  split at hx
  · rename_i q;cases hx;subst q;exact fin _ f1 l1 ⟨_,rfl⟩
  · split at hx
    · rename_i q;cases hx;subst q;exact fin _ f2 l2 ⟨_,rfl⟩
    · split at hx
      · rename_i q;cases hx;subst q;exact fin _ f3 l3 ⟨_,rfl⟩
      · cases hx
theorem methSelf (W:Facts prog w K base mg mb T) (R:HR K base ρ (some fs) H F s.heap) {m:Str} {f:Addr} (hm:T.meth m=some f) (hl:fs.lookup m=none) {Q:Value × List Value→Shared→Prop} {pl:Sem Bool}
    (hq:Q (.ref f,[.ref ρ.sa]) s):wpAny (model prog w) A (getMethod (.ref ρ.sa) m pl) Q E s:=by
  obtain ⟨⟨o,mm,h1,h2,h4,h5,h6,h7⟩,_⟩:=R.stem fs rfl
  obtain ⟨od,g1,g2⟩:=look_ns h6.ns
  have I:InstAt s.heap ρ.sa o 925 (some od):=⟨h1,h2,by unfold notCls;rw [h4],by rw [h5];exact g1⟩
  obtain ⟨e1,e2⟩:=W.meth m f hm
  exact method_fn (R.inK W) I W.ga W.gt e1 e2 (by unfold shadowIn;dsimp only;rw [g2,(h7 m).1 hl];rfl) hq
theorem setSelf (W:Facts prog w K base mg mb T) (R:HR K base ρ (some fs) H F s.heap) {x:Str} {v:Value} {pv:PV} (hf:T.fld x=true) (hz:fs.length≤100) (hv:VR K ρ v pv) {Q:Unit→Shared→Prop}
    (hq:∀ h' tk,HR K base ρ (some (put x pv fs)) H F h'→Q () { s with heap:=h',toks:=tk }):wpAny (model prog w) A (setAttr (.ref ρ.sa) x v) Q E s:=by
  obtain ⟨⟨o,mm,h1,h2,h4,h5,h6,h7⟩,_⟩:=R.stem fs rfl
  obtain ⟨od,g1,g2⟩:=look_ns h6.ns
  have X:=R.inK W
  have I:InstAt s.heap ρ.sa o 925 (some od):=⟨h1,h2,by unfold notCls;rw [h4],by rw [h5];exact g1⟩
  have tk:takerIn K 925 x=some none:=by
    have q:=W.fld x hf
    unfold backIn at q
    unfold takerIn
    split at q
    · rename_i e;rw [e];rfl
    · rename_i a e
      simp only [Bool.and_eq_true,beq_iff_eq] at q
      rw [e];simp [q.2]
    · cases q
  refine set_plain X I W.sa ?_
  refine osa_open (s:={ s with toks:=s.toks+1 }) X I W.po tk fun b=>?_
  obtain ⟨cd,hcd,hdct⟩:=any_some W.hd
  obtain ⟨oc,odi,oda,osl⟩:=o
  dsimp only at h2 h4 h5
  subst h2 h4 h5
  refine wpAny_bind (wpAny_pure (wpAny_bind (wpAny_bind (wpAny_loadPart h1 (wpAny_bind (Looks.here (s:={ s with toks:=s.toks+1 }) (looks_clsIn X hcd) ?_))))))
  rw [hdct]
  refine wpAny_pure (a:=some ρ.sd) (wpAny_bind (wpAny_pure (wpAny_bind ?_)))
  refine nsSetZ (s:={ s with toks:=s.toks+1 }) h6 x v _ fun h' hn' hsb=>?_
  have hlen:(put x pv fs).length=if (mm x).isSome then fs.length else fs.length+1:=by
    rw [length_put]
    cases q:fs.lookup x with
    | none=>rw [(h7 x).1 q];rfl
    | some p=>obtain ⟨v',e,_⟩:=(h7 x).2 p q;rw [e];rfl
  rw [← hlen] at hn'
  obtain ⟨o2,es2,ep2,g3,g4,g5,g6,g7⟩:=id hn'
  refine wpAny_bind (wpAny_lookBehind g3 (by rw [g4];exact pastItsLine_dict (by rw [sizeLine_eq];have:(put x pv fs).length≤fs.length+1:=by { rw [length_put];split<;>(first | exact ar_7vek | exact ar_p04i) };(first | lia | omega))) (wpAny_pure ?_))
  exact hq h' _ (R.setStem h6.ns h7 hv hn' hsb)
theorem stor_local {env:Env} {m:Str→Option Value} {x:Str} {v:Value} (h:env.kindOf x=some .local) (e:stor env m x=some v):m x=some v:=by
  unfold stor at e
  rwa [if_neg (by rw [h];decide)] at e
theorem nameLocal {f:Fm} (R:HR K base ρ S H (f::F) s.heap) {x:Str} {p:Pos} {pv:PV} (hk:f.env.scope.kind=.function) (hx:f.env.kindOf x=some .local) (hd:(x==("__debug__":Str))=false) (hl:f.l.lookup x=some pv)
    {Q:Value→Shared→Prop} {M:Model} (hq:∀ v,VR K ρ v pv→Q v s):wpAny M A (eval (.Name x p) f.env) Q E s:=by
  obtain ⟨m,n,r⟩:=R.frames f (.head _)
  obtain ⟨v,h1,h2⟩:=(r x).2 pv hl
  exact wpAny_Name (wpAny_loadName_local hk hx n (stor_local hx h1) (hq v h2)) hd
theorem nameGlobal (W:Facts prog w K base mg mb T) {env:Env} (R:HR K base ρ S H F s.heap) {x:Str} {p:Pos} {pv:PV} (hk:env.scope.kind=.function) (hx:env.kindOf x=some .globalImplicit) (hd:(x==("__debug__":Str))=false)
    (hg:env.globals=mainGlobals) (hb:env.builtins=builtinsNs) (hl:T.gl x=some pv) {Q:Value→Shared→Prop} (hq:∀ v,VR K ρ v pv→Q v s):wpAny (model prog w) A (eval (.Name x p) env) Q E s:=by
  obtain ⟨v,h1,h2⟩:=W.gl x pv hl
  have G:s.heap.Ns env.globals mg:=by rw [hg];exact W.hg.keeps R.stays
  have B:s.heap.Ns env.builtins mb:=by rw [hb];exact W.hb.keeps R.stays
  refine Name_function_global hk hx ?_ hd
  rcases h2 with h2 | ⟨h2,h3⟩
  · exact loadGlobal_global G h2 (hq v (h1 ρ))
  · exact loadGlobal_builtin G h2 B h3 (hq v (h1 ρ))
theorem storeLocal {f:Fm} (R:HR K base ρ S H (f::F) s.heap) {x:Str} {v:Value} {pv:PV} (hk:f.env.scope.kind=.function) (hx:f.env.kindOf x=some .local) (hv:VR K ρ v pv)
    {Q:Unit→Shared→Prop} {M:Model} (hq:∀ h' tk,HR K base ρ S H (⟨f.env,put x pv f.l⟩::F) h'→Q () { s with heap:=h',toks:=tk }):wpAny M A (storeName f.env x v) Q E s:=by
  obtain ⟨m,n,r⟩:=R.frames f (.head _)
  refine wpAny_storeName_local hx n (fun h' hn hs=>?_) (by rw [hk];rfl)
  exact hq h' _ (R.setLocal hx n r hv hn hs)
end
end Mine

open PySem PySem.W PyProof.Rows PySem.Calls PySem.Builtin PySem.Builtin.Str
set_option maxRecDepth 100000
set_option Elab.async false
set_option backward.match.sparseCases false
namespace Mine
structure St where
  l:Fs
  S:Option Fs
  g:Nat
  H:List AO
inductive Ot where
  | next | brk | cont | ret (v:PV) | exc (C:Addr)
noncomputable abbrev CT:=Addr→List PV→(PV→Option Fs→Nat→List AO→Prop)→Option Fs→Nat→List AO→Prop
noncomputable abbrev EK:=(PV→St→Prop)→St→Prop
noncomputable abbrev TK:=(Bool→St→Prop)→St→Prop
noncomputable abbrev SK:=(Ot→St→Prop)→St→Prop
structure Px where
  E:Ex→EK
  T:Ex→TK
  S:Stmt→SK
noncomputable def isComp (e:Ex):Bool:=Nat.beq e.ctorIdx 8||Nat.beq e.ctorIdx 9||Nat.beq e.ctorIdx 10
noncomputable def isName (e:Ex):Bool:=Nat.beq e.ctorIdx 23
noncomputable def noRef:PV→Bool
  | .none=>true
  | .bool _=>true
  | .int _=>true
  | .str _=>true
  | _=>false
noncomputable def pEs (x:Px):List Ex→(List PV→St→Prop)→St→Prop
  | [],k,σ=>k [] σ
  | e::r,k,σ=>x.E e (fun v σ₁=>pEs x r (fun vs σ₂=>k (v::vs) σ₂) σ₁) σ
noncomputable def pSs (x:Px):List Stmt→SK
  | [],k,σ=>k .next σ
  | s::r,k,σ=>x.S s (fun o σ₁=>match o with | .next=>pSs x r k σ₁ | o=>k o σ₁) σ
noncomputable def pAll (x:Px) (op:BoolOp):List Ex→TK
  | [],k,σ=>(match op with | .And=>k true σ | .Or=>k false σ)
  | e::r,k,σ=>x.T e (fun b σ₁=>match op,b with | .And,true=>pAll x op r k σ₁ | .And,false=>k false σ₁ | .Or,true=>k true σ₁ | .Or,false=>pAll x op r k σ₁) σ
noncomputable def pWh (x:Px) (t:Ex) (b o:List Stmt) (k:Ot→St→Prop):Nat→St→Prop
  | 0,_=>False
  | n+1,σ=>x.T t (fun c σ₁=>match c with
      | true=>pSs x b (fun q σ₂=>match q with | .next=>pWh x t b o k n σ₂ | .cont=>pWh x t b o k n σ₂ | .brk=>k .next σ₂ | q=>k q σ₂) σ₁
      | false=>pSs x o k σ₁) σ
noncomputable def pFor (x:Px) (n:Str) (b:List Stmt) (k:Ot→St→Prop):List PV→St→Prop
  | [],σ=>k .next σ
  | v::r,σ=>pSs x b (fun q σ₂=>match q with | .next=>pFor x n b k r σ₂ | .cont=>pFor x n b k r σ₂ | .brk=>k .next σ₂ | q=>k q σ₂) { σ with l:=put n v σ.l }
noncomputable def rangeL (a c:Int):Nat→List PV
  | 0=>[]
  | n+1=>.int a::rangeL (a+c) c n
noncomputable def rangeN (a b c:Int):Nat:=if c=1 then (b - a).toNat else if c=-1 then (a - b).toNat else 0
noncomputable def dbg:Str:="__debug__"
noncomputable def pName (T:Tabs) (sc:Scope) (n:Str) (k:PV→Prop) (l:Fs):Prop:=
  match n==dbg,sc.names.lookup n with
  | false,some .local=>(match l.lookup n with | some v=>k v | none=>False)
  | false,some .globalImplicit=>(match T.gl n with | some v=>k v | none=>False)
  | _,_=>False
noncomputable def pAttr (T:Tabs) (v:PV) (a:Str) (k:PV→Prop) (σ:St):Prop:=
  match v with
  | .self g=>(match Nat.beq g σ.g,σ.S,T.fld a with
    | true,some fs,true=>(match fs.lookup a with | some p=>k p | none=>False)
    | _,_,_=>False)
  | .am r=>(match amGet r a with | some p=>k p | none=>False)
  | .cls C=>(match T.cat C a with | some p=>k p | none=>False)
  | _=>False
noncomputable def pSet (T:Tabs) (o:PV) (a:Str) (v:PV) (k:St→Prop) (σ:St):Prop:=
  match o with
  | .self g=>(match Nat.beq g σ.g,σ.S,T.fld a with
    | true,some fs,true=>(match Nat.ble fs.length 100 with | true=>k { σ with S:=some (put a v fs) } | false=>False)
    | _,_,_=>False)
  | _=>False
noncomputable def isLocal (sc:Scope) (n:Str):Bool:=match sc.names.lookup n with | some .local=>true | _=>false
noncomputable def pCell (n:Str) (k:PV→St→Prop) (σ:St):Prop:=
  match n==dbg,σ.l.lookup n with
  | false,some (.loc i)=>(match σ.H[i]? with | some (.cell (some v))=>k v σ | _=>False)
  | _,_=>False
noncomputable def isCellN (sc:Scope) (n:Str):Bool:=match sc.names.lookup n with | some .cell=>true | _=>false
noncomputable def pItemH (o j:PV) (H:List AO) (k:PV→Prop):Prop:=match o with
  | .loc i=>(match H[i]?,j with
    | some (.lst p),.int z=>0≤z∧z < 4000∧(match p[z.toNat]? with | some x=>k x | none=>False)
    | _,_=>False)
  | o=>pItem o j k
noncomputable def lstStrs (o:Option AO) (k:List (List Nat)→Prop):Prop:=match o with
  | some (.lst p)=>(match strsOf p with | some x=>k x | none=>False)
  | _=>False
noncomputable def locP (a:PV) (k:Nat→Prop):Prop:=match a with | .loc i=>k i | _=>False
noncomputable def pCmpL (op:CmpOp) (a:PV) (y:List (List Nat)) (H:List AO) (k:Bool→Prop):Prop:=match op with
  | .In=>txtP a fun x=>k (y.contains x)
  | .NotIn=>txtP a fun x=>k (!y.contains x)
  | .Eq=>locP a fun i=>lstStrs H[i]? fun x=>okL x=true∧okL y=true∧k (decide (x=y))
  | .NotEq=>locP a fun i=>lstStrs H[i]? fun x=>okL x=true∧okL y=true∧k (!decide (x=y))
  | _=>False
noncomputable def pCmpH (op:CmpOp) (a b:PV) (H:List AO) (k:Bool→Prop):Prop:=match b with
  | .loc j=>lstStrs H[j]? fun y=>pCmpL op a y H k
  | b=>pCmp op a b k
noncomputable def pLenH (v:PV) (H:List AO) (k:PV→Prop):Prop:=match v with
  | .loc i=>(match H[i]? with | some (.lst p)=>p.length≤4000∧k (.int p.length) | _=>False)
  | .ints xs=>xs.length≤4000∧k (.int xs.length)
  | v=>pFnLen v k
noncomputable def pFnH (n:Bf) (vs:List PV) (H:List AO) (k:PV→Prop):Prop:=match n with
  | .len=>oneP vs fun v=>pLenH v H k
  | n=>pFn n vs k
noncomputable def splitS:Str:="split"
noncomputable def isFnA (T:Tabs) (a:Addr):Bool:=(T.fns a).isSome||(T.cfn a).isSome
noncomputable def relabS (sc sc':Scope):Scope:=
  { sc' with names:=sc'.names.map fun (n,k)=>if (k==.free&&sc.kind==.function&&sc.names.lookup n==some .cell) then (n,.cell) else (n,k) }
noncomputable def isLocO:Option PV→Bool
  | some (.loc _)=>true
  | _=>false
noncomputable def compOk (sc sc':Scope) (y:Str) (l:Fs):Bool:=decide (sc'.kind=.function)&&sc'.names.all (fun p=>!decide (p.2=.cell))&&sc'.names.all (fun p=>!(decide (p.2=.local))||decide (sc'.names.lookup p.1=some .local)) &&
  decide (sc'.names.lookup y=some .local)&&sc'.names.all (fun p=>!(decide (p.2=.free))||(decide (sc.names.lookup p.1=some .cell)&&decide (sc'.names.lookup p.1=some .free)&&isLocO (l.lookup p.1)))
noncomputable def compL (sc':Scope) (l:Fs):Fs:=sc'.names.filterMap fun p=>match p.2,l.lookup p.1 with
  | .free,some v=>some (p.1,v)
  | _,_=>none
noncomputable def pLC (E:Ex→EK) (elt:Ex) (y:Str) (chk:St→Prop) (k:List PV→St→Prop):List PV→List PV→St→Prop
  | [],acc,σ=>chk σ∧k acc σ
  | v::r,acc,σ=>chk σ∧E elt (fun u σ₁=>pLC E elt y chk k r (acc++[u]) σ₁) { σ with l:=put y v σ.l }
noncomputable def asSlice (e:Ex):Option (Option Ex × Option Ex × Pos):=if h:e.ctorIdx=26 then PySem.Expr.Slice.elim (motive_1:=fun _=>Option (Option Ex × Option Ex × Pos)) e h fun lo hi st p=>bif st.isNone then some (lo,hi,p) else none else none
theorem asSlice_is {e:Ex} {lo hi:Option Ex} {p:Pos} (h:asSlice e=some (lo,hi,p)):e=.Slice lo hi none p:=by
  unfold asSlice at h
  by_cases q:e.ctorIdx=26
  · obtain ⟨a,b,c,p',rfl⟩:=slice_ex e q
    change (bif c.isNone then some (a,b,p') else none)=some (lo,hi,p) at h
    cases c with
    | none=>
      obtain ⟨h1,h2⟩:=Prod.mk.inj (Option.some.inj h)
      obtain ⟨h2,h3⟩:=Prod.mk.inj h2
      rw [h1,h2,h3]
    | some _=>exact (Option.some_ne_none _ h.symm).elim
  · rw [dif_neg q] at h;exact (Option.some_ne_none _ h.symm).elim
noncomputable def pRange (vs:List PV) (k:List PV→Prop):Prop:=match vs with
  | [v]=>numP v fun b=>(-4000≤b∧b≤4000)∧k (rangeL 0 1 (rangeN 0 b 1))
  | [v,u]=>numPP v u fun a b=>(-4000≤a∧a≤4000∧-4000≤b∧b≤4000)∧k (rangeL a 1 (rangeN a b 1))
  | [v,u,z]=>numPP v u fun a b=>numP z fun c=>c=4∧(-4000≤a∧a≤4000∧-4000≤b∧b≤4000)∧k (rangeL a 4 ((b - a+3) / 4).toNat)
  | _=>False
noncomputable def pLive (go:(St→Prop)→List PV→St→Prop) (v:PV) (σ₁:St):Prop:=match v with
  | .loc i=>(match σ₁.H[i]? with | some (.lst ps)=>go (fun σ=>σ.H[i]?=some (.lst ps)) ps σ₁ | _=>False)
  | _=>False
noncomputable def rangeP (v:PV) (P:Prop):Prop:=match v with
  | .typ .range=>P
  | _=>False
theorem rangeP_is {v:PV} {P:Prop} (h:rangeP v P):v=.typ .range∧P:=by
  cases v<;>try exact h.elim
  rename_i n
  cases n
  · exact ⟨rfl,h⟩
  · exact h.elim
noncomputable def pSrcR (x:Px) (f:Ex) (args:List Ex) (kws:List PySem.Keyword) (go:(St→Prop)→List PV→St→Prop) (σ:St):Prop:=match asName f with
  | some (rn,rp)=>(match kws,noStar args with
    | [],true=>x.E (.Name rn rp) (fun fv σ₁=>rangeP fv (pEs x args (fun vs σ₂=>pRange vs fun items=>go (fun _=>True) items σ₂) σ₁)) σ
    | _,_=>False)
  | none=>False
noncomputable def pSrc (x:Px) (iter:Ex) (go:(St→Prop)→List PV→St→Prop) (σ:St):Prop:=match iter with
  | .Call f args kws _=>pSrcR x f args kws go σ
  | .Name n p=>x.E (.Name n p) (pLive go) σ
  | .Subscript v i q=>(match asSlice i with | some _=>x.E (.Subscript v i q) (pLive go) σ | none=>False)
  | _=>False
theorem pLive_is {go:(St→Prop)→List PV→St→Prop} {v:PV} {σ:St} (h:pLive go v σ):∃ i ps,v=.loc i∧σ.H[i]?=some (.lst ps)∧go (fun σ=>σ.H[i]?=some (.lst ps)) ps σ:=by
  cases v<;>try exact h.elim
  rename_i i
  unfold pLive at h
  dsimp only at h
  split at h
  · rename_i ps hps;exact ⟨i,ps,rfl,hps,h⟩
  · exact h.elim
theorem pSrc_is {x:Px} {iter:Ex} {go:(St→Prop)→List PV→St→Prop} {σ:St} (h:pSrc x iter go σ):(∃ f args kws p,iter=.Call f args kws p∧pSrcR x f args kws go σ)∨((∃ n p,iter=.Name n p)∨∃ v i q,iter=.Subscript v i q)∧x.E iter (pLive go) σ:=by
  cases iter<;>try exact h.elim
  · exact .inl ⟨_,_,_,_,rfl,h⟩
  · rename_i v i q
    have h':(match asSlice i with | some _=>x.E (.Subscript v i q) (pLive go) σ | none=>False:Prop):=h
    split at h'
    · exact .inr ⟨.inr ⟨v,i,q,rfl⟩,h'⟩
    · exact h'.elim
  · exact .inr ⟨.inl ⟨_,_,rfl⟩,h⟩
theorem pSrcR_is {x:Px} {f:Ex} {args:List Ex} {kws:List PySem.Keyword} {go:(St→Prop)→List PV→St→Prop} {σ:St} (h:pSrcR x f args kws go σ):∃ rn rp,f=.Name rn rp∧kws=[]∧noStar args=true ∧
    x.E (.Name rn rp) (fun fv σ₁=>rangeP fv (pEs x args (fun vs σ₂=>pRange vs fun items=>go (fun _=>True) items σ₂) σ₁)) σ:=by
  unfold pSrcR at h
  cases q:asName f with
  | none=>rw [q] at h;exact h.elim
  | some v=>
    rw [q] at h
    rcases kws with _ | ⟨_,_⟩
    · cases hs:noStar args with
      | false=>rw [hs] at h;exact h.elim
      | true=>rw [hs] at h;exact ⟨v.1,v.2,asName_is q,rfl,rfl,h⟩
    · exact h.elim
noncomputable def pComp (sc:Scope) (x:Px) (xs:Scope→Px) (elt:Ex) (y:Str) (iter:Ex) (sc':Scope) (k:PV→St→Prop) (σ:St):Prop:=
  match compOk sc sc' y σ.l with
  | true=>pSrc x iter (fun chk items σ₁=>match compOk sc sc' y σ₁.l with
    | true=>items.length≤3000∧pLC (xs (relabS sc sc')).E elt y chk (fun acc σ₂=>k (.loc σ₂.H.length) ⟨σ₁.l,σ₂.S,σ₂.g,σ₂.H++[.lst acc]⟩) items [] ⟨compL sc' σ₁.l,σ₁.S,σ₁.g,σ₁.H⟩
    | false=>False) σ
  | false=>False
noncomputable def pOpt (x:Px):Option Ex→(Option Int→St→Prop)→St→Prop
  | none,k,σ=>k none σ
  | some e,k,σ=>x.E e (fun v σ₁=>match v with | .int i=>k (some i) σ₁ | _=>False) σ
noncomputable def isStrP:PV→Bool
  | .str _=>true
  | _=>false
noncomputable def pFnCall (T:Tabs) (C:CT) (x:Px) (a:Addr) (first:List PV) (args:List Ex) (k:PV→St→Prop) (σ:St):Prop:=
  match isFnA T a with
  | true=>pEs x args (fun vs σ₂=>C a (first++vs) (fun v S g H=>k v ⟨σ₂.l,S,g,H⟩) σ₂.S σ₂.g σ₂.H) σ
  | false=>False
structure CompV where
  elt:Ex
  y:Str
  py:Pos
  iter:Ex
  sc:Scope
  p:Pos
noncomputable def compG (elt:Ex) (sc:Scope) (p:Pos) (g:PySem.Comprehension):Option CompV:=(asName g.target).bind fun q=>bif g.ifs.isEmpty&&g.is_async==0 then some ⟨elt,q.1,q.2,g.iter,sc,p⟩ else none
noncomputable def compG1 (elt:Ex) (sc:Scope) (p:Pos) (gens:List PySem.Comprehension):Option CompV:=match gens with
  | [g]=>compG elt sc p g
  | _=>none
noncomputable def asComp (e:Ex):Option CompV:=if h:e.ctorIdx=8 then PySem.Expr.ListComp.elim (motive_1:=fun _=>Option CompV) e h fun elt gens sc p=>compG1 elt sc p gens else none
theorem asComp_is {e:Ex} {c:CompV} (h:asComp e=some c):e=.ListComp c.elt [⟨.Name c.y c.py,c.iter,[],0⟩] c.sc c.p:=by
  unfold asComp at h
  by_cases q:e.ctorIdx=8
  · obtain ⟨elt,gens,sc,p,rfl⟩:=comp_ex e q
    change compG1 elt sc p gens=some c at h
    rcases gens with _ | ⟨g,_ | ⟨_,_⟩⟩
    · exact (Option.some_ne_none _ h.symm).elim
    · obtain ⟨v,h1,h2⟩:=Option.bind_eq_some_iff.mp (h:compG elt sc p g=some c)
      obtain ⟨tg,iter,ifs,n⟩:=g
      cases q2:ifs.isEmpty&&n==0 with
      | false=>rw [show ((⟨tg,iter,ifs,n⟩:PySem.Comprehension).ifs.isEmpty&&(⟨tg,iter,ifs,n⟩:PySem.Comprehension).is_async==0)=false from q2] at h2;exact (Option.some_ne_none _ h2.symm).elim
      | true=>
        rw [show ((⟨tg,iter,ifs,n⟩:PySem.Comprehension).ifs.isEmpty&&(⟨tg,iter,ifs,n⟩:PySem.Comprehension).is_async==0)=true from q2] at h2
        rw [← Option.some.inj h2]
        obtain ⟨q3,q4⟩:=Bool.and_eq_true_iff.mp q2
        rw [asName_is (e:=tg) (n:=v.1) (p:=v.2) h1,List.isEmpty_iff.mp q3,beq_iff_eq.mp q4]
    · exact (Option.some_ne_none _ h.symm).elim
  · rw [dif_neg q] at h;exact (Option.some_ne_none _ h.symm).elim
noncomputable def asCall0 (e:Ex):Option (Str × Pos × Pos):=(asCallV e).bind fun v=>bif v.2.1.isEmpty&&v.2.2.1.isEmpty then (asName v.1).map fun q=>(q.1,q.2,v.2.2.2) else none
theorem asCall0_is {e:Ex} {n:Str} {np p:Pos} (h:asCall0 e=some (n,np,p)):e=.Call (.Name n np) [] [] p:=by
  obtain ⟨⟨f,a,k,p'⟩,h1,h2⟩:=Option.bind_eq_some_iff.mp h
  cases q2:a.isEmpty&&k.isEmpty with
  | false=>rw [show ((f,a,k,p'):Ex × List Ex × List PySem.Keyword × Pos).2.1.isEmpty=a.isEmpty from rfl] at h2;rw [show (a.isEmpty&&((f,a,k,p'):Ex × List Ex × List PySem.Keyword × Pos).2.2.1.isEmpty)=false from q2] at h2;exact (Option.some_ne_none _ h2.symm).elim
  | true=>
    obtain ⟨q3,q4⟩:=Bool.and_eq_true_iff.mp q2
    rw [List.isEmpty_iff.mp q3,List.isEmpty_iff.mp q4] at h1 h2
    obtain ⟨⟨n',np'⟩,h3,h4⟩:=Option.map_eq_some_iff.mp (h2:(asName f).map (fun q=>(q.1,q.2,p'))=some (n,np,p))
    obtain ⟨e1,e2⟩:=Prod.mk.inj h4
    obtain ⟨e2,e3⟩:=Prod.mk.inj e2
    rw [asCallV_is h1,asName_is (e:=f) (n:=n') (p:=np') h3,show n'=n from e1,show np'=np from e2,show p'=p from e3]
theorem dict_ex (e:Ex) (h:e.ctorIdx=6):∃ ks vs p,e=.Dict ks vs p:=PySem.Expr.Dict.elim (motive_1:=fun e=>∃ ks vs p,e=.Dict ks vs p) e h fun ks vs p=>⟨ks,vs,p,rfl⟩
noncomputable def asDictV (e:Ex):Option (List (Option Ex) × List Ex):=if h:e.ctorIdx=6 then PySem.Expr.Dict.elim (motive_1:=fun _=>Option (List (Option Ex) × List Ex)) e h fun ks vs _=>some (ks,vs) else none
theorem asDictV_is {e:Ex} {ks:List (Option Ex)} {vs:List Ex} (h:asDictV e=some (ks,vs)):∃ p,e=.Dict ks vs p:=by
  unfold asDictV at h
  by_cases q:e.ctorIdx=6
  · obtain ⟨ks',vs',p,rfl⟩:=dict_ex e q
    obtain ⟨h1,h2⟩:=Prod.mk.inj (Option.some.inj (h:some (ks',vs')=some (ks,vs)))
    exact ⟨p,by rw [h1,h2]⟩
  · rw [dif_neg q] at h;exact (Option.some_ne_none _ h.symm).elim
theorem ret_ex (s:Stmt) (h:s.ctorIdx=3):∃ o p,s=.Return o p:=PySem.Stmt.Return.elim (motive_2:=fun s=>∃ o p,s=.Return o p) s h fun o p=>⟨o,p,rfl⟩
noncomputable def asRetV (s:Stmt):Option Ex:=if h:s.ctorIdx=3 then PySem.Stmt.Return.elim (motive_2:=fun _=>Option Ex) s h fun o _=>o else none
theorem asRetV_is {s:Stmt} {e:Ex} (h:asRetV s=some e):∃ p,s=.Return (some e) p:=by
  unfold asRetV at h
  by_cases q:s.ctorIdx=3
  · obtain ⟨o,p,rfl⟩:=ret_ex s q
    exact ⟨p,by rw [show o=some e from h]⟩
  · rw [dif_neg q] at h;exact (Option.some_ne_none _ h.symm).elim
noncomputable def okPairs (ps:List (List Nat × PV)):Bool:=decide ((ps.map fun p=>strL p.1).Nodup)&&Nat.ble ps.length 3000&&!ps.isEmpty
noncomputable def body1 (F:Fn):Option Stmt:=match F.params,F.body with
  | [],[s]=>some s
  | _,_=>none
noncomputable def dictOfF (T:Tabs) (f:Addr):Option (List (List Nat × PV)):=((((T.fns f).bind body1).bind asRetV).bind asDictV).bind fun d=>(constPairs d.1 d.2).bind fun ps=>bif okPairs ps then some ps else none
theorem dictOfF_is {T:Tabs} {f:Addr} {ps:List (List Nat × PV)} (h:dictOfF T f=some ps):∃ sc ks vs dp rp,T.fns f=some ⟨[],sc,[.Return (some (.Dict ks vs dp)) rp]⟩∧constPairs ks vs=some ps∧okPairs ps=true:=by
  obtain ⟨⟨ks,vs⟩,h1,h2⟩:=Option.bind_eq_some_iff.mp h
  obtain ⟨e,h3,h4⟩:=Option.bind_eq_some_iff.mp h1
  obtain ⟨s,h5,h6⟩:=Option.bind_eq_some_iff.mp h3
  obtain ⟨F,h7,h8⟩:=Option.bind_eq_some_iff.mp h5
  obtain ⟨qs,h9,h10⟩:=Option.bind_eq_some_iff.mp h2
  obtain ⟨dp,rfl⟩:=asDictV_is h4
  obtain ⟨rp,rfl⟩:=asRetV_is h6
  obtain ⟨ps',sc,b⟩:=F
  have hb:ps'=[]∧b=[.Return (some (.Dict ks vs dp)) rp]:=by
    rcases ps' with _ | ⟨_,_⟩
    · rcases b with _ | ⟨x,_ | ⟨_,_⟩⟩
      · exact (Option.some_ne_none _ h8.symm).elim
      · exact ⟨rfl,by rw [Option.some.inj (h8:some x=some _)]⟩
      · exact (Option.some_ne_none _ h8.symm).elim
    · exact (Option.some_ne_none _ h8.symm).elim
  obtain ⟨rfl,rfl⟩:=hb
  cases q:okPairs qs with
  | false=>rw [q] at h10;exact (Option.some_ne_none _ h10.symm).elim
  | true=>
    rw [q] at h10
    rw [← Option.some.inj h10]
    exact ⟨sc,ks,vs,dp,rp,h7,h9,q⟩
noncomputable def dicOf (T:Tabs) (sc:Scope) (e:Ex):Option (List (List Nat × PV)):=match asCall0 e with
  | some (n,_,_)=>(match n==dbg,sc.names.lookup n,T.gl n with
    | false,some .globalImplicit,some (.fn f)=>dictOfF T f
    | _,_,_=>none)
  | none=>none
noncomputable def hasKey (ps:List (List Nat × PV)) (x:List Nat):Bool:=(ps.lookup x).isSome
noncomputable def listOf (a:PV) (H:List AO):Option (List PV):=match a with
  | .strs ss=>some (ss.map .str)
  | .loc i=>(match H[i]? with | some (.lst p)=>some p | _=>none)
  | _=>none
noncomputable def pAddH (a b:PV) (k:PV→St→Prop) (σ:St):Prop:=match listOf a σ.H with
  | none=>pBin .Add a b fun v=>k v σ
  | some p=>(match listOf b σ.H with
    | some q=>p.length+q.length≤4000∧k (.loc σ.H.length) { σ with H:=σ.H++[.lst (p++q)] }
    | none=>False)
noncomputable def isAdd:Operator→Bool
  | .Add=>true
  | _=>false
noncomputable def pBinH (op:Operator) (a b:PV) (k:PV→St→Prop) (σ:St):Prop:=match isAdd op with
  | true=>pAddH a b k σ
  | false=>pBin op a b fun v=>k v σ
section
variable (T:Tabs) (C:CT) (sc:Scope) (x:Px) (xs:Scope→Px)
noncomputable def eConst (c:Const) (k:PV→St→Prop) (σ:St):Prop:=match c with
  | .none=>k .none σ
  | .bool b=>k (.bool b) σ
  | .int i=>k (.int i) σ
  | .str s=>k (.str s.cps.toList) σ
  | _=>False
noncomputable def eCmp (l:Ex) (op:CmpOp) (r:Ex) (k:Bool→St→Prop) (σ:St):Prop:=match behindInMarks op r with
  | false=>(match dicOf T sc r with
    | some ps=>x.E l (fun a σ₁=>match op,a with | .In,.str y=>k (hasKey ps y) σ₁ | _,_=>False) σ
    | none=>x.E l (fun a σ₁=>x.E r (fun b σ₂=>pCmpH op a b σ₂.H fun c=>k c σ₂) σ₁) σ)
  | true=>False
noncomputable def eSub (v i:Ex) (k:PV→St→Prop) (σ:St):Prop:=match asSlice i with
  | some (lo,hi,_)=>x.E v (fun o σ₁=>pOpt x lo (fun a σ₂=>pOpt x hi (fun b σ₃=>match o with
    | .str l=>l.length≤4000∧k (.str (slc l a b)) σ₃
    | .ints xs=>xs.length≤4000∧k (.loc σ₃.H.length) { σ₃ with H:=σ₃.H++[.lst ((slc xs a b).map .int)] }
    | _=>False) σ₂) σ₁) σ
  | none=>(match noSlice i with
    | true=>(match dicOf T sc v with
      | some ps=>x.E i (fun j σ₂=>match j with | .str y=>(match ps.lookup y with | some r=>k r σ₂ | none=>False) | _=>False) σ
      | none=>x.E v (fun o σ₁=>x.E i (fun j σ₂=>pItemH o j σ₂.H fun r=>k r σ₂) σ₁) σ)
    | false=>False)
noncomputable def eCallN (n:Str) (q:Pos) (args:List Ex) (k:PV→St→Prop) (σ:St):Prop:=x.E (.Name n q) (fun fv σ₁=>match fv with
  | .fn a=>pFnCall T C x a [] args k σ₁
  | .blt b=>pEs x args (fun vs σ₂=>pFnH b vs σ₂.H fun v=>k v σ₂) σ₁
  | .cls c=>(match args,Nat.beq c 925&&T.ini with
    | [],true=>C 35 [.self (σ₁.g+1)] (fun v S g H=>match v with | .none=>k (.self (σ₁.g+1)) ⟨σ₁.l,S,g,H⟩ | _=>False) (some []) (σ₁.g+1) σ₁.H
    | _,_=>False)
  | .typ .list=>(match args with
    | [e]=>(match dicOf T sc e with | some ps=>k (.loc σ₁.H.length) { σ₁ with H:=σ₁.H++[.lst (ps.map fun p=>.str p.1)] } | none=>False)
    | _=>False)
  | _=>False) σ
noncomputable def eCallM (o:Ex) (m:Str) (ap p:Pos) (args:List Ex) (k:PV→St→Prop) (σ:St):Prop:=match baseOk o&&(ap.endLine==p.line) with
  | true=>x.E o (fun ov σ₁=>match ov with
    | .self g=>(match Nat.beq g σ₁.g,σ₁.S,T.meth m with
      | true,some fs,some f=>(match fs.lookup m with
        | none=>pFnCall T C x f [ov] args k σ₁
        | some _=>False)
      | _,_,_=>False)
    | .str l=>(match strMeth m with
      | some i=>pEs x args (fun vs σ₂=>pStrM i l vs fun r=>k r σ₂) σ₁
      | none=>False)
    | _=>False) σ
  | false=>False
noncomputable def eDisp (mk:List PV→AO) (es:List Ex) (k:PV→St→Prop) (σ:St):Prop:=match noStar es&&Nat.ble es.length 3000 with
  | true=>pEs x es (fun vs σ₁=>vs.length≤3000∧k (.loc σ₁.H.length) { σ₁ with H:=σ₁.H++[mk vs] }) σ
  | false=>False
noncomputable def stepE (e:Ex) (k:PV→St→Prop) (σ:St):Prop:=match e with
  | .Constant c _ _=>eConst c k σ
  | .Name n _=>(match isCellN sc n with | true=>pCell n k σ | false=>pName T sc n (fun v=>k v σ) σ.l)
  | .Attribute o a _=>(match isName o with | true=>x.E o (fun v σ₁=>pAttr T v a (fun p=>k p σ₁) σ₁) σ | false=>False)
  | .BinOp l op r _=>x.E l (fun a σ₁=>x.E r (fun b σ₂=>pBinH op a b k σ₂) σ₁) σ
  | .UnaryOp op e _=>(match op with | .USub=>x.E e (fun v σ₁=>match v with | .int i=>k (.int (-i)) σ₁ | _=>False) σ | _=>False)
  | .Compare l ops rs _=>(match ops,rs with | [op],[r]=>eCmp T sc x l op r (fun c=>k (.bool c)) σ | _,_=>False)
  | .Subscript v i _=>eSub T sc x v i k σ
  | .Call f args kws p=>(match kws,noStar args&&Nat.blt args.length 29 with
    | [],true=>(match f with
      | .Name n q=>eCallN T C sc x n q args k σ
      | .Attribute o m ap=>eCallM T C x o m ap p args k σ
      | _=>False)
    | _,_=>False)
  | .List es _=>eDisp x .lst es k σ
  | .IfExp t a b _=>x.T t (fun c σ₁=>match c with | true=>x.E a k σ₁ | false=>x.E b k σ₁) σ
  | .ListComp e g s p=>(match asComp (.ListComp e g s p) with | some c=>pComp sc x xs c.elt c.y c.iter c.sc k σ | none=>False)
  | _=>False
noncomputable def plainT (e:Ex):Bool:=[23,19,16,20].contains e.ctorIdx
noncomputable def tVal (e:Ex) (k:Bool→St→Prop) (σ:St):Prop:=match plainT e with | true=>x.E e (fun v σ₁=>match v with | .bool b=>k b σ₁ | _=>False) σ | false=>False
noncomputable def stepT (e:Ex) (k:Bool→St→Prop) (σ:St):Prop:=match e with
  | .UnaryOp op e _=>(match op with | .Not=>x.T e (fun b σ₁=>k (!b) σ₁) σ | _=>False)
  | .BoolOp op vs _=>pAll x op vs k σ
  | .Compare l ops rs _=>(match ops,rs with | [op],[r]=>eCmp T sc x l op r k σ | _,_=>False)
  | e=>tVal x e k σ
noncomputable def isCont (s:Stmt):Bool:=Nat.beq s.ctorIdx 27
noncomputable def tryB (s:Stmt):List Stmt:=if h:s.ctorIdx=17 then PySem.Stmt.Try.elim (motive_2:=fun _=>List Stmt) s h fun b _ _ _ _=>b else [s]
noncomputable def onceB (b:List Stmt):Bool:=(match b.getLast? with | some s=>Nat.beq s.ctorIdx 26 | none=>false)&&!(b.any fun s=>(tryB s).any isCont)
noncomputable def pStoreCell (n:Str) (v:PV) (k:St→Prop) (σ:St):Prop:=match σ.l.lookup n with
  | some (.loc i)=>(match σ.H[i]? with
    | some (.cell _)=>k { σ with H:=σ.H.set i (.cell (some v)) }
    | _=>False)
  | _=>False
noncomputable def swapOk (sc:Scope) (n:Str) (np:Pos) (s':Scope) (cp:Pos):Bool:=isLocal sc n&&np.line==cp.line&&!(s'.names.any fun (m,k)=>m==n&&(k==.local||k==.cell))
noncomputable def isTupE (e:Ex):Bool:=Nat.beq e.ctorIdx 25
noncomputable def pForI (n:Str) (b:List Stmt) (k:Ot→St→Prop) (chk:St→Prop):List PV→St→Prop
  | [],σ=>chk σ∧k .next σ
  | v::r,σ=>chk σ∧pSs x b (fun q σ₂=>match q with | .next=>pForI n b k chk r σ₂ | .cont=>pForI n b k chk r σ₂ | .brk=>k .next σ₂ | q=>k q σ₂) { σ with l:=put n v σ.l }
noncomputable def pForP (n m:Str) (b:List Stmt) (k:Ot→St→Prop):List (List Nat × List Nat)→St→Prop
  | [],σ=>k .next σ
  | (p,q)::r,σ=>∀ t u,t≠0→u≠0→t≠u→pSs x b (fun q σ₂=>match q with | .next=>pForP n m b k r σ₂ | .cont=>pForP n m b k r σ₂ | .brk=>k .next σ₂ | q=>k q σ₂) { σ with l:=put m (.strT q u) (put n (.strT p t) σ.l) }
noncomputable def pairOfN (es:List Ex):Option (Str × Pos × Str × Pos):=match es with
  | [a,b]=>(asName a).bind fun q=>(asName b).map fun r=>(q.1,q.2,r.1,r.2)
  | _=>none
noncomputable def asPair (e:Ex):Option (Str × Pos × Str × Pos):=(asTupV e).bind pairOfN
noncomputable def asTxt (e:Ex):Option (List Nat):=(strOf e).map (·.cps.toList)
noncomputable def pairOfT (es:List Ex):Option (List Nat × List Nat):=match es with
  | [a,b]=>(asTxt a).bind fun q=>(asTxt b).map fun r=>(q,r)
  | _=>none
noncomputable def asTxt2 (e:Ex):Option (List Nat × List Nat):=(asTupV e).bind pairOfT
noncomputable def asTxts:List Ex→Option (List (List Nat × List Nat))
  | []=>some []
  | e::r=>(asTxt2 e).bind fun p=>(asTxts r).map (p::·)
noncomputable def asPairs (e:Ex):Option (List (List Nat × List Nat)):=(asTupV e).bind fun es=>bif Nat.ble es.length 3000 then asTxts es else none
noncomputable def sAsgName (n:Str) (np:Pos) (e:Ex) (k:Ot→St→Prop) (σ:St):Prop:=match asComp e with
  | some c=>(match swapOk sc n np c.sc c.p with | true=>pComp sc x xs c.elt c.y c.iter c.sc (fun v σ₁=>k .next { σ₁ with l:=put n v σ₁.l }) σ | false=>False)
  | none=>(match isComp e with
    | false=>(match isLocal sc n with
      | true=>x.E e (fun v σ₁=>k .next { σ₁ with l:=put n v σ₁.l }) σ
      | false=>(match isCellN sc n with
        | true=>x.E e (fun v σ₁=>pStoreCell n v (k .next) σ₁) σ
        | false=>False))
    | true=>False)
noncomputable def sAssign (t e:Ex) (k:Ot→St→Prop) (σ:St):Prop:=match t with
  | .Name n np=>sAsgName sc x xs n np e k σ
  | .Attribute o a _=>(match isComp e with | false=>x.E e (fun v σ₁=>x.E o (fun ov σ₂=>pSet T ov a v (k .next) σ₂) σ₁) σ | true=>False)
  | _=>False
noncomputable def sAug (t:Ex) (op:Operator) (e:Ex) (k:Ot→St→Prop) (σ:St):Prop:=match t with
  | .Name n _=>(match isLocal sc n,σ.l.lookup n with | true,some old=>x.E e (fun v σ₁=>pAug op old v fun r=>k .next { σ₁ with l:=put n r σ₁.l }) σ | _,_=>False)
  | .Attribute o a _=>x.E o (fun ov σ₁=>pAttr T ov a (fun old=>x.E e (fun v σ₂=>pAug op old v fun r=>pSet T ov a r (k .next) σ₂) σ₁) σ₁) σ
  | _=>False
noncomputable def sForR (n:Str) (vs:List PV) (body:List Stmt) (k:Ot→St→Prop) (σ₂:St):Prop:=match vs with
  | [v]=>numP v fun b=>(-4000≤b∧b≤4000)∧pFor x n body k (rangeL 0 1 (rangeN 0 b 1)) σ₂
  | [v,u]=>numPP v u fun a b=>(-4000≤a∧a≤4000∧-4000≤b∧b≤4000)∧pFor x n body k (rangeL a 1 (rangeN a b 1)) σ₂
  | [v,u,z]=>numPP v u fun a b=>numP z fun c=>(-4000≤a∧a≤4000∧-4000≤b∧b≤4000∧c=-1)∧pFor x n body k (rangeL a (-1) (rangeN a b (-1))) σ₂
  | _=>False
noncomputable def sForL (n:Str) (v:PV) (body:List Stmt) (k:Ot→St→Prop) (σ:St):Prop:=match v with
  | .strs ss=>pForI x n body k (fun _=>True) (ss.map .str) σ
  | .loc i=>(match σ.H[i]? with | some (.lst ps)=>pForI x n body k (fun σ=>σ.H[i]?=some (.lst ps)) ps σ | _=>False)
  | _=>False
noncomputable def sForN (n:Str) (it:Ex) (body:List Stmt) (k:Ot→St→Prop) (σ:St):Prop:=match it with
  | .Call f args kws _=>(match asName f,kws,noStar args with
    | some (rn,rp),[],true=>x.E (.Name rn rp) (fun fv σ₁=>rangeP fv (pEs x args (fun vs σ₂=>sForR x n vs body k σ₂) σ₁)) σ
    | _,_,_=>False)
  | .Name m p=>x.E (.Name m p) (fun v σ₁=>sForL x n v body k σ₁) σ
  | _=>False
noncomputable def sFor (tg it:Ex) (body:List Stmt) (k:Ot→St→Prop) (σ:St):Prop:=match asName tg with
  | some (n,_)=>(match isLocal sc n with | true=>sForN x n it body k σ | false=>False)
  | none=>False
noncomputable def sForP (tg it:Ex) (body:List Stmt) (k:Ot→St→Prop) (σ:St):Prop:=match asPair tg,asPairs it with
  | some (n,_,m,_),some prs=>(match isLocal sc n&&isLocal sc m with | true=>pForP x n m body k prs σ | false=>False)
  | _,_=>False
noncomputable def sRaise (e:Ex) (k:Ot→St→Prop) (σ:St):Prop:=match asCall0 e with
  | some (n,_,_)=>pName T sc n (fun v=>match v with | .cls C=>(match T.exc C,sc.names.lookup n with | true,some .globalImplicit=>k (.exc C) σ | _,_=>False) | _=>False) σ.l
  | none=>False
theorem pass_ex (s:Stmt) (h:s.ctorIdx=25):∃ p,s=.Pass p:=PySem.Stmt.Pass.elim (motive_2:=fun s=>∃ p,s=.Pass p) s h fun p=>⟨p,rfl⟩
noncomputable def asPass1 (b:List Stmt):Option Pos:=match b with
  | [s]=>if h:s.ctorIdx=25 then PySem.Stmt.Pass.elim (motive_2:=fun _=>Option Pos) s h fun p=>some p else none
  | _=>none
theorem asPass1_is {b:List Stmt} {p:Pos} (h:asPass1 b=some p):b=[.Pass p]:=by
  rcases b with _ | ⟨s,_ | ⟨_,_⟩⟩
  · exact (Option.some_ne_none _ h.symm).elim
  · change (if h:s.ctorIdx=25 then PySem.Stmt.Pass.elim (motive_2:=fun _=>Option Pos) s h fun p=>some p else none)=some p at h
    by_cases q:s.ctorIdx=25
    · obtain ⟨p',rfl⟩:=pass_ex s q
      rw [Option.some.inj (h:some p'=some p)]
    · rw [dif_neg q] at h;exact (Option.some_ne_none _ h.symm).elim
  · exact (Option.some_ne_none _ h.symm).elim
noncomputable def asPassH:ExceptHandler→Option (Str × Pos × Pos × Pos)
  | .ExceptHandler t nm b hp=>bif nm.isNone then ((t.bind asName).bind fun q=>(asPass1 b).map fun pp=>(q.1,q.2,pp,hp)) else none
noncomputable def sTry (body:List Stmt) (h:ExceptHandler) (k:Ot→St→Prop) (σ:St):Prop:=match asPassH h with
  | some (n,_,_,_)=>pSs x body (fun o σ₁=>match o with
      | .exc C=>pName T sc n (fun v=>match v with | .cls D=>(match Nat.beq C D,T.exc C,sc.names.lookup n with | true,true,some .globalImplicit=>k .next σ₁ | _,_,_=>False) | _=>False) σ₁.l
      | o=>k o σ₁) σ
  | none=>False
noncomputable def stepS (st:Stmt) (k:Ot→St→Prop) (σ:St):Prop:=match st with
  | .Pass _=>k .next σ
  | .Break _=>k .brk σ
  | .Continue _=>k .cont σ
  | .Return o _=>(match o with | none=>k (.ret .none) σ | some e=>x.E e (fun v σ₁=>k (.ret v) σ₁) σ)
  | .Expr e _=>(match isComp e with | false=>x.E e (fun v σ₁=>match noRef v with | true=>k .next σ₁ | false=>False) σ | true=>False)
  | .Assign ts e _=>(match ts with | [t]=>sAssign T sc x xs t e k σ | _=>False)
  | .AugAssign t op e _=>sAug T sc x t op e k σ
  | .If t b o _=>x.T t (fun c σ₁=>match c with | true=>pSs x b k σ₁ | false=>pSs x o k σ₁) σ
  | .While t b o _=>(match onceB b with | true=>pWh x t b o k 1 σ | false=>∃ n,pWh x t b o k n σ)
  | .For tg it body orelse _=>(match orelse with | []=>sFor sc x tg it body k σ | _=>False)
  | .Assert t m _=>(match m with | none=>x.T t (fun b σ₁=>b=true∧k .next σ₁) σ | some _=>False)
  | .Raise o c _=>(match o,c with | some e,none=>sRaise T sc e k σ | _,_=>False)
  | .Try body hs oe fb _=>(match hs,oe,fb with | [h],[],[]=>sTry T sc x body h k σ | _,_,_=>False)
  | _=>False
end
noncomputable def step (T:Tabs) (C:CT) (sc:Scope) (xs:Scope→Px):Px:=⟨stepE T C sc (xs sc) xs,stepT T sc (xs sc),stepS T sc (xs sc) xs⟩
noncomputable def pxA (T:Tabs) (C:CT):Nat→Scope→Px
  | 0,_=>⟨fun _ _ _=>False,fun _ _ _=>False,fun _ _ _=>False⟩
  | n+1,sc=>step T C sc (pxA T C n)
noncomputable def px (T:Tabs) (C:CT) (sc:Scope) (n:Nat):Px:=pxA T C n sc
noncomputable def bodyK (Q:PV→Option Fs→Nat→List AO→Prop):Ot→St→Prop
  | .next,σ=>Q .none σ.S σ.g σ.H
  | .ret v,σ=>Q v σ.S σ.g σ.H
  | _,_=>False
noncomputable def pC (T:Tabs):Nat→CT
  | 0,_,_,_,_,_,_=>False
  | n+1,a,args,Q,S,g,H=>(match T.fns a with
    | none=>False
    | some F=>args.length=F.params.length∧pSs (px T (pC T n) F.scope 40) F.body (bodyK Q) ⟨F.params.zip args,S,g,H⟩)
end Mine

open PySem PySem.W PyProof.Rows PySem.Calls PySem.Builtin PySem.Builtin.Str
set_option maxRecDepth 100000
set_option Elab.async false
set_option backward.match.sparseCases false
namespace Mine
structure EnvOK (env:Env) (sc:Scope):Prop where
  kind:sc.kind=.function
  sc:env.scope=sc
  gl:env.globals=mainGlobals
  bl:env.builtins=builtinsNs
structure AOk (A:Around) (envs:List Env) (n:Nat):Prop where
  handled:A.handled=none
  frames:A.frames=some (frE envs)
  depth:A.depth+n≤recursionLimit
  units:A.units+16 * n+64 < cLine
theorem AOk.down {A:Around} {l:List Env} {n m:Nat} (a:AOk A l n) (h:m≤n):AOk A l m:=⟨a.handled,a.frames,by have:=a.depth;(exact ar_1csm h this),by have:=a.units;(exact ar_57m3 h this)⟩
structure RR (K:Frag) (base:Heap) (Gs:Array GenState) (Os:OsState) (ρ:Rho) (S:Option Fs) (g:Nat) (H:List AO) (F:List Fm) (s:Shared):Prop where
  hr:HR K base ρ S H F s.heap
  g:ρ.g=g
  gens:s.gens=Gs
  os:s.os=Os
section
variable {prog:Program} {w:World} {K:Frag} {base:Heap} {mg mb:Str→Option Value} {T:Tabs} (W:Facts prog w K base mg mb T) {Gs:Array GenState} {Os:OsState}
theorem RR.toks {ρ:Rho} {S g H F} {s:Shared} {tk:Nat} (R:RR K base Gs Os ρ S g H F s):RR K base Gs Os ρ S g H F { s with toks:=tk }:=⟨R.hr,R.g,R.gens,R.os⟩
theorem RR.keeps {ρ:Rho} {S g H F} {s:Shared} {h':Heap} {tk:Nat} (R:RR K base Gs Os ρ S g H F s) (k:∀ b o,s.heap.get? b=some o→h'.get? b=some o):RR K base Gs Os ρ S g H F { s with heap:=h',toks:=tk }:=
  ⟨R.hr.keeps k,R.g,R.gens,R.os⟩
variable (Gs Os)
variable (prog w K mg mb T)
noncomputable def SoundE (env:Env) (n:Nat) (x:Ex→EK):Prop:=
  ∀ (base:Heap),Facts prog w K base mg mb T→∀ e k σ,x e k σ→∀ (A:Around) (s:Shared) (ρ:Rho) (F:List Fm),AOk A (env::F.map Fm.env) (2 * n+1)→RR K base Gs Os ρ σ.S σ.g σ.H (⟨env,σ.l⟩::F) s→∀ (Q:Value→Shared→Prop) (E:Value→Shared→Prop),
    (∀ v s' ρ' pv σ',Ext ρ ρ'→VR K ρ' v pv→RR K base Gs Os ρ' σ'.S σ'.g σ'.H (⟨env,σ'.l⟩::F) s'→k pv σ'→Q v s')→wpAny (model prog w) A (eval e env) Q E s
noncomputable def SoundT (env:Env) (n:Nat) (x:Ex→TK):Prop:=
  ∀ (base:Heap),Facts prog w K base mg mb T→∀ e k σ,x e k σ→∀ (A:Around) (s:Shared) (ρ:Rho) (F:List Fm),AOk A (env::F.map Fm.env) (2 * n+1)→RR K base Gs Os ρ σ.S σ.g σ.H (⟨env,σ.l⟩::F) s→∀ (Q:Bool→Shared→Prop) (E:Value→Shared→Prop),
    (∀ b s' ρ' σ',Ext ρ ρ'→RR K base Gs Os ρ' σ'.S σ'.g σ'.H (⟨env,σ'.l⟩::F) s'→k b σ'→Q b s')→wpAny (model prog w) A (isTrue e env (eval e env)) Q E s
noncomputable def CallOK (n:Nat) (C:CT):Prop:=
  ∀ (base:Heap),Facts prog w K base mg mb T→∀ f args Q S g H,C f args Q S g H→∀ (A:Around) (s:Shared) (ρ:Rho) (F:List Fm) (vs:List Value),AOk A (F.map Fm.env) (2 * n)→RR K base Gs Os ρ S g H F s→AllR K ρ vs args→∀ (Rw:Result→Shared→Prop),
    (∀ v s' ρ' pv S' g' H',Ext ρ ρ'→VR K ρ' v pv→RR K base Gs Os ρ' S' g' H' F s'→Q pv S' g' H'→Rw (.ok (.ret v)) s')→codeAny (model prog w) A (.call (.ref f) ⟨vs,[]⟩) Rw s
variable {Gs Os prog w K mg mb T}
include W
theorem name_ok {env:Env} {sc:Scope} (V:EnvOK env sc) {A:Around} {s:Shared} {ρ:Rho} {S g H} {F:List Fm} {l:Fs} (R:RR K base Gs Os ρ S g H (⟨env,l⟩::F) s) {n:Str} {p:Pos} {k:PV→Prop} (h:pName T sc n k l)
    {Q:Value→Shared→Prop} {E:Value→Shared→Prop} (hq:∀ v pv,VR K ρ v pv→k pv→Q v s):wpAny (model prog w) A (eval (.Name n p) env) Q E s:=by
  unfold pName at h
  split at h
  · rename_i hd hk
    split at h
    · rename_i v hv
      exact nameLocal (f:=⟨env,l⟩) R.hr (by show env.scope.kind=_;rw [V.sc];exact V.kind) (by show env.scope.names.lookup n=_;rw [V.sc];exact hk) hd hv fun u hu=>hq u v hu h
    · exact h.elim
  · rename_i hd hk
    split at h
    · rename_i v hv
      exact nameGlobal W R.hr (by rw [V.sc];exact V.kind) (by show env.scope.names.lookup n=_;rw [V.sc];exact hk) hd V.gl V.bl hv fun u hu=>hq u v hu h
    · exact h.elim
  · exact h.elim
theorem attr_ok {A:Around} {s:Shared} {ρ:Rho} {σ:St} {F:List Fm} (R:RR K base Gs Os ρ σ.S σ.g σ.H F s) {v:PV} {vv:Value} {a:Str} {b:Bool} {k:PV→Prop} (h:pAttr T v a k σ) (hv:VR K ρ vv v)
    {Q:Value→Shared→Prop} {E:Value→Shared→Prop} (hq:∀ u pv tk,VR K ρ u pv→k pv→Q u { s with toks:=tk }):wpAny (model prog w) A (getAttr vv a b) Q E s:=by
  unfold pAttr at h
  split at h
  · rename_i g
    split at h
    · rename_i fs hg hS hf
      split at h
      · rename_i p hp
        obtain ⟨a',rfl,_,h2⟩:=hv
        have e:g=ρ.g:=(Nat.eq_of_beq_eq_true hg).trans R.g.symm
        rw [h2 e]
        have R':HR K base ρ (some fs) σ.H F s.heap:=hS▸R.hr
        exact getSelf W R' hf hp fun u tk hu=>hq u p tk hu h
      · exact h.elim
    · exact h.elim
  · split at h
    · rename_i p hp
      obtain ⟨a',rfl,hA⟩:=hv
      exact getAm W R.hr hA hp fun u tk hu=>hq u p tk hu h
    · exact h.elim
  · split at h
    · rename_i p hp
      obtain rfl:=hv
      exact getCls W R.hr hp fun u tk hu=>hq u p tk hu h
    · exact h.elim
  · exact h.elim
theorem set_ok {A:Around} {s:Shared} {ρ:Rho} {σ:St} {F:List Fm} (R:RR K base Gs Os ρ σ.S σ.g σ.H F s) {o v:PV} {ov vv:Value} {a:Str} {k:St→Prop} (h:pSet T o a v k σ) (ho:VR K ρ ov o) (hv:VR K ρ vv v)
    {Q:Unit→Shared→Prop} {E:Value→Shared→Prop} (hq:∀ s' S',RR K base Gs Os ρ S' σ.g σ.H F s'→k { σ with S:=S' }→Q () s'):wpAny (model prog w) A (setAttr ov a vv) Q E s:=by
  unfold pSet at h
  split at h
  · rename_i g
    split at h
    · rename_i fs hg hS hf
      split at h
      · rename_i hz
        obtain ⟨a',rfl,_,h2⟩:=ho
        have e:g=ρ.g:=(Nat.eq_of_beq_eq_true hg).trans R.g.symm
        rw [h2 e]
        have R':HR K base ρ (some fs) σ.H F s.heap:=hS▸R.hr
        exact setSelf W R' hf (Nat.le_of_ble_eq_true hz) hv fun h' tk hR=>hq _ _ ⟨hR,R.g,R.gens,R.os⟩ h
      · exact h.elim
    · exact h.elim
  · exact h.elim
theorem es_ok {env:Env} {n:Nat} {x:Px} (SE:SoundE prog w K mg mb T Gs Os env n x.E):∀ (l:List Ex) (k:List PV→St→Prop) (σ:St),pEs x l k σ →
    ∀ (A:Around) (s:Shared) (ρ:Rho) (F:List Fm),AOk A (env::F.map Fm.env) (2 * n+1)→RR K base Gs Os ρ σ.S σ.g σ.H (⟨env,σ.l⟩::F) s→∀ (Q:List Value→Shared→Prop) (E:Value→Shared→Prop),
    (∀ vs s' ρ' ps σ',Ext ρ ρ'→AllR K ρ' vs ps→RR K base Gs Os ρ' σ'.S σ'.g σ'.H (⟨env,σ'.l⟩::F) s'→k ps σ'→Q vs s')→wpAny (model prog w) A (spliced (argsOf l env)) Q E s
  | [],k,σ,h,A,s,ρ,F,_,R,Q,E,hq=>spliced_nil (hq [] s ρ [] σ (.refl _) trivial R h)
  | e::r,k,σ,h,A,s,ρ,F,a,R,Q,E,hq=>by
    refine spliced_cons (SE base W e _ σ h A s ρ F a R _ _ fun v s₁ ρ₁ pv σ₁ x₁ hv R₁ h₁=>?_)
    refine es_ok SE r _ σ₁ h₁ A s₁ ρ₁ F a R₁ _ _ fun vs s₂ ρ₂ ps σ₂ x₂ hvs R₂ h₂=>?_
    exact hq (v::vs) s₂ ρ₂ (pv::ps) σ₂ (x₁.trans x₂) ⟨hv.ext x₂,hvs⟩ R₂ h₂
end
end Mine

open PySem PySem.W PyProof.Rows PySem.Calls PySem.Builtin PySem.Builtin.Str
set_option maxRecDepth 100000
set_option Elab.async false
set_option backward.match.sparseCases false
namespace Mine
noncomputable abbrev lstO (ys:List Value):Obj:={ cls:=.type "list",data:=.seq ys.toArray ys.length }
theorem lstO_snoc (ys:List Value) (y:Value):({ cls:=.type "list",data:=.seq (ys.toArray.push y) (ys.length+1) }:Obj)=lstO (ys++[y]):=by
  show ({ cls:=.type "list",data:=.seq (ys.toArray.push y) (ys.length+1) }:Obj)={ cls:=.type "list",data:=.seq (ys++[y]).toArray (ys++[y]).length }
  rw [List.length_append,List.length_singleton,List.push_toArray]
theorem AllR.snoc {K:Frag} {ρ:Rho}:∀ {vs:List Value} {ps:List PV} {v:Value} {p:PV},AllR K ρ vs ps→VR K ρ v p→AllR K ρ (vs++[v]) (ps++[p])
  | [],[],_,_,_,h=>⟨h,trivial⟩
  | _::_,_::_,_,_,⟨a,b⟩,h=>⟨a,b.snoc h⟩
  | [],_::_,_,_,h,_=>h.elim
  | _::_,[],_,_,h,_=>h.elim
structure Itr (prog:Program) (w:World) (K:Frag) (base:Heap) (A:Around) (ρ₀:Rho) (I:Addr) (items:List PV) (chk:St→Prop) (It:Nat→Heap→Prop):Prop where
  own:∀ j (h h':Heap),It j h→h'.get? I=h.get? I→It j h'
  there:∀ j (h:Heap),It j h→∃ o,h.get? I=some o
  item:∀ j pv,items[j]?=some pv→∀ (s:Shared) (ρ:Rho) (σ:St) (F:List Fm),Ext ρ₀ ρ→chk σ→HR K base ρ σ.S σ.H F s.heap→It j s.heap→∀ (Q:Option Value→Shared→Prop) (E:Value→Shared→Prop),
    (∀ v h' tk,VR K ρ v pv→It (j+1) h'→Heap.ExtBut I s.heap h'→Q (some v) { s with heap:=h',toks:=tk })→wpAny (model prog w) A (pyNext (.ref I)) Q E s
  done:∀ j,items[j]?=none→∀ (s:Shared) (ρ:Rho) (σ:St) (F:List Fm),Ext ρ₀ ρ→chk σ→HR K base ρ σ.S σ.H F s.heap→It j s.heap→∀ (Q:Option Value→Shared→Prop) (E:Value→Shared→Prop),
    (∀ h',Heap.ExtBut I s.heap h'→Q none { s with heap:=h' })→wpAny (model prog w) A (pyNext (.ref I)) Q E s
  self:∀ j (s:Shared) (Q:Value→Shared→Prop) (E:Value→Shared→Prop),It j s.heap→Q (.ref I) s→wpAny (model prog w) A (pyIter (.ref I)) Q E s
inductive CInv (K:Frag) (base:Heap) (Gs:Array GenState) (Os:OsState) (cenv:Env) (F:List Fm) (Ex':Ex→EK) (elt:Ex) (y:Str) (chk:St→Prop) (kk:List PV→St→Prop) (It:Nat→Heap→Prop) (items:List PV) (I D:Addr) (ρ₀:Rho) (m:Nat) (s:Shared):Prop
  | mk (ρ':Rho) (σ':St) (j:Nat) (acc:List PV) (ys:List Value) (x₁:Ext ρ₀ ρ') (R:RR K base Gs Os ρ' σ'.S σ'.g σ'.H (⟨cenv,σ'.l⟩::F) s) (it:It j s.heap) (d:s.heap.get? D=some (lstO ys)) (al:AllR K ρ' ys acc)
    (nI:I∉soft ρ' σ'.S (⟨cenv,σ'.l⟩::F)) (nD:D∉soft ρ' σ'.S (⟨cenv,σ'.l⟩::F)) (h:pLC Ex' elt y chk kk (items.drop j) acc σ') (hy:ys.length≤j) (hj:j≤items.length) (hm:m=items.length+1 - j):CInv K base Gs Os cenv F Ex' elt y chk kk It items I D ρ₀ m s
section
variable {prog:Program} {w:World} {K:Frag} {base:Heap} {mg mb:Str→Option Value} {T:Tabs} {Gs:Array GenState} {Os:OsState} {n:Nat}
theorem comp_loop (W:Facts prog w K base mg mb T) {cenv:Env} {Ex':Ex→EK} (SE:SoundE prog w K mg mb T Gs Os cenv n Ex') (hk:cenv.scope.kind=.function) {y:Str} (hy:cenv.kindOf y=some .local)
    {A:Around} {I D:Addr} {items:List PV} {chk:St→Prop} {It:Nat→Heap→Prop} {ρ₀:Rho} (X:Itr prog w K base A ρ₀ I items chk It) {F:List Fm} (a:AOk A (cenv::F.map Fm.env) (2 * n+1))
    {elt iter:Ex} {scope:Scope} {py pos:Pos} {kk:List PV→St→Prop} {R:Result→Shared→Prop}
    (hR:∀ s' ρ' σ' acc ys,Ext ρ₀ ρ'→RR K base Gs Os ρ' σ'.S σ'.g σ'.H (⟨cenv,σ'.l⟩::F) s'→s'.heap.get? D=some (lstO ys)→AllR K ρ' ys acc→D∉soft ρ' σ'.S (⟨cenv,σ'.l⟩::F)→kk acc σ'→R (.ok .next) s')
    {σ₀:St} {s:Shared} (R₀:RR K base Gs Os ρ₀ σ₀.S σ₀.g σ₀.H (⟨cenv,σ₀.l⟩::F) s) (hI:It 0 s.heap) (hD:s.heap.get? D=some (lstO [])) (nI:I∉soft ρ₀ σ₀.S (⟨cenv,σ₀.l⟩::F)) (nD:D∉soft ρ₀ σ₀.S (⟨cenv,σ₀.l⟩::F))
    (bI:base.get? I=none) (bD:base.get? D=none) (hID:I≠D) (hsz:items.length≤3000) (h:pLC Ex' elt y chk kk items [] σ₀) :
    codeAny (model prog w) A (.compLoop (.ListComp elt [⟨.Name y py,iter,[],0⟩] scope pos) 0 (.ref I) (.ref D) cenv) R s:=by
  refine codeAny_compLoop_tests (CInv K base Gs Os cenv F Ex' elt y chk kk It items I D ρ₀) ?_ (items.length+1)
    ⟨ρ₀,σ₀,0,[],[],.refl _,R₀,hI,hD,trivial,nI,nD,h,Nat.le_refl _,Nat.zero_le _,rfl⟩
  rintro m s₁ ⟨ρ₁,σ₁,j,acc,ys,x₁,R₁,it₁,d₁,al₁,nI₁,nD₁,h₁,hyl,hj,rfl⟩
  cases hd:items.drop j with
  | nil=>
    rw [hd] at h₁
    refine X.done j (List.getElem?_eq_none_iff.mpr (List.drop_eq_nil_iff.mp hd)) s₁ ρ₁ σ₁ _ x₁ h₁.1 R₁.hr it₁ _ _ fun h₂ k₂=>?_
    exact hR _ ρ₁ σ₁ acc ys x₁ ⟨R₁.hr.other bI nI₁ k₂,R₁.g,R₁.gens,R₁.os⟩ (k₂ _ _ (Ne.symm hID) d₁) al₁ nD₁ h₁.2
  | cons v r=>
    rw [hd] at h₁
    have hlt:j < items.length:=drop_lt hd
    have hv:items[j]?=some v:=drop_at hd
    have hr:r=items.drop (j+1):=drop_next hd
    refine X.item j v hv s₁ ρ₁ σ₁ _ x₁ h₁.1 R₁.hr it₁ _ _ fun vv h₂ tk₂ hvv it₂ k₂=>?_
    have R₂:RR K base Gs Os ρ₁ σ₁.S σ₁.g σ₁.H (⟨cenv,σ₁.l⟩::F) { s₁ with heap:=h₂,toks:=tk₂ }:=⟨R₁.hr.other bI nI₁ k₂,R₁.g,R₁.gens,R₁.os⟩
    have d₂:=k₂ _ _ (Ne.symm hID) d₁
    have neI:I≠cenv.locals:=fun q=>nI₁ (q▸List.mem_append_left _ (List.mem_append_left _ (.head _)))
    have neD:D≠cenv.locals:=fun q=>nD₁ (q▸List.mem_append_left _ (List.mem_append_left _ (.head _)))
    obtain ⟨mL,nL,rL⟩:=R₂.hr.frames _ (.head _)
    refine wpAny_assign_Name (wpAny_storeName_local hy nL (fun h₃ hn₃ sb₃=>?_) (by rw [hk];rfl))
    have HR₃:=R₂.hr.setLocal (f:=⟨cenv,σ₁.l⟩) (x:=y) (pv:=v) hy nL rL hvv hn₃ sb₃
    have it₃:=X.own _ _ _ it₂ (sb₃.2 I neI)
    have d₃:h₃.get? D=some (lstO ys):=(sb₃.2 D neD).trans d₂
    refine wpAny_tests_nil ?_
    rw [if_pos rfl]
    have W₃:=W.keeps HR₃.base_in
    obtain ⟨oI,eI⟩:=X.there _ _ it₃
    have nI₃:I∉soft ρ₁ σ₁.S (⟨cenv,put y v σ₁.l⟩::F):=nI₁
    have nD₃:D∉soft ρ₁ σ₁.S (⟨cenv,put y v σ₁.l⟩::F):=nD₁
    have itb:(hideAll h₃ (soft ρ₁ σ₁.S (⟨cenv,put y v σ₁.l⟩::F))).get? I=some oI:=hideAll_get _ eI nI₃
    have itd:(hideAll h₃ (soft ρ₁ σ₁.S (⟨cenv,put y v σ₁.l⟩::F))).get? D=some (lstO ys):=hideAll_get _ d₃ nD₃
    refine SE _ W₃ elt _ { σ₁ with l:=put y v σ₁.l } h₁.2 A { s₁ with heap:=h₃,toks:=tk₂+1 } ρ₁ F a ⟨HR₃.rebase,R₂.g,R₂.gens,R₂.os⟩ _ _ fun u s₄ ρ₄ pu σ₄ x₄ hu R₄ h₄=>?_
    have R₄':RR K base Gs Os ρ₄ σ₄.S σ₄.g σ₄.H (⟨cenv,σ₄.l⟩::F) s₄:=⟨R₄.hr.back HR₃.base_in (x₄.so▸HR₃.so),R₄.g,R₄.gens,R₄.os⟩
    have nI₄:I∉soft ρ₄ σ₄.S (⟨cenv,σ₄.l⟩::F):=fun q=>by have:=R₄.hr.soft_new I q;rw [itb] at this;cases this
    have nD₄:D∉soft ρ₄ σ₄.S (⟨cenv,σ₄.l⟩::F):=fun q=>by have:=R₄.hr.soft_new D q;rw [itd] at this;cases this
    have gI₄:s₄.heap.get? I=some oI:=R₄.hr.stays _ _ itb
    have it₄:=X.own _ _ _ it₃ (gI₄.trans eI.symm)
    have d₄:s₄.heap.get? D=some (lstO ys):=R₄.hr.stays _ _ itd
    refine append_at d₄ (fun h₅ sb₅ d₅=>?_) (by rw [List.size_toArray,sizeLine_eq];(exact ar_3zoh hsz hyl hlt))
    rw [lstO_snoc] at d₅
    rw [hr] at h₄
    refine ⟨items.length+1 - (j+1),by (exact ar_6ket hlt),ρ₄,σ₄,j+1,acc++[pu],ys++[u],x₁.trans x₄,⟨R₄'.hr.other bD nD₄ sb₅.extBut,R₄'.g,R₄'.gens,R₄'.os⟩,X.own _ _ _ it₄ (sb₅.2 I hID),d₅,(al₁.ext x₄).snoc hu,nI₄,nD₄,h₄,?_,hlt,rfl⟩
    rw [List.length_append,List.length_singleton];(exact ar_3hrl hyl)
end
end Mine

open PySem PySem.W PyProof.Rows PySem.Calls PySem.Builtin PySem.Builtin.Str
set_option maxRecDepth 100000
set_option Elab.async false
set_option backward.match.sparseCases false
namespace Mine
theorem rangeL_get (a c:Int):∀ (n j:Nat),(rangeL a c n)[j]?=if j < n then some (.int (a+j * c)) else none
  | 0,j=>by simp [rangeL]
  | n+1,0=>by simp [rangeL]
  | n+1,j+1=>by
    show (rangeL (a+c) c n)[j]?=_
    rw [rangeL_get (a+c) c n j]
    by_cases h:j < n
    · rw [if_pos h,if_pos (by (exact ar_wc48 h))]
      congr 2
      push_cast
      rw [Int.add_mul,Int.one_mul];(exact ar_aj8s)
    · rw [if_neg h,if_neg (by (exact ar_majh h))]
theorem rangeL_len (a c:Int):∀ n,(rangeL a c n).length=n
  | 0=>rfl
  | n+1=>by simp [rangeL,rangeL_len (a+c) c n]
section
variable {prog:Program} {w:World} {K:Frag} {base:Heap} {mg mb:Str→Option Value} {T:Tabs} {Gs:Array GenState} {Os:OsState} {n:Nat} {A:Around}
theorem itr_range (hh:A.handled=none) (ρ₀:Rho) (I:Addr) (a c:Int) (N:Nat) :
    Itr prog w K base A ρ₀ I (rangeL a c N) (fun _=>True) (fun j h=>IsRangeIter h I (a+(j:Nat) * c) ((N:Int) - (j:Nat)) c) where
  own:=fun j h h' x e=>(show h'.get? I=_ from e).trans x
  there:=fun j h x=>⟨_,x⟩
  item:=fun j pv hj s ρ σ F _ _ _ hit Q E hq=>by
    rw [rangeL_get] at hj
    split at hj
    · cases hj
      rename_i hlt
      refine wpAny_pyNext_range_item hit (by (exact ar_xeca hlt)) fun h' hit' sb=>hq _ h' _ ⟨_,rfl⟩ ?_ sb.extBut
      have e1:a+((j+1:Nat):Int) * c=a+(j:Int) * c+c:=by push_cast;rw [Int.add_mul,Int.one_mul,Int.add_assoc]
      have e2:(N:Int) - ((j+1:Nat):Int)=(N:Int) - (j:Nat) - 1:=by (exact ar_7yv3)
      show IsRangeIter h' I (a+((j+1:Nat):Int) * c) ((N:Int) - ((j+1:Nat):Int)) c
      rw [e1,e2];exact hit'
    · cases hj
  done:=fun j hj s ρ σ F _ _ _ hit Q E hq=>by
    rw [rangeL_get] at hj
    split at hj
    · cases hj
    · rename_i hlt
      exact wpAny_pyNext_range_end hh hit (by (exact ar_5qm0 hlt)) hq
  self:=fun j s Q E hit q=>wpAny_pyIter_rangeiter hit q
theorem itr_list (hh:A.handled=none) (ρ₀:Rho) (I ax:Addr) (i:Nat) (hi:ρ₀.os[i]?=some ax) (ps:List PV) :
    Itr prog w K base A ρ₀ I ps (fun σ=>σ.H[i]?=some (.lst ps)) (fun j h=>h.IsListIter I ax j) where
  own:=fun j h h' x e=>let ⟨o,a,b⟩:=x;⟨o,e.trans a,b⟩
  there:=fun j h x=>let ⟨o,a,_⟩:=x;⟨o,a⟩
  item:=fun j pv hj s ρ σ F x chk R hit Q E hq=>by
    obtain ⟨vs,hl,ha,_⟩:=(R.objs i ax _ (x.os _ _ hi) chk).isList
    obtain ⟨v,hv,hr⟩:=ha.get hj
    exact wpAny_pyNext_list_item hit hl (by simpa using hv) fun h' hit' sb=>hq v h' s.toks hr hit' sb.extBut
  done:=fun j hj s ρ σ F x chk R hit Q E hq=>by
    obtain ⟨vs,hl,ha,e⟩:=(R.objs i ax _ (x.os _ _ hi) chk).isList
    refine wpAny_pyNext_list_end hh hit hl ?_ hq
    rw [List.getElem?_eq_none_iff] at hj
    rw [Array.getElem?_eq_none_iff];(exact ar_mtj4 hj e)
  self:=fun j s Q E hit q=>wpAny_pyIter_listiter hit q
theorem lookup_map_key {β:Type} (g:Str→β→β):∀ (l:List (Str × β)) (x:Str),(l.map fun p=>(p.1,g p.1 p.2)).lookup x=(l.lookup x).map (g x)
  | [],_=>rfl
  | (n,k)::r,x=>by
    rw [List.map_cons,List.lookup_cons,List.lookup_cons]
    cases q:x==n with
    | true=>rw [beq_iff_eq.mp q];rfl
    | false=>exact lookup_map_key g r x
noncomputable def relK (sc:Scope) (n:Str) (k:NameKind):NameKind:=if (k==.free&&sc.kind==.function&&sc.names.lookup n==some .cell) then .cell else k
theorem relabS_lookup (sc sc':Scope) (x:Str):(relabS sc sc').names.lookup x=(sc'.names.lookup x).map (relK sc x):=by
  have e:(relabS sc sc').names=sc'.names.map fun p=>(p.1,relK sc p.1 p.2):=by
    unfold relabS
    apply List.map_congr_left
    rintro ⟨n,k⟩ _
    unfold relK
    dsimp only
    split<;>rfl
  rw [e,lookup_map_key]
theorem compL_lookup (l:Fs) (x:Str):∀ (names:List (Str × NameKind)),(names.filterMap fun p=>match p.2,l.lookup p.1 with | .free,some v=>some (p.1,v) | _,_=>none).lookup x =
    if (x,NameKind.free)∈names then l.lookup x else none
  | []=>by simp
  | (n,k)::r=>by
    have ih:=compL_lookup l x r
    rw [List.filterMap_cons]
    by_cases hk:k=.free
    · subst hk
      cases hl:l.lookup n with
      | none=>
        simp only [hl]
        rw [ih]
        by_cases hx:x=n
        · subst hx
          rw [hl];split<;>split<;>rfl
        · have:((x,NameKind.free)∈(n,NameKind.free)::r)↔(x,NameKind.free)∈r:=by simp [hx]
          simp only [this]
      | some v=>
        simp only [hl]
        rw [List.lookup_cons]
        cases q:x==n with
        | true=>
          rw [beq_iff_eq.mp q,if_pos (.head _),hl]
        | false=>
          have hx:x≠n:=by intro e;rw [e] at q;simp at q
          have:((x,NameKind.free)∈(n,NameKind.free)::r)↔(x,NameKind.free)∈r:=by simp [hx]
          simp only [this]
          exact ih
    · have e:(match (n,k).2,l.lookup (n,k).1 with | .free,some v=>some ((n,k).1,v) | _,_=>none)=none:=by
        cases k<;>first | exact absurd rfl hk | rfl
      rw [e]
      have:((x,NameKind.free)∈(n,k)::r)↔(x,NameKind.free)∈r:=by
        constructor
        · intro h
          rcases List.mem_cons.mp h with h | h
          · injection h with _ h2;exact absurd h2.symm hk
          · exact h
        · exact fun h=>.tail _ h
      simp only [this]
      exact ih
theorem closure_is {scope:Scope} {env:Env} (h:∀ p∈scope.names,p.2=.free→∃ c,env.cells.lookup p.1=some c) :
    ∃ cl,closureFor scope env=pure cl∧∀ x,(x,NameKind.free)∈scope.names→cl.lookup x=env.cells.lookup x:=by
  have gen:∀ (names:List (Str × NameKind)) (acc:List (Str × Addr)),(∀ p∈names,p.2=.free→∃ c,env.cells.lookup p.1=some c)→(∀ x c,acc.lookup x=some c→env.cells.lookup x=some c) →
      ∃ cl,(forIn names acc (fun (p:Str × NameKind) (cs:List (Str × Addr))=>(if (p.2==NameKind.free)=true then (do let a ← cellOf env p.1;pure (ForInStep.yield ((p.1,a)::cs))) else pure (ForInStep.yield cs):Sem _)))=pure cl ∧
        (∀ x c,cl.lookup x=some c→env.cells.lookup x=some c)∧(∀ x,((acc.lookup x).isSome=true∨(x,NameKind.free)∈names)→(cl.lookup x).isSome=true):=by
    intro names
    induction names with
    | nil=>intro acc _ ha;exact ⟨acc,rfl,ha,fun x hx=>hx.elim id fun q=>(by cases q)⟩
    | cons p r ih=>
      obtain ⟨nm,k⟩:=p
      intro acc hn ha
      rw [List.forIn_cons]
      by_cases hk:k=.free
      · subst hk
        obtain ⟨c,hc⟩:=hn _ (.head _) rfl
        obtain ⟨cl,h1,h2,h3⟩:=ih ((nm,c)::acc) (fun p hp=>hn p (.tail _ hp)) (fun x d e=>by
          rw [List.lookup_cons] at e
          cases q:x==nm with
          | true=>rw [q] at e;cases e;rw [beq_iff_eq.mp q];exact hc
          | false=>rw [q] at e;exact ha x d e)
        refine ⟨cl,?_,h2,fun x hx=>h3 x ?_⟩
        · have e:cellOf env nm=pure c:=by unfold cellOf;rw [hc]
          simp only [beq_self_eq_true,if_true,e,pure_bind]
          exact h1
        · rw [List.lookup_cons]
          cases q:x==nm with
          | true=>exact .inl rfl
          | false=>
            rcases hx with hx | hx
            · exact .inl hx
            · rcases List.mem_cons.mp hx with hx | hx
              · injection hx with e _;rw [e] at q;simp at q
              · exact .inr hx
      · obtain ⟨cl,h1,h2,h3⟩:=ih acc (fun p hp=>hn p (.tail _ hp)) ha
        refine ⟨cl,?_,h2,fun x hx=>h3 x ?_⟩
        · have e:(k==NameKind.free)=false:=by simpa using hk
          simp only [e,Bool.false_eq_true,if_false,pure_bind]
          exact h1
        · rcases hx with hx | hx
          · exact .inl hx
          · rcases List.mem_cons.mp hx with hx | hx
            · injection hx with _ e;exact absurd e.symm hk
            · exact .inr hx
  obtain ⟨cl,h1,h2,h3⟩:=gen scope.names [] h (fun x c e=>by simp at e)
  refine ⟨cl,?_,fun x hx=>?_⟩
  · rw [← h1]
    unfold closureFor
    simp only [bind_pure]
  · obtain ⟨c,hc⟩:=Option.isSome_iff_exists.mp (h3 x (.inr hx))
    rw [hc,h2 x c hc]
end
end Mine

open PySem PySem.W PyProof.Rows PySem.Calls PySem.Builtin PySem.Builtin.Str
set_option maxRecDepth 100000
set_option Elab.async false
set_option backward.match.sparseCases false
namespace Mine
structure COk (sc sc':Scope) (y:Str) (l:Fs):Prop where
  kind:sc'.kind=.function
  cell:∀ z∈sc'.names,z.2≠.cell
  names:∀ z∈sc'.names,z.2=.local→sc'.names.lookup z.1=some .local
  here:sc'.names.lookup y=some .local
  free:∀ x,(x,NameKind.free)∈sc'.names→sc.names.lookup x=some .cell∧sc'.names.lookup x=some .free∧∃ pv,l.lookup x=some pv
theorem isLocO_is {o:Option PV} (h:isLocO o=true):∃ pv,o=some pv:=by
  cases o
  · exact (Bool.false_ne_true h).elim
  · exact ⟨_,rfl⟩
theorem not_tt {b:Bool} (h:(!b)=true):b=false:=by cases b<;>first | rfl | exact h.symm
theorem okM {b:Bool} {P:Prop} (h:match b with | true=>P | false=>False):b=true∧P:=by
  cases b
  · exact h.elim
  · exact ⟨rfl,h⟩
theorem imp_of {p q:Bool} (h:(!p||q)=true) (hp:p=true):q=true:=by rw [hp] at h;exact h
theorem compOk_is {sc sc':Scope} {y:Str} {l:Fs} (ok:compOk sc sc' y l=true):COk sc sc' y l:=by
  obtain ⟨ok,h5⟩:=Bool.and_eq_true_iff.mp ok
  obtain ⟨ok,h4⟩:=Bool.and_eq_true_iff.mp ok
  obtain ⟨ok,h3⟩:=Bool.and_eq_true_iff.mp ok
  obtain ⟨h1,h2⟩:=Bool.and_eq_true_iff.mp ok
  refine ⟨of_decide_eq_true h1,fun z hz=>of_decide_eq_false (not_tt (List.all_eq_true.mp h2 z hz)),fun z hz hl=>of_decide_eq_true (imp_of (List.all_eq_true.mp h3 z hz) (decide_eq_true hl)),of_decide_eq_true h4,fun x hx=>?_⟩
  obtain ⟨h,h8⟩:=Bool.and_eq_true_iff.mp (imp_of (List.all_eq_true.mp h5 _ hx) (decide_eq_true rfl))
  obtain ⟨h6,h7⟩:=Bool.and_eq_true_iff.mp h
  exact ⟨of_decide_eq_true h6,of_decide_eq_true h7,isLocO_is h8⟩
section
variable {prog:Program} {w:World} {K:Frag} {base:Heap} {mg mb:Str→Option Value} {T:Tabs} {Gs:Array GenState} {Os:OsState} {n:Nat} {A:Around} {env:Env} {sc:Scope}
theorem relab_is (V:EnvOK env sc) (scope:Scope):relabel scope env=relabS sc scope:=by
  unfold relabel relabS Env.kindOf
  rw [V.sc]
theorem comp_block (V:EnvOK env sc) (W:Facts prog w K base mg mb T) {xs:Scope→Px} (XS':∀ (env':Env) (sc':Scope),EnvOK env' sc'→SoundE prog w K mg mb T Gs Os env' n (xs sc').E)
    {scope:Scope} {y:Str} {σ:St} {s:Shared} {ρ:Rho} {F:List Fm} (R:RR K base Gs Os ρ σ.S σ.g σ.H (⟨env,σ.l⟩::F) s) (ok:compOk sc scope y σ.l=true) (a:AOk A (env::F.map Fm.env) (2 * n+1))
    {cl:List (Str × Addr)} (hcl:∀ x,(x,NameKind.free)∈scope.names→cl.lookup x=env.cells.lookup x)
    {I:Addr} {items:List PV} {chk:St→Prop} {It:Nat→Heap→Prop} (X:Itr prog w K base A ρ I items chk It) (hI:It 0 s.heap) (nI:I∉soft ρ σ.S (⟨env,σ.l⟩::F)) (bI:base.get? I=none) (ltI:I < s.heap.objs.size) (hsz:items.length≤3000)
    {elt iter:Ex} {py pos:Pos} {kk:PV→St→Prop} (h:pLC (xs (relabS sc scope)).E elt y chk (fun acc σ₂=>kk (.loc σ₂.H.length) ⟨σ.l,σ₂.S,σ₂.g,σ₂.H++[.lst acc]⟩) items [] ⟨compL scope σ.l,σ.S,σ.g,σ.H⟩)
    {RRp:Value→Addr→Result→Shared→Prop} {E:Value→Shared→Prop}
    (fin:∀ s' ρ' D C pv σ',Ext ρ ρ'→RR K base Gs Os ρ' σ'.S σ'.g σ'.H (⟨env,σ'.l⟩::F) s'→VR K ρ' (.ref D) pv→C∉soft ρ' σ'.S (⟨env,σ'.l⟩::F)→base.get? C=none→(∃ m,s'.heap.Ns C m)→kk pv σ'→RRp (.ref D) C (.ok .next) s') :
    wpAny (model prog w) A (newList []) (fun acc s₃=>wpAny (model prog w) A (newFunctionEnv scope env.globals cl [] env.qual none .none (some env)) (fun cenv s₄=>
      codeAny (model prog w) A (.compStart (.ListComp elt [⟨.Name y py,iter,[],0⟩] scope pos) 0 (.ref I) acc { cenv with scope:=relabel scope env }) (RRp acc cenv.locals) s₄) E s₃) E s:=by
  obtain ⟨hkind,hcell',hnames,hx,hfree'⟩:=compOk_is ok
  refine wpAny_newObj_type (wpAny_newFunctionEnv hcell' (by intro y hy;simp at hy) (fun h₁ hns₁ hsb₁=>?_) hkind)
  dsimp only at hns₁ hsb₁ ⊢
  generalize hH2:s.heap.push { cls:=.type "list",dict:=none,data:=.seq ([]:List Value).toArray }=H2 at hns₁ hsb₁ ⊢
  have hC:H2.objs.size=s.heap.objs.size+1:=by rw [← hH2,Heap.size_push]
  generalize hCe:H2.objs.size=C at hns₁ hsb₁ hC ⊢
  generalize hDe:s.heap.objs.size=D at hC ⊢
  have hDC:D≠C:=by (exact ar_ov4j hC)
  have hDle:s.heap.objs.size≤D:=Nat.le_of_eq hDe
  have hCle:s.heap.objs.size≤C:=by rw [hC,hDe];exact Nat.le_succ _
  have old:∀ b o,s.heap.get? b=some o→h₁.get? b=some o:=fun b o e=>hsb₁.extBut b o (Nat.ne_of_lt (by rw [hC,← hDe];exact Nat.lt_succ_of_lt (Heap.lt_size e))) (Heap.get?_push_of_some _ (hH2▸Heap.get?_push_of_some _ e))
  have hacc0:H2.get? s.heap.objs.size=some (lstO []):=hH2▸Heap.get?_push_size _ rfl
  rw [hDe] at hacc0
  have hacc:h₁.get? D=some (lstO []):=hsb₁.extBut _ _ hDC (Heap.get?_push_of_some _ hacc0)
  have bD:base.get? D=none:=fresh_base R.hr.stays (by (exact hDle))
  have nD₀:D∉soft ρ σ.S (⟨env,σ.l⟩::F):=fun q=>absurd (R.hr.soft_lt _ q) (Nat.not_lt.mpr hDle)
  have nC₀:C∉soft ρ σ.S (⟨env,σ.l⟩::F):=fun q=>absurd (R.hr.soft_lt _ q) (Nat.not_lt.mpr hCle)
  have hce:({ (newEnv scope C env.globals cl env.qual none .none (some env) env.builtins:Env) with scope:=relabel scope env }:Env)=compEnvC scope cl C env:=rfl
  have Vc:EnvOK (compEnvC scope cl C env) (relabS sc scope):=⟨by show scope.kind=_;exact hkind,relab_is V scope,V.gl,V.bl⟩
  have hfs:∀ L,(compEnvC scope cl C env).frame=some L→L=(compEnvC scope cl C env).locals∨L∈(⟨env,σ.l⟩::F:List Fm).map (·.env.locals):=by
    intro L e
    have e':env.frame=some L:=e
    rcases R.hr.frs.1 L e' with q | q
    · right;rw [q];exact .head _
    · right;rw [List.map_map] at q;exact .tail _ q
  have hnf:isFr (compEnvC scope cl C env)=false:=by
    cases q:isFr (compEnvC scope cl C env) with
    | false=>rfl
    | true=>
      have e:env.frame=some C:=isFr_is q
      have:C < s.heap.objs.size:=by
        rcases R.hr.frs.1 C e with z | z
        · have:=R.hr.frLt (f:=⟨env,σ.l⟩) (.head _)
          have z':C=env.locals:=z
          rw [z'];exact this
        · rw [List.map_map] at z
          obtain ⟨g,hg,e⟩:=List.mem_map.mp z
          have:=R.hr.frLt (f:=g) (.tail _ hg)
          have e':g.env.locals=C:=e
          rwa [e'] at this
      (exact (ar_no6t hDe hC this).elim)
  have kcell:∀ x,(compEnvC scope cl C env).kindOf x=some .cell↔(x,NameKind.free)∈scope.names:=by
    intro x
    have e:(compEnvC scope cl C env).kindOf x=(relabS sc scope).names.lookup x:=by
      show (relabel scope env).names.lookup x=_
      rw [relab_is V]
    rw [e,relabS_lookup]
    constructor
    · intro q
      obtain ⟨k,hk,hr⟩:=Option.map_eq_some_iff.mp q
      have hm:=mem_of_lookup hk
      unfold relK at hr
      split at hr
      · rename_i hc
        simp only [Bool.and_eq_true,beq_iff_eq] at hc
        rw [hc.1.1] at hm;exact hm
      · rw [hr] at hm;exact absurd rfl (hcell' _ hm)
    · intro q
      obtain ⟨a1,a2,_⟩:=hfree' x q
      rw [a2,Option.map_some]
      unfold relK
      rw [a1,V.kind]
      simp
  have mp:MapR K ρ (stor (compEnvC scope cl C env) fun x=>([]:List (Str × Value)).reverse.lookup x) (compL scope σ.l):=by
    obtain ⟨mL,nL,rL⟩:=R.hr.frames _ (.head _)
    intro x
    have hl:(compL scope σ.l).lookup x=if (x,NameKind.free)∈scope.names then σ.l.lookup x else none:=compL_lookup σ.l x scope.names
    rw [hl]
    unfold stor
    by_cases q:(x,NameKind.free)∈scope.names
    · rw [if_pos q,if_pos ((kcell x).mpr q)]
      obtain ⟨a1,a2,pv,hpv⟩:=hfree' x q
      have e:(compEnvC scope cl C env).cells.lookup x=env.cells.lookup x:=hcl x q
      rw [e]
      have ek:env.kindOf x=some .cell:=by show env.scope.names.lookup x=_;rw [V.sc];exact a1
      have:=rL x
      unfold stor at this
      rw [if_pos ek] at this
      exact this
    · rw [if_neg q,if_neg (fun z=>q ((kcell x).mp z))]
      exact ⟨fun _=>by simp,fun pv z=>by cases z⟩
  have Re:=R.hr.enter (h':=h₁) (env:=compEnvC scope cl C env) (l:=compL scope σ.l) old hns₁ mp (by show s.heap.objs.size≤C;(exact hCle)) (fun q=>by rw [hnf] at q;cases q) hfs
  have a':AOk A (compEnvC scope cl C env::(⟨env,σ.l⟩::F:List Fm).map Fm.env) (2 * n+1):=by
    refine ⟨a.handled,?_,a.depth,a.units⟩
    rw [a.frames]
    congr 1
    show frE (env::F.map Fm.env)=frE (_::env::F.map Fm.env)
    conv=>rhs;unfold frE
    rw [List.filter_cons_of_neg (by rw [hnf];decide)]
    rfl
  have sub:∀ {ρ':Rho} {S l'} {b:Addr},b∉soft ρ' S (⟨compEnvC scope cl C env,l'⟩::⟨env,σ.l⟩::F)→b≠C∧b∉soft ρ' S (⟨env,σ.l⟩::F):=by
    intro ρ' S l' b hb
    refine ⟨fun q=>hb (by rw [q];exact List.mem_append_left _ (List.mem_append_left _ (.head _))),fun q=>hb ?_⟩
    unfold soft at q ⊢
    rcases List.mem_append.mp q with q | q
    · rcases List.mem_append.mp q with q | q
      · exact List.mem_append_left _ (List.mem_append_left _ (.tail _ q))
      · exact List.mem_append_left _ (List.mem_append_right _ q)
    · exact List.mem_append_right _ q
  have sup:∀ {S l'} {b:Addr},b≠C→b∉soft ρ S (⟨env,σ.l⟩::F)→b∉soft ρ S (⟨compEnvC scope cl C env,l'⟩::⟨env,σ.l⟩::F):=by
    intro S l' b h1 h2 q
    unfold soft at q h2
    rcases List.mem_append.mp q with q | q
    · rcases List.mem_append.mp q with q | q
      · rw [List.map_cons] at q
        rcases List.mem_cons.mp q with q | q
        · exact h1 q
        · exact h2 (List.mem_append_left _ (List.mem_append_left _ q))
      · exact h2 (List.mem_append_left _ (List.mem_append_right _ q))
    · exact h2 (List.mem_append_right _ q)
  have hI₁:It 0 h₁:=by
    obtain ⟨o,e⟩:=X.there _ _ hI
    exact X.own _ _ _ hI ((old _ _ e).trans e.symm)
  have loop:∀ s₃:Shared,s₃={ s with heap:=h₁,toks:=s.toks+([]:List (Str × Value)).length } →
      codeAny (model prog w) A (.compLoop (.ListComp elt [⟨.Name y py,iter,[],0⟩] scope pos) 0 (.ref I) (.ref D) (compEnvC scope cl C env)) (RRp (.ref D) C) s₃:=by
    rintro s₃ rfl
    refine comp_loop (F:=⟨env,σ.l⟩::F) W (XS' _ _ Vc) (by show scope.kind=_;exact hkind) (lookup_relabel_local hx) X a' (fun s' ρ' σ' acc ys x' R' d' al' nD' hk'=>?_) (σ₀:=⟨compL scope σ.l,σ.S,σ.g,σ.H⟩) ⟨Re,R.g,R.gens,R.os⟩ hI₁ hacc
      (sup (Nat.ne_of_lt (Nat.lt_of_lt_of_le ltI hCle)) nI) (sup hDC nD₀) bI bD (Nat.ne_of_lt (Nat.lt_of_lt_of_le ltI hDle)) hsz h
    have Rl:=R'.hr.leave
    obtain ⟨n1,n2⟩:=sub nD'
    have Ra:=Rl.add bD n2 (ao:=.lst acc) ⟨_,_,_,d',rfl,rfl,by simpa using al'⟩
    have xa:Ext ρ' { ρ' with os:=ρ'.os++[D] }:=HR.mkExt ρ' D
    refine fin s' { ρ' with os:=ρ'.os++[D] } D C (.loc σ'.H.length) ⟨σ.l,σ'.S,σ'.g,σ'.H++[.lst acc]⟩ (x'.trans xa) ⟨Ra,R'.g,R'.gens,R'.os⟩ ?_ ?_ (R'.hr.newF _ (.head _)) ?_ hk'
    · exact ⟨D,by show (ρ'.os++[D])[σ'.H.length]?=_;rw [← R'.hr.len];simp,rfl⟩
    · intro q
      unfold soft at q
      rcases List.mem_append.mp q with q | q
      · rcases List.mem_append.mp q with q | q
        · exact (List.nodup_cons.mp R'.hr.apart.1).1 q
        · cases hS:σ'.S with
          | none=>dsimp only at q;rw [hS] at q;cases q
          | some fs=>
            dsimp only at q
            rw [hS] at q
            obtain ⟨⟨o,m1,z1,z2,z4,z5,z6,z7⟩,b1,b2,b3,b4⟩:=R'.hr.stem fs hS
            rcases List.mem_cons.mp q with q | q
            · exact b3 (q▸.head _)
            · rw [List.mem_singleton] at q
              obtain ⟨m,hn,_⟩:=R'.hr.frames _ (.head _)
              obtain ⟨o1,es,ep,f1,f2,_⟩:=hn
              have f1':s'.heap.get? C=some o1:=f1
              rw [q,z1] at f1';cases f1'
              rw [z4] at f2;cases f2
      · have q':C∈ρ'.os++[D]:=q
        rcases List.mem_append.mp q' with q | q
        · exact R'.hr.apart.2.2 C q (.head _)
        · have z:C=D:=by simpa using q
          exact hDC z.symm
    · obtain ⟨m,hn,_⟩:=R'.hr.frames _ (.head _)
      exact ⟨m,hn⟩
  refine codeAny_compStart_list (loop _ rfl) (X.self 0 _ _ _ hI₁ (loop _ rfl))
end
end Mine

open PySem PySem.W PyProof.Rows PySem.Calls PySem.Builtin PySem.Builtin.Str
set_option maxRecDepth 100000
set_option Elab.async false
set_option backward.match.sparseCases false
namespace Mine
theorem small_four {a b:Int} (ha:-4000≤a) (ha':a≤4000) (hb:-4000≤b) (hb':b≤4000):Builtin.Range.small a b 4=true:=by
  unfold Builtin.Range.small Builtin.Range.rangeSize
  simp only [Builtin.Range.rangeFitsLong,Bool.and_eq_true,Bool.or_eq_true,decide_eq_true_eq,beq_iff_eq,show ((4:Int) > 0) by decide,if_true]
  split<;>(first | exact ar_nhn8 ha ha' hb hb' | exact ar_nq3t ha ha' hb hb')
theorem size_four (a b:Int):Builtin.Range.rangeSize a b 4=((((b - a+3) / 4).toNat:Nat):Int):=by
  unfold Builtin.Range.rangeSize
  simp only [show ((4:Int) > 0) by decide,if_true]
  split<;>(first | exact ar_kkrr (by assumption) | exact ar_sxym (by assumption))
theorem size_one' (a b:Int):Builtin.Range.rangeSize a b 1=(rangeN a b 1:Nat):=by
  rw [rangeSize_one];unfold rangeN;rw [if_pos rfl];split<;>(first | exact ar_qnmr (by assumption) | exact ar_4h2p (by assumption))
theorem AllR3' {K:Frag} {ρ:Rho} {vs:List Value} {p q r:PV} (h:AllR K ρ vs [p,q,r]):∃ v u u',vs=[v,u,u']∧VR K ρ v p∧VR K ρ u q∧VR K ρ u' r:=by
  cases vs with
  | nil=>exact h.elim
  | cons v r=>
    obtain ⟨u,u',rfl,hu⟩:=AllR2 h.2
    exact ⟨v,u,u',rfl,h.1,hu⟩
section
variable {prog:Program} {w:World} {K:Frag} {base:Heap} {mg mb:Str→Option Value} {T:Tabs} {Gs:Array GenState} {Os:OsState} {n:Nat} {A:Around} {env:Env} {sc:Scope} {x:Px} {xs:Scope→Px}
theorem range_make {s:Shared} {ρ:Rho} {vs:List Value} {ps:List PV} {k:List PV→Prop} {Q:Value→Shared→Prop} {E:Value→Shared→Prop} (h:pRange ps k) (hv:AllR K ρ vs ps)
    (hq:∀ s₁ r a b c t u v N,(∃ h' tk,s₁={ s with heap:=h',toks:=tk }∧∀ b o,s.heap.get? b=some o→h'.get? b=some o)→IsRange s₁.heap r a b c t u v→Builtin.Range.small a b c=true→Builtin.Range.rangeSize a b c=((N:Nat):Int)→k (rangeL a c N)→Q (.ref r) s₁) :
    wpAny (model prog w) A (call (.type "range") vs) Q E s:=by
  have kp:∀ (o:Obj) (b:Addr) (o':Obj),s.heap.get? b=some o'→(s.heap.push o).get? b=some o':=fun o b o' e=>Heap.get?_push_of_some _ e
  unfold pRange at h
  split at h
  · obtain ⟨b,rfl,hb,hk⟩:=numP_is h
    obtain ⟨v,rfl,t,rfl⟩:=AllR1 hv
    exact call_range_1 (hq _ _ _ _ _ _ _ _ _ ⟨_,_,rfl,kp _⟩ (IsRange.new ..) (small_one (by (exact ar_8h8t)) (by (exact ar_wqu4)) (by (exact ar_aea8 hb.1)) (by (exact ar_k6ss hb.2))) (size_one' _ _) hk)
  · obtain ⟨a,b,rfl,rfl,⟨b1,b2,b3,b4⟩,hk⟩:=numPP_is h
    obtain ⟨v,u,rfl,⟨t,rfl⟩,⟨t',rfl⟩⟩:=AllR2 hv
    exact call_range_2 (hq _ _ _ _ _ _ _ _ _ ⟨_,_,rfl,kp _⟩ (IsRange.new ..) (small_one (by (exact ar_aea8 b1)) (by (exact ar_k6ss b2)) (by (exact ar_aea8 b3)) (by (exact ar_k6ss b4))) (size_one' _ _) hk)
  · obtain ⟨a,b,rfl,rfl,h1⟩:=numPP_is h
    obtain ⟨c,rfl,rfl,⟨b1,b2,b3,b4⟩,hk⟩:=numP_is h1
    obtain ⟨v,u,u',rfl,⟨t,rfl⟩,⟨t',rfl⟩,⟨t'',rfl⟩⟩:=AllR3' hv
    exact call_range_3 (by decide) (hq _ _ _ _ _ _ _ _ _ ⟨_,_,rfl,kp _⟩ (IsRange.new ..) (small_four b1 b2 b3 b4) (size_four _ _) hk) (.inl (PyProof.noPylong_small (by decide)))
  · exact h.elim
theorem src_eval (W:Facts prog w K base mg mb T) (SE:SoundE prog w K mg mb T Gs Os env n x.E) {iter:Ex} {go:(St→Prop)→List PV→St→Prop} {σ:St} (h:pSrc x iter go σ) {s:Shared} {ρ:Rho} {F:List Fm} (a:AOk A (env::F.map Fm.env) (2 * n+1)) (R:RR K base Gs Os ρ σ.S σ.g σ.H (⟨env,σ.l⟩::F) s)
    {Q:Value→Shared→Prop} {E:Value→Shared→Prop} (live:∀ v vv s₁ ρ₁ σ₁,Ext ρ ρ₁→VR K ρ₁ vv v→RR K base Gs Os ρ₁ σ₁.S σ₁.g σ₁.H (⟨env,σ₁.l⟩::F) s₁→pLive go v σ₁→Q vv s₁)
    (rng:∀ s₂ ρ₂ σ₂ h' tk r a b c t u v N,Ext ρ ρ₂→RR K base Gs Os ρ₂ σ₂.S σ₂.g σ₂.H (⟨env,σ₂.l⟩::F) s₂→(∀ b o,s₂.heap.get? b=some o→h'.get? b=some o)→IsRange h' r a b c t u v→Builtin.Range.small a b c=true→Builtin.Range.rangeSize a b c=((N:Nat):Int) →
      go (fun _=>True) (rangeL a c N) σ₂→Q (.ref r) { s₂ with heap:=h',toks:=tk }):wpAny (model prog w) A (eval iter env) Q E s:=by
  rcases pSrc_is h with ⟨f,args,kws,cp,rfl,h'⟩ | ⟨_,h'⟩
  · obtain ⟨rn,rp,rfl,rfl,hs,h'⟩:=pSrcR_is h'
    refine callName hs (SE base W _ _ σ h' A s ρ F a R _ _ fun fv s₁ ρ₁ pf σ₁ x₁ hfv R₁ h₁=>?_)
    obtain ⟨rfl,h₁⟩:=rangeP_is h₁
    obtain rfl:=hfv
    refine callW_typ (es_ok W SE _ _ σ₁ h₁ A s₁ ρ₁ F a R₁ _ _ fun vs s₂ ρ₂ ps σ₂ x₂ hvs R₂ h₂=>?_)
    show wpAny _ _ (call (.type "range") vs) _ _ _
    refine range_make h₂ hvs fun s₃ r a₀ b₀ c₀ t u v N hs₃ hr hsm hN hk=>?_
    obtain ⟨h',tk,rfl,kp⟩:=hs₃
    exact rng s₂ ρ₂ σ₂ h' tk r a₀ b₀ c₀ t u v N (x₁.trans x₂) R₂ kp hr hsm hN hk
  · exact SE base W _ _ σ h' A s ρ F a R _ _ fun v s₁ ρ₁ pv σ₁ x₁ hv R₁ h₁=>live pv v s₁ ρ₁ σ₁ x₁ hv R₁ h₁
theorem comp_cl (V:EnvOK env sc) {scope:Scope} {y:Str} {σ:St} {s:Shared} {ρ:Rho} {F:List Fm} (R:RR K base Gs Os ρ σ.S σ.g σ.H (⟨env,σ.l⟩::F) s) (o:COk sc scope y σ.l) :
    ∃ cl,closureFor scope env=pure cl∧∀ x,(x,NameKind.free)∈scope.names→cl.lookup x=env.cells.lookup x:=by
  obtain ⟨mL,nL,rL⟩:=R.hr.frames _ (.head _)
  refine closure_is fun p hp hk=>?_
  obtain ⟨a1,_,pv,q⟩:=o.free p.1 (hk▸hp)
  obtain ⟨v,e,_⟩:=(rL p.1).2 pv q
  have ek:env.kindOf p.1=some .cell:=by show env.scope.names.lookup p.1=_;rw [V.sc];exact a1
  unfold stor at e
  rw [if_pos ek] at e
  obtain ⟨c,e1,_⟩:=Option.map_eq_some_iff.mp e
  exact ⟨c,e1⟩
theorem pComp_is {elt iter:Ex} {y:Str} {sc':Scope} {k:PV→St→Prop} {σ:St} (h:pComp sc x xs elt y iter sc' k σ):COk sc sc' y σ.l∧pSrc x iter (fun chk items σ₁=>match compOk sc sc' y σ₁.l with
    | true=>items.length≤3000∧pLC (xs (relabS sc sc')).E elt y chk (fun acc σ₂=>k (.loc σ₂.H.length) ⟨σ₁.l,σ₂.S,σ₂.g,σ₂.H++[.lst acc]⟩) items [] ⟨compL sc' σ₁.l,σ₁.S,σ₁.g,σ₁.H⟩
    | false=>False) σ:=(okM h).imp_left compOk_is
theorem comp_any (V:EnvOK env sc) (W:Facts prog w K base mg mb T) (SE:SoundE prog w K mg mb T Gs Os env n x.E) (XS':∀ (env':Env) (sc':Scope),EnvOK env' sc'→SoundE prog w K mg mb T Gs Os env' n (xs sc').E)
    {scope:Scope} {y:Str} {σ:St} {s:Shared} {ρ:Rho} {F:List Fm} (R:RR K base Gs Os ρ σ.S σ.g σ.H (⟨env,σ.l⟩::F) s) (a:AOk A (env::F.map Fm.env) (2 * n+1))
    {elt iter:Ex} {py pos:Pos} {kk:PV→St→Prop} (h:pComp sc x xs elt y iter scope kk σ) :
    ∃ cl,closureFor scope env=pure cl∧scope.kind=.function∧(∀ z∈scope.names,z.2=.local→scope.names.lookup z.1=some .local)∧∀ {RRp:Value→Addr→Result→Shared→Prop} {E:Value→Shared→Prop},
    (∀ s' ρ' D C pv σ',Ext ρ ρ'→RR K base Gs Os ρ' σ'.S σ'.g σ'.H (⟨env,σ'.l⟩::F) s'→VR K ρ' (.ref D) pv→C∉soft ρ' σ'.S (⟨env,σ'.l⟩::F)→base.get? C=none→(∃ m,s'.heap.Ns C m)→kk pv σ'→RRp (.ref D) C (.ok .next) s') →
    wpAny (model prog w) A (eval iter env) (fun xv s₁=>wpAny (model prog w) A (pyIter xv) (fun it s₂=>wpAny (model prog w) A (newList []) (fun acc s₃=>wpAny (model prog w) A (newFunctionEnv scope env.globals cl [] env.qual none .none (some env)) (fun cenv s₄=>
      codeAny (model prog w) A (.compStart (.ListComp elt [⟨.Name y py,iter,[],0⟩] scope pos) 0 it acc { cenv with scope:=relabel scope env }) (RRp acc cenv.locals) s₄) E s₃) E s₂) E s₁) E s:=by
  obtain ⟨o,h⟩:=pComp_is h
  obtain ⟨cl,hcl,hlk⟩:=comp_cl V R o
  refine ⟨cl,hcl,o.kind,o.names,fun {RRp E} fin=>src_eval W SE h a R (fun v vv s₁ ρ₁ σ₁ x₁ hv R₁ h₁=>?_) fun s₂ ρ₂ σ₂ h' tk r a₀ b₀ c₀ t u v N x₂ R₂ kp hr hsm hN hk=>?_⟩
  · obtain ⟨i,ps,rfl,hps,h₁⟩:=pLive_is h₁
    obtain ⟨ok₁,h₁⟩:=okM h₁
    obtain ⟨ax,hax,rfl⟩:=hv
    obtain ⟨vs,hl,ha,_⟩:=(R₁.hr.objs i ax _ hax hps).isList
    refine wpAny_pyIter_list hl ?_
    exact comp_block V W XS' (σ:=σ₁) (ρ:=ρ₁) (s:={ s₁ with heap:=s₁.heap.push { cls:=.type "list_iterator",data:=.fields #[.ref ax,.int 0 0] } }) ⟨R₁.hr.keeps fun b o e=>Heap.get?_push_of_some _ e,R₁.g,R₁.gens,R₁.os⟩ ok₁ a hlk (itr_list a.handled ρ₁ s₁.heap.objs.size ax i hax ps) ⟨_,Heap.get?_push_size _ rfl,rfl,rfl⟩
      (fun q=>absurd (R₁.hr.soft_lt _ q) (Nat.lt_irrefl _)) (fresh_base R₁.hr.stays (Nat.le_refl _)) (by show _ < (s₁.heap.push _).objs.size;rw [Heap.size_push];exact Nat.lt_succ_self _) h₁.1 h₁.2
      fun s' ρ' D C pv σ' x'=>fin s' ρ' D C pv σ' (x₁.trans x')
  · replace hk:=okM hk
    refine wpAny_pyIter_range hr hsm ?_
    have R₃:=R₂.hr.keeps kp
    exact comp_block V W XS' (σ:=σ₂) (ρ:=ρ₂) (s:={ s₂ with heap:=h'.push { cls:=.type "range_iterator",data:=.fields #[rawInt a₀,rawInt (Builtin.Range.rangeSize a₀ b₀ c₀),rawInt c₀] },toks:=tk }) ⟨R₂.hr.keeps fun b o e=>Heap.get?_push_of_some _ (kp _ _ e),R₂.g,R₂.gens,R₂.os⟩ hk.1 a hlk (itr_range a.handled ρ₂ h'.objs.size a₀ c₀ N)
      (by show (h'.push _).get? h'.objs.size=_;rw [hN];simpa using Heap.get?_push_size _ rfl)
      (fun q=>absurd (R₃.soft_lt _ q) (Nat.lt_irrefl _)) (fresh_base R₃.stays (Nat.le_refl _)) (by show _ < (h'.push _).objs.size;rw [Heap.size_push];exact Nat.lt_succ_self _) hk.2.1 hk.2.2
      fun s' ρ' D C pv σ' x'=>fin s' ρ' D C pv σ' (x₂.trans x')
theorem pSrc_folded {iter:Ex} {go:(St→Prop)→List PV→St→Prop} {σ:St} (h:pSrc x iter go σ) (v:Value):foldedSetIterable iter env v=pure v:=by
  rcases pSrc_is h with ⟨f,args,kws,cp,rfl,_⟩ | ⟨⟨_,_,rfl⟩ | ⟨_,_,_,rfl⟩,_⟩<;>rfl
theorem pComp_folded {elt iter:Ex} {y:Str} {scope:Scope} {kk:PV→St→Prop} {σ:St} (h:pComp sc x xs elt y iter scope kk σ) (v:Value):foldedSetIterable iter env v=pure v:=by
  exact pSrc_folded (pComp_is h).2 v
theorem comp_eval (V:EnvOK env sc) (W:Facts prog w K base mg mb T) (SE:SoundE prog w K mg mb T Gs Os env n x.E) (XS':∀ (env':Env) (sc':Scope),EnvOK env' sc'→SoundE prog w K mg mb T Gs Os env' n (xs sc').E)
    {scope:Scope} {y:Str} {σ:St} {s:Shared} {ρ:Rho} {F:List Fm} (R:RR K base Gs Os ρ σ.S σ.g σ.H (⟨env,σ.l⟩::F) s) (a:AOk A (env::F.map Fm.env) (2 * n+1))
    {elt iter:Ex} {py pos:Pos} {kk:PV→St→Prop} (h:pComp sc x xs elt y iter scope kk σ) {Q:Value→Shared→Prop} {E:Value→Shared→Prop}
    (hq:∀ v s' ρ' pv σ',Ext ρ ρ'→VR K ρ' v pv→RR K base Gs Os ρ' σ'.S σ'.g σ'.H (⟨env,σ'.l⟩::F) s'→kk pv σ'→Q v s') :
    wpAny (model prog w) A (eval (.ListComp elt [⟨.Name y py,iter,[],0⟩] scope pos) env) Q E s:=by
  have hf:∀ v,foldedSetIterable iter env v=pure v:=pComp_folded h
  obtain ⟨cl,h1,h2,h3,h4⟩:=comp_any (py:=py) (pos:=pos) V W SE XS' R a h
  rw [eval_ListComp]
  refine wpAny_comprehension_free (use:=none) rfl hf h1 h2 h3 (h4 (RRp:=fun acc C=>compPost (model prog w) A E none Q acc C) ?_)
  intro s' ρ' D C pv σ' x' R' hv nC bC hns hk
  obtain ⟨m,hn⟩:=hns
  exact ⟨m,hn,fun h'' sb=>hq _ _ ρ' pv σ' x' hv ⟨R'.hr.other bC nC sb.extBut,R'.g,R'.gens,R'.os⟩ hk⟩
theorem comp_assign (V:EnvOK env sc) (W:Facts prog w K base mg mb T) (SE:SoundE prog w K mg mb T Gs Os env n x.E) (XS':∀ (env':Env) (sc':Scope),EnvOK env' sc'→SoundE prog w K mg mb T Gs Os env' n (xs sc').E)
    {scope:Scope} {y z:Str} {σ:St} {s:Shared} {ρ:Rho} {F:List Fm} (R:RR K base Gs Os ρ σ.S σ.g σ.H (⟨env,σ.l⟩::F) s) (a:AOk A (env::F.map Fm.env) (2 * n+1))
    {elt iter:Ex} {py pos np spos:Pos} {kk:PV→St→Prop} (h:pComp sc x xs elt y iter scope kk σ) (sw:swapOk sc z np scope pos=true) {Q:Flow→Shared→Prop} {E:Value→Shared→Prop}
    (hq:∀ s' ρ' pv σ',Ext ρ ρ'→RR K base Gs Os ρ' σ'.S σ'.g σ'.H (⟨env,put z pv σ'.l⟩::F) s'→kk pv σ'→Q .next s') :
    wpAny (model prog w) A (exec (.Assign [.Name z np] (.ListComp elt [⟨.Name y py,iter,[],0⟩] scope pos) spos) env) Q E s:=by
  have hf:∀ v,foldedSetIterable iter env v=pure v:=pComp_folded h
  unfold swapOk at sw
  simp only [Bool.and_eq_true] at sw
  obtain ⟨⟨s1,s2⟩,s3⟩:=sw
  have hz:env.kindOf z=some .local:=by
    show env.scope.names.lookup z=_
    rw [V.sc]
    unfold isLocal at s1
    split at s1
    · assumption
    · cases s1
  have hsw:swapsWith (.ListComp elt [⟨.Name y py,iter,[],0⟩] scope pos) (some (.Name z np)) spos.line env=pure true:=by
    have hb:env.blockKind=.function:=by
      unfold Env.blockKind
      rw [V.sc,V.kind];rfl
    show (pure (env.blockKind==.function&&env.kindOf z==some .local&&np.line==pos.line&&!(scope.names.any fun (n,k)=>n==z&&(k==.local||k==.cell))):Sem Bool)=pure true
    rw [hb,hz,s2,s3]
    rfl
  obtain ⟨cl,h1,h2,h3,h4⟩:=comp_any (py:=py) (pos:=pos) V W SE XS' R a h
  rw [exec_Assign_Name_used _ _ _ _ hsw]
  refine wpAny_bind (wpAny_standAt (wpAny_bind ?_))
  show wpAny _ A (do let _ ← comprehension (.ListComp elt [⟨.Name y py,iter,[],0⟩] scope pos) scope env _ (newList []) false (eval iter env) (some (assign (.Name z np) env))) _ _ s
  refine wpAny_bind (wpAny_mono (wpAny_comprehension_free (use:=some (assign (.Name z np) env)) (Q:=fun _ s'=>Q .next s') rfl hf h1 h2 h3
    (h4 (RRp:=fun acc C=>compPost (model prog w) A E (some (assign (.Name z np) env)) (fun _ s'=>Q .next s') acc C) ?_)) (fun _ s' hq=>wpAny_pure (wpAny_pure hq)) fun _ _ e=>e)
  intro s' ρ' D C pv σ' x' R' hv nC bC hns hk
  obtain ⟨m,hn⟩:=hns
  show wpAny _ A (assign (.Name z np) env (.ref D)) _ _ _
  obtain ⟨mL,nL,rL⟩:=R'.hr.frames _ (.head _)
  refine wpAny_assign_Name (wpAny_storeName_local hz nL (fun h₂ hn₂ hs₂=>?_) (by rw [V.sc,V.kind];rfl))
  have hCL:C≠env.locals:=fun q=>nC (q▸List.mem_append_left _ (List.mem_append_left _ (.head _)))
  have R₂:=R'.hr.setLocal (f:=⟨env,σ'.l⟩) (x:=z) (pv:=pv) hz nL rL hv hn₂ hs₂
  exact ⟨m,hn.sameBut hs₂ hCL,fun h'' sb=>hq _ ρ' pv σ' x' ⟨R₂.other bC nC sb.extBut,R'.g,R'.gens,R'.os⟩ hk⟩
end
end Mine

open PySem PySem.W PyProof.Rows PySem.Calls PySem.Builtin PySem.Builtin.Str
set_option maxRecDepth 100000
set_option Elab.async false
set_option backward.match.sparseCases false
namespace Mine
section
variable {prog:Program} {w:World} {K:Frag} {base:Heap} {mg mb:Str→Option Value} {T:Tabs} (W:Facts prog w K base mg mb T) {Gs:Array GenState} {Os:OsState}
theorem noRef_ref {K:Frag} {ρ:Rho} {v:Value} {pv:PV} (h:VR K ρ v pv) (e:noRef pv=true):∀ a,v≠.ref a:=by
  intro a q
  subst q
  cases pv<;>first | (cases e;done) | (cases h;done) | (obtain ⟨_,q⟩:=h;cases q)
include W in
theorem opt_ok {env:Env} {n:Nat} {x:Px} (SE:SoundE prog w K mg mb T Gs Os env n x.E) {o:Option Ex} {k:Option Int→St→Prop} {σ:St} (h:pOpt x o k σ)
    {A:Around} {s:Shared} {ρ:Rho} {F:List Fm} (a:AOk A (env::F.map Fm.env) (2 * n+1)) (R:RR K base Gs Os ρ σ.S σ.g σ.H (⟨env,σ.l⟩::F) s) {Q:Value→Shared→Prop} {E:Value→Shared→Prop}
    (hq:∀ v s' ρ' i σ',Ext ρ ρ'→PartR v i→RR K base Gs Os ρ' σ'.S σ'.g σ'.H (⟨env,σ'.l⟩::F) s'→k i σ'→Q v s'):wpAny (model prog w) A (evalPart o env) Q E s:=by
  cases o with
  | none=>exact evalPart_none_step (hq _ s ρ none σ (.refl _) rfl R h)
  | some e=>
    refine evalPart_some_step (SE base W e _ σ h A s ρ F a R _ _ fun v s₁ ρ₁ pv σ₁ x₁ hv R₁ h₁=>?_)
    cases pv<;>try exact h₁.elim
    exact hq v s₁ ρ₁ (some _) σ₁ x₁ hv R₁ h₁
include W
theorem fnCall_ok {env:Env} {n:Nat} {x:Px} {C:CT} (SE:SoundE prog w K mg mb T Gs Os env n x.E) (CO:CallOK prog w K mg mb T Gs Os n C)
    {f:Addr} {first:List PV} {args:List Ex} {k:PV→St→Prop} {σ:St} (h:pFnCall T C x f first args k σ) {A:Around} {s:Shared} {ρ:Rho} {F:List Fm} (a:AOk A (env::F.map Fm.env) (2 * n+1))
    (R:RR K base Gs Os ρ σ.S σ.g σ.H (⟨env,σ.l⟩::F) s) {vf:List Value} (hf:AllR K ρ vf first) {Q:Value→Shared→Prop} {E:Value→Shared→Prop} {pos:Pos}
    (hq:∀ v s' ρ' pv σ',Ext ρ ρ'→VR K ρ' v pv→RR K base Gs Os ρ' σ'.S σ'.g σ'.H (⟨env,σ'.l⟩::F) s'→k pv σ'→Q v s') :
    wpAny (model prog w) A (callWith pos (.ref f) vf (argsOf args env) []) Q E s:=by
  unfold pFnCall at h
  split at h
  · rename_i hF
    obtain ⟨o,fd,ho,hd⟩:=W.isFn hF
    refine callW_fun (o:=o) (fd:=fd) (es_ok W SE args _ σ h A s ρ F a R _ _ fun vs s₁ ρ₁ ps σ₁ x₁ hv R₁ h₁=>⟨⟨R₁.hr.inK W _ _ ho,hd⟩,?_⟩)
    refine wpAny_call (CO base W f _ _ _ _ _ h₁ A s₁ ρ₁ (⟨env,σ₁.l⟩::F) _ (a.down (Nat.le_succ _)) R₁ ?_ _ fun v s₂ ρ₂ pv S g H x₂ hv₂ R₂ h₂=>hq v s₂ ρ₂ pv _ (x₁.trans x₂) hv₂ R₂ h₂)
    clear h h₁
    induction first generalizing vf with
    | nil=>cases vf with
      | nil=>exact hv
      | cons _ _=>exact hf.elim
    | cons p r ih=>cases vf with
      | nil=>exact hf.elim
      | cons v vr=>exact ⟨hf.1.ext x₁,ih hf.2⟩
  · exact h.elim
omit W in
theorem subscr_sliceG {prog:Program} {w:World} {A:Around} {E:Value→Shared→Prop} {s:Shared} {env:Env} {value:Ex} {lower upper:Option Ex} {p pos:Pos} {Q:Value→Shared→Prop}
    (h:wpAny (model prog w) A (eval value env) (fun o s₁=>wpAny (model prog w) A (evalPart lower env) (fun vl s₂=>wpAny (model prog w) A (evalPart upper env) (fun vu s₃=>
      ∃ T id,({ s₃ with heap:=s₃.heap.push { cls:=.type "slice",data:=.fields #[vl,vu,.none] } }:Shared).TypeIs o T∧typeLookup (.type T) "__getitem__"=pure (some (.builtin id)) ∧
        wpAny (model prog w) A (getItem o (.ref s₃.heap.objs.size)) Q E { s₃ with heap:=s₃.heap.push { cls:=.type "slice",data:=.fields #[vl,vu,.none] } }) E s₂) E s₁) E s) :
    wpAny (model prog w) A (eval (.Subscript value (.Slice lower upper none p) pos) env) Q E s:=by
  refine Subscript_ (wpAny_mono h (fun o s₁ h₁=>wpAny_Slice (wpAny_mono h₁ (fun vl s₂ h₂=>wpAny_mono h₂ (fun vu s₃ h₃=>?_) fun _ _ e=>e) fun _ _ e=>e)) fun _ _ e=>e)
  obtain ⟨T,id,hT,hl,hg⟩:=h₃
  rw [evalPart_none]
  refine wpAny_pure ?_
  unfold subscriptTail
  refine wpAny_bind ?_
  rw [getitemInPython_of_ne hT.not_modules]
  refine wpAny_bind (wpAny_specialOf hT hl ?_)
  refine wpAny_pure ?_
  show wpAny _ _ (operate _ (getItem _ _) >>= _) _ _ _
  refine wpAny_bind (wpAny_operating (wpAny_mono hg (fun r s₄ h₄=>?_) fun _ _ e=>e))
  exact wpAny_bind (wpAny_letTemporaryGo (wpAny_pure h₄))
omit W in
theorem getItem_strs {prog:Program} {w:World} {A:Around} {E:Value→Shared→Prop} {s:Shared} {x:List Nat} {t:Tok} {vl vu:Value} {l u:Option Int} {sl:Addr} {Q:Value→Shared→Prop} (hs:s.heap.get? sl=some { cls:=.type "slice",data:=.fields #[vl,vu,.none] })
    (hl:PartR vl l) (hu:PartR vu u) (hsz:x.length≤4000) (hq:∀ v tk,(∃ t',v=.str ⟨(slc x l u).toArray⟩ t')→Q v { s with toks:=tk }) :
    wpAny (model prog w) A (getItem (.str ⟨x.toArray⟩ t) (.ref sl)) Q E s:=by
  obtain ⟨l',rfl,el⟩:∃ l':Option (Int × Tok),vl=partValue l'∧l'.map (·.1)=l:=by
    cases l with
    | none=>exact ⟨none,hl,rfl⟩
    | some i=>obtain ⟨t,rfl⟩:=hl;exact ⟨some (i,t),rfl,rfl⟩
  obtain ⟨u',rfl,eu⟩:∃ u':Option (Int × Tok),vu=partValue u'∧u'.map (·.1)=u:=by
    cases u with
    | none=>exact ⟨none,hu,rfl⟩
    | some i=>obtain ⟨t,rfl⟩:=hu;exact ⟨some (i,t),rfl,rfl⟩
  subst el eu
  exact wpAny_getItem_str_slice (l:=l') (u:=u') (st:=none) ⟨_,hs,rfl,rfl⟩ rfl (slice_post (fun v tk hv=>hq v tk hv) hsz)
omit W in
theorem itemH_ok {A:Around} {E:Value→Shared→Prop} {s:Shared} {ρ:Rho} {S:Option Fs} {g:Nat} {H:List AO} {F:List Fm} (R:RR K base Gs Os ρ S g H F s) (W:Facts prog w K base mg mb T) {o j:PV} {vo vj:Value} {k:PV→Prop} {Q:Value→Shared→Prop}
    (h:pItemH o j H k) (ho:VR K ρ vo o) (hj:VR K ρ vj j) (hq:∀ v pv tk,VR K ρ v pv→k pv→Q v { s with toks:=tk }) :
    ∃ T id,s.TypeIs vo T∧typeLookup (.type T) "__getitem__"=pure (some (.builtin id))∧wpAny (model prog w) A (getItem vo vj) Q E s:=by
  unfold pItemH at h
  split at h
  · split at h
    · rename_i p z hp
      obtain ⟨a,ha,rfl⟩:=ho
      obtain ⟨t,rfl⟩:=hj
      obtain ⟨h0,h1,h⟩:=h
      split at h
      · rename_i x hx
        exact listItem_ok (R.hr.objs _ a _ ha hp) h0 h1 hx fun v hv=>hq v x s.toks hv h
      · exact h.elim
    · exact h.elim
  · exact item_ok (R.hr.inK W) h ho hj hq
omit W in
theorem lstStrs_is {o:Option AO} {k:List (List Nat)→Prop} (h:lstStrs o k):∃ p x,o=some (.lst p)∧strsOf p=some x∧k x:=by
  unfold lstStrs at h
  split at h
  · split at h
    · exact ⟨_,_,rfl,by assumption,h⟩
    · exact h.elim
  · exact h.elim
omit W in
theorem locP_is {a:PV} {k:Nat→Prop} (h:locP a k):∃ i,a=.loc i∧k i:=by
  cases a<;>first | exact ⟨_,rfl,h⟩ | exact h.elim
omit W in
theorem lst_v {a:PV} {va:Value} {s:Shared} {ρ:Rho} {S:Option Fs} {g:Nat} {H:List AO} {F:List Fm} {k:List (List Nat)→Prop} (h:locP a fun i=>lstStrs H[i]? k) (R:RR K base Gs Os ρ S g H F s) (ha:VR K ρ va a) (G:Value→Prop)
    (c:∀ a' p x,OR K ρ s.heap a' (.lst p)→strsOf p=some x→k x→G (.ref a')):G va:=by
  obtain ⟨i,rfl,h⟩:=locP_is h
  obtain ⟨p,x,hp,hx,h⟩:=lstStrs_is h
  obtain ⟨a',ha',rfl⟩:=ha
  exact c a' p x (R.hr.objs _ _ _ ha' hp) hx h
omit W in
theorem cmpH_ok {A:Around} {E:Value→Shared→Prop} {s:Shared} {ρ:Rho} {S:Option Fs} {g:Nat} {H:List AO} {F:List Fm} (R:RR K base Gs Os ρ S g H F s) (W:Facts prog w K base mg mb T) (hu:A.units+64 < cLine) {op:CmpOp} {a b:PV} {va vb:Value} {k:Bool→Prop} {Q:Value→Shared→Prop}
    (h:pCmpH op a b H k) (ha:VR K ρ va a) (hb:VR K ρ vb b) (hq:∀ r tk,k r→Q (.bool r) { s with toks:=tk }):wpAny (model prog w) A (compareOp op va vb) Q E s:=by
  by_cases hj:∃ j,b=.loc j
  · obtain ⟨j,rfl⟩:=hj
    obtain ⟨q,y,hqq,hy,h1⟩:=lstStrs_is h
    obtain ⟨b',hb',rfl⟩:=hb
    have oq:=R.hr.objs _ _ _ hb' hqq
    cases op with
    | In=>exact txtP_v h1 ha (fun va=>wpAny (model prog w) A (compareOp .In va (.ref b')) Q E s) fun x t hk=>listIn_ok oq hy (hq _ s.toks hk)
    | NotIn=>exact txtP_v h1 ha (fun va=>wpAny (model prog w) A (compareOp .NotIn va (.ref b')) Q E s) fun x t hk=>listNotIn_ok oq hy (hq _ s.toks hk)
    | Eq=>exact lst_v h1 R ha (fun va=>wpAny (model prog w) A (compareOp .Eq va (.ref b')) Q E s) fun a' p x o hx k=>listEq_ok hu o hx oq hy k.1 k.2.1 (hq _ s.toks k.2.2)
    | NotEq=>exact lst_v h1 R ha (fun va=>wpAny (model prog w) A (compareOp .NotEq va (.ref b')) Q E s) fun a' p x o hx k=>listNe_ok hu o hx oq hy k.1 k.2.1 (hq _ s.toks k.2.2)
    | _=>exact h1.elim
  · have h':pCmp op a b k:=by
      cases b<;>first | exact h | exact absurd ⟨_,rfl⟩ hj
    exact cmp_ok (R.hr.set W) h' ha hb hq
omit W in
theorem fnH_ok {A:Around} {E:Value→Shared→Prop} {s:Shared} {ρ:Rho} {S:Option Fs} {g:Nat} {H:List AO} {F:List Fm} (R:RR K base Gs Os ρ S g H F s) (W:Facts prog w K base mg mb T) (hh:A.handled=none) {n:Bf} {vs:List Value} {ps:List PV} {k:PV→Prop} {Q:Value→Shared→Prop}
    (h:pFnH n ps H k) (hv:AllR K ρ vs ps) (hq:∀ v pv h' tk,(∀ b o,s.heap.get? b=some o→h'.get? b=some o)→VR K ρ v pv→k pv→Q v { s with heap:=h',toks:=tk }) :
    wpAny (model prog w) A (call (.builtin n.id) vs) Q E s:=by
  cases n with
  | len=>
    obtain ⟨p,rfl,h1⟩:=oneP_is h
    have gen:pFnLen p k→wpAny (model prog w) A (call (.builtin (Bf.len).id) vs) Q E s:=fun h2=>fn_ok (n:=.len) hh (R.hr.inK W) (show pFn .len [p] k from h2) hv hq
    cases p<;>try exact gen h1
    · unfold pLenH at h1
      dsimp only at h1
      split at h1
      · rename_i p hp
        obtain ⟨v,rfl,a,ha,rfl⟩:=AllR1 hv
        exact listLen_ok (R.hr.objs _ _ _ ha hp) h1.1 fun t tk=>hq _ (.int _) s.heap tk (fun _ _ e=>e) ⟨t,rfl⟩ h1.2
      · exact h1.elim
    · obtain ⟨v,rfl,rfl,hi⟩:=AllR1 hv
      exact intsLen_ok (R.hr.stays _ _ R.hr.so) hi h1.1 fun t tk=>hq _ (.int _) s.heap tk (fun _ _ e=>e) ⟨t,rfl⟩ h1.2
  | sum=>exact h.elim
  | ord=>exact fn_ok hh (R.hr.inK W) h hv hq
  | min=>exact fn_ok hh (R.hr.inK W) h hv hq
omit W in
theorem cellName_ok {env:Env} {sc:Scope} (V:EnvOK env sc) {A:Around} {s:Shared} {ρ:Rho} {σ:St} {F:List Fm} (R:RR K base Gs Os ρ σ.S σ.g σ.H (⟨env,σ.l⟩::F) s) {n:Str} {p:Pos} {k:PV→St→Prop} (hn:isCellN sc n=true) (h:pCell n k σ)
    {Q:Value→Shared→Prop} {E:Value→Shared→Prop} (hq:∀ v pv,VR K ρ v pv→k pv σ→Q v s):wpAny (model prog w) A (eval (.Name n p) env) Q E s:=by
  have hk:env.kindOf n=some .cell:=by
    show env.scope.names.lookup n=_
    rw [V.sc]
    unfold isCellN at hn
    split at hn
    · assumption
    · cases hn
  unfold pCell at h
  split at h
  · rename_i i hd hl
    split at h
    · rename_i v hv
      obtain ⟨m,nn,r⟩:=R.hr.frames _ (.head _)
      obtain ⟨u,e,a,ha,hu⟩:=(r n).2 _ hl
      subst hu
      unfold stor at e
      rw [if_pos hk] at e
      obtain ⟨c,hc,e'⟩:=Option.map_eq_some_iff.mp e
      cases e'
      obtain ⟨o,v',h1,h2,h3⟩:=R.hr.objs _ _ _ ha hv
      exact wpAny_Name (wpAny_loadName_cell (by rw [V.sc];exact V.kind) hk hc ⟨o,h1,h2⟩ (hq _ _ h3 h)) hd
    · exact h.elim
  · exact h.elim
omit W in
theorem HR.born {ρ:Rho} {S:Option Fs} {H:List AO} {F:List Fm} {h:Heap} (R:HR K base ρ S H F h) :
    Ext ρ { ρ with sa:=h.objs.size+1,sd:=h.objs.size,g:=ρ.g+1 }∧HR K base { ρ with sa:=h.objs.size+1,sd:=h.objs.size,g:=ρ.g+1 } (some []) H F ((h.push emptyDict).push (instObj 925 h.objs.size)):=by
  have x:Ext ρ { ρ with sa:=h.objs.size+1,sd:=h.objs.size,g:=ρ.g+1 }:=⟨Nat.le_succ _,fun q=>absurd q (Nat.succ_ne_self _),fun _ _ e=>e,rfl⟩
  have k:∀ b o,h.get? b=some o→((h.push emptyDict).push (instObj 925 h.objs.size)).get? b=some o:=fun b o e=>Heap.get?_push_of_some _ (Heap.get?_push_of_some _ e)
  have R':=R.keeps k
  refine ⟨x,R'.stays,R'.funs,?_,?_,R.len,fun i a ao e1 e2=>(R'.objs i a ao e1 e2).ext x,R.apart,R.new,R.newF,R.so,R.frs⟩
  · intro f hf
    obtain ⟨m,n1,r1⟩:=R'.frames f hf
    exact ⟨m,n1,r1.ext x⟩
  · intro fs e
    cases e
    refine ⟨⟨_,fun _=>none,by rw [← Heap.size_push h emptyDict];exact Heap.get?_push_size _ rfl,rfl,rfl,rfl,?_,fun x=>⟨fun _=>rfl,fun pv q=>by cases q⟩⟩,fresh_base R.stays (Nat.le_refl _),fresh_base R.stays (Nat.le_succ _),fun q=>?_,fun q=>?_⟩
    · refine ⟨emptyDict,#[],0,Heap.get?_push_of_some _ (Heap.get?_push_size _ rfl),rfl,?_,fun _=>rfl,Nat.le_refl _⟩
      intro e he
      simp at he
    · obtain ⟨g,hg,e⟩:=List.mem_map.mp q
      have:=R.frLt hg
      have e':g.env.locals=h.objs.size:=e
      rw [e'] at this
      exact Nat.lt_irrefl _ this
    · exact Nat.lt_irrefl _ (R.osLt q)
omit W in
theorem make_ok (W:Facts prog w K base mg mb T) {n:Nat} {C:CT} (CO:CallOK prog w K mg mb T Gs Os n C) (hi:T.ini=true) {A:Around} {s:Shared} {ρ:Rho} {S:Option Fs} {g:Nat} {H:List AO} {F:List Fm} {env:Env} {l:Fs}
    (a:AOk A (env::F.map Fm.env) (2 * n+1)) (R:RR K base Gs Os ρ S g H (⟨env,l⟩::F) s) {k:PV→Option Fs→Nat→List AO→Prop}
    (h:C 35 [.self (g+1)] (fun v S g' H=>match v with | .none=>k (.self (g+1)) S g' H | _=>False) (some []) (g+1) H) {pos:Pos} {Q:Value→Shared→Prop} {E:Value→Shared→Prop}
    (hq:∀ v s' ρ' pv S' g' H',Ext ρ ρ'→VR K ρ' v pv→RR K base Gs Os ρ' S' g' H' (⟨env,l⟩::F) s'→k pv S' g' H'→Q v s') :
    wpAny (model prog w) A (callWith pos (.ref 925) [] (argsOf [] env) []) Q E s:=by
  have X:=R.hr.inK W
  obtain ⟨i1,i2,i3,i4⟩:=W.ini hi
  obtain ⟨x,Rb⟩:=R.hr.born
  have hg:=R.g
  have hgs:=R.gens
  have hos:=R.os
  obtain ⟨hp,gs,d,t,os⟩:=s
  refine callWith_K0 (env:=env) X i4 (wpAny_call ?_)
  refine make_core (makes_of X i1) (looks_findIn X i2) (fun self=>bind_fn X self i3) (.inl rfl) ?_
  have a':AOk (A.under (.builtin "type.__call__" ⟨[.ref 925],[]⟩)) ((⟨env,l⟩::F:List Fm).map Fm.env) (2 * n):=
    ⟨a.handled,a.frames,by show A.depth+1+2 * n≤_;have:=a.depth;(exact ar_gkr6 this),by
      have:=a.units
      have e:(A.under (.builtin "type.__call__" ⟨[.ref 925],[]⟩)).units≤A.units+16:=by
        show A.units+(Code.builtin "type.__call__" ⟨[.ref 925],[]⟩).cUnits≤A.units+16
        have:(Code.builtin "type.__call__" ⟨[.ref 925],[]⟩).cUnits≤16:=by decide +kernel
        (exact ar_e0p0 this)
      (exact ar_t763 this e)⟩
  refine CO base W 35 _ _ _ _ _ h _ ⟨(hp.push emptyDict).push (instObj 925 hp.objs.size),gs,d,t,os⟩ { ρ with sa:=hp.objs.size+1,sd:=hp.objs.size,g:=ρ.g+1 } _ [.ref (hp.objs.size+1)] a' ⟨Rb,by show ρ.g+1=g+1;rw [hg],hgs,hos⟩ ⟨⟨_,rfl,by show g+1≤ρ.g+1;rw [hg];exact Nat.le_refl _,fun _=>rfl⟩,trivial⟩ _ fun v s' ρ' pv S' g' H' x' hv R' hk=>?_
  cases pv<;>try exact hk.elim
  refine ⟨hv,hq _ s' ρ' (.self (g+1)) S' g' H' (x.trans x') (VR.ext x' ⟨_,rfl,by show g+1≤ρ.g+1;rw [hg];exact Nat.le_refl _,fun _=>rfl⟩) R' hk⟩
end
end Mine

open PySem PySem.W PyProof.Rows PySem.Calls PySem.Builtin PySem.Builtin.Str
set_option maxRecDepth 100000
set_option Elab.async false
set_option backward.match.sparseCases false
namespace Mine
theorem kv_value {K:Frag} {ρ:Rho} {x:List Nat} {pv:PV}:∀ {kvs:List (Str × Value)} {ps:List (List Nat × PV)},KV K ρ kvs ps→ps.lookup x=some pv→∃ v,valueAt kvs (strL x)=some v∧VR K ρ v pv
  | [],[],_,h=>by cases h
  | (k,v)::r,(p,qv)::q,⟨a,b,c⟩,h=>by
    subst a
    rw [List.lookup_cons] at h
    unfold valueAt
    rw [List.find?_cons]
    by_cases e:x=p
    · subst e
      simp at h
      subst h
      exact ⟨v,by simp,b⟩
    · have:(x==p)=false:=by simpa using e
      rw [this] at h
      have e2:decide (strL p=strL x)=false:=by simpa [strL_inj] using fun q=>e q.symm
      obtain ⟨u,h1,h2⟩:=kv_value c h
      refine ⟨u,?_,h2⟩
      simp only [e2]
      exact h1
  | [],_::_,h,_=>h.elim
  | _::_,[],h,_=>h.elim
theorem kv_none {K:Frag} {ρ:Rho} {x:List Nat}:∀ {kvs:List (Str × Value)} {ps:List (List Nat × PV)},KV K ρ kvs ps→ps.lookup x=none→valueAt kvs (strL x)=none
  | [],[],_,_=>rfl
  | (k,v)::r,(p,qv)::q,⟨a,b,c⟩,h=>by
    subst a
    rw [List.lookup_cons] at h
    unfold valueAt
    rw [List.find?_cons]
    by_cases e:x=p
    · subst e
      simp at h
    · have:(x==p)=false:=by simpa using e
      rw [this] at h
      have e2:decide (strL p=strL x)=false:=by simpa [strL_inj] using fun q=>e q.symm
      simp only [e2]
      exact kv_none c h
  | [],_::_,h,_=>h.elim
  | _::_,[],h,_=>h.elim
theorem kv_keys {K:Frag} {ρ:Rho} {prog:Program} {w:World} {kvs:List (Str × Value)} {ps:List (List Nat × PV)} {acc:Array Value} (h:KV K ρ kvs ps) (ha:ItemsOf (fun i v=>∃ k x,kvs[i]?=some (k,x)∧(strKind prog w).is k v=true) acc kvs.length) :
    AllR K ρ acc.toList (ps.map fun p=>.str p.1):=by
  obtain ⟨h1,h2⟩:=ha
  have gen:∀ (us:List Value) (kvs:List (Str × Value)) (ps:List (List Nat × PV)),KV K ρ kvs ps→us.length=kvs.length→(∀ (i:Nat) (v:Value),us[i]?=some v→∃ k x,kvs[i]?=some (k,x)∧(strKind prog w).is k v=true)→AllR K ρ us (ps.map fun p=>.str p.1):=by
    intro us
    induction us with
    | nil=>intro kvs ps h hl _;cases kvs with
      | nil=>cases ps with
        | nil=>exact trivial
        | cons _ _=>exact h.elim
      | cons _ _=>simp at hl
    | cons u us ih=>intro kvs ps h hl hi;cases kvs with
      | nil=>simp at hl
      | cons kv kvs=>cases ps with
        | nil=>exact h.elim
        | cons p ps=>
          refine ⟨?_,ih kvs ps h.2.2 (by simpa using hl) fun i v e=>hi (i+1) v e⟩
          obtain ⟨k,x,e,hk⟩:=hi 0 u rfl
          have e':kv=(k,x):=by simpa using e
          subst e'
          obtain ⟨t,rfl⟩:=Value.isStrOf_shape hk
          have:=h.1
          exact ⟨t,by rw [this];rfl⟩
  exact gen acc.toList kvs ps h (by simpa using h1) fun i v e=>h2 i v (by simpa using e)
section
variable {prog:Program} {w:World} {K:Frag} {base:Heap} {mg mb:Str→Option Value} {T:Tabs} {Gs:Array GenState} {Os:OsState} {env:Env} {sc:Scope} {n:Nat}
theorem dic_ok (V:EnvOK env sc) (W:Facts prog w K base mg mb T) {e:Ex} {ps:List (List Nat × PV)} (hd:dicOf T sc e=some ps) {A:Around} {s:Shared} {ρ:Rho} {σ:St} {F:List Fm} (a:AOk A (env::F.map Fm.env) (2 * n+1))
    (R:RR K base Gs Os ρ σ.S σ.g σ.H (⟨env,σ.l⟩::F) s) {Q:Value→Shared→Prop} {E:Value→Shared→Prop}
    (hq:∀ d h' tk kvs,(∀ b o,s.heap.get? b=some o→h'.get? b=some o)→s.heap.objs.size≤d→(d==sysModules)=false→h'.DictOf (strKind prog w) d kvs→KV K ρ kvs ps→kvs.length≤3000→Q (.ref d) { s with heap:=h',toks:=tk }) :
    wpAny (model prog w) A (eval e env) Q E s:=by
  unfold dicOf at hd
  split at hd
  · rename_i n' np p hc
    rw [asCall0_is hc]
    split at hd
    · rename_i f hdb hk hg
      refine callName rfl (nameGlobal W R.hr (by rw [V.sc];exact V.kind) (by show env.scope.names.lookup _=_;rw [V.sc];exact hk) hdb V.gl V.bl hg fun v hv=>?_)
      obtain rfl:v=.ref f:=hv
      obtain ⟨sc',ks,vs,dp,rp,hF,hqs,hb⟩:=dictOfF_is hd
      unfold okPairs at hb
      simp only [Bool.and_eq_true,decide_eq_true_eq,Nat.ble_eq,Bool.not_eq_true',List.isEmpty_eq_false_iff] at hb
      obtain ⟨⟨hb1,hb2⟩,hb3⟩:=hb
      obtain ⟨o,fd,ho,hdt,e1,e2,e3,e4,e5,hcode,hkk,hco,hgen,hcell,hloc,hnd,hbind⟩:=W.fns f _ hF
      have X:=R.hr.inK W
      refine callW_fun (o:=o) (fd:=fd) (spliced_nil ⟨⟨X _ _ ho,hdt⟩,wpAny_call ?_⟩)
      have hroom:A.depth < recursionLimit:=by have:=a.depth;(exact ar_oxt2 this)
      obtain ⟨Xo,nX,hX,_⟩:=W.set
      have h230:(230:Nat) < s.heap.objs.size:=Heap.lt_size (R.hr.stays _ _ hX)
      refine codeAny_call_def hroom (X _ _ ho) hdt (W.lim.keeps R.hr.stays) (hcode _ X) e2 (.of_eq (hbind [] rfl)) hcell (fun x hx=>by cases hx) (fun h₀ hn hk₀=>?_) hco hgen hkk
      refine wpAny_execs_cons (wpAny_Return_some ?_)
      have hs0:s.heap.objs.size≤h₀.objs.size:=Nat.le_of_lt hn.lt
      refine display_ok (ρ:=ρ) (K:=K) hqs hb1 (Nat.le_trans hb2 (by decide)) hb3 (Nat.lt_of_lt_of_le (by decide) (Nat.le_trans (Nat.le_of_lt h230) hs0)) fun d h' tk kvs hk hsz hd' hkv=>?_
      have hdn:s.heap.objs.size≤d:=Nat.le_trans hs0 hsz
      refine hq d h' tk kvs (fun b ob eb=>hk b ob (hk₀ b ob eb)) hdn ?_ hd' hkv (by rw [hkv.len];exact hb2)
      rw [beq_eq_false_iff_ne]
      exact Nat.ne_of_gt (Nat.lt_of_lt_of_le (Nat.lt_trans (by decide) h230) hdn)
    · cases hd
  · cases hd
theorem listOf_ok (W:Facts prog w K base mg mb T) {s:Shared} {ρ:Rho} {S:Option Fs} {g:Nat} {H:List AO} {F:List Fm} (R:RR K base Gs Os ρ S g H F s) {a:PV} {v:Value} {p:List PV} (h:listOf a H=some p) (hv:VR K ρ v a):∃ l,v=.ref l∧OR K ρ s.heap l (.lst p):=by
  unfold listOf at h
  split at h
  · cases h
    obtain ⟨l,rfl,hs⟩:=hv
    exact ⟨l,rfl,hs.list (R.hr.inK W)⟩
  · split at h
    · rename_i q
      cases h
      obtain ⟨l,hl,rfl⟩:=hv
      exact ⟨l,rfl,R.hr.objs _ _ _ hl q⟩
    · cases h
  · cases h
theorem binH_ok (W:Facts prog w K base mg mb T) {A:Around} {s:Shared} {ρ:Rho} {σ:St} {F:List Fm} {l:Fs} (R:RR K base Gs Os ρ σ.S σ.g σ.H (⟨env,l⟩::F) s) {op:Operator} {a b:PV} {va vb:Value} {k:PV→St→Prop} (h:pBinH op a b k σ) (ha:VR K ρ va a) (hb:VR K ρ vb b)
    {Q:Value→Shared→Prop} {E:Value→Shared→Prop} (hq:∀ v s' ρ' pv H',Ext ρ ρ'→VR K ρ' v pv→RR K base Gs Os ρ' σ.S σ.g H' (⟨env,l⟩::F) s'→k pv { σ with H:=H' }→Q v s'):wpAny (model prog w) A (binaryOp op va vb) Q E s:=by
  unfold pBinH at h
  split at h
  · rename_i ho
    cases op<;>try (cases ho;done)
    unfold pAddH at h
    split at h
    · exact bin_ok h ha hb fun y py tk hy hk=>hq y _ ρ py σ.H (.refl _) hy R.toks hk
    · rename_i p hp
      split at h
      · rename_i q hqq
        obtain ⟨la,rfl,oa⟩:=listOf_ok W R hp ha
        obtain ⟨lb,rfl,ob⟩:=listOf_ok W R hqq hb
        refine listAdd_ok oa ob h.1 fun o hor=>?_
        have Rm:=R.hr.make (h':=s.heap.push o) (fun b o e=>Heap.get?_push_of_some _ e) (Nat.le_refl _) hor
        exact hq _ _ _ (.loc σ.H.length) (σ.H++[.lst (p++q)]) (HR.mkExt _ _) ⟨_,os_at R.hr.len,rfl⟩ ⟨Rm,R.g,R.gens,R.os⟩ h.2
      · exact h.elim
  · exact bin_ok h ha hb fun y py tk hy hk=>hq y _ ρ py σ.H (.refl _) hy R.toks hk
end
end Mine

open PySem PySem.W PyProof.Rows PySem.Calls PySem.Builtin PySem.Builtin.Str
set_option maxRecDepth 100000
set_option Elab.async false
set_option backward.match.sparseCases false
namespace Mine
section
variable {prog:Program} {w:World} {K:Frag} {base:Heap} {mg mb:Str→Option Value} {T:Tabs} {Gs:Array GenState} {Os:OsState}
variable {env:Env} {sc:Scope} {n:Nat} {x:Px} {C:CT} {xs:Scope→Px} {A:Around} {s:Shared} {ρ:Rho} {σ:St} {F:List Fm} {E:Value→Shared→Prop}
noncomputable abbrev PostE (K:Frag) (base:Heap) (Gs:Array GenState) (Os:OsState) (env:Env) (ρ:Rho) (F:List Fm) (k:PV→St→Prop) (Q:Value→Shared→Prop):Prop:=
  ∀ v s' ρ' pv σ',Ext ρ ρ'→VR K ρ' v pv→RR K base Gs Os ρ' σ'.S σ'.g σ'.H (⟨env,σ'.l⟩::F) s'→k pv σ'→Q v s'
theorem eConst_ok {c:Const} {i:Nat} {p:Pos} {k:PV→St→Prop} (h:eConst c k σ) (R:RR K base Gs Os ρ σ.S σ.g σ.H (⟨env,σ.l⟩::F) s) {Q:Value→Shared→Prop} (hq:PostE K base Gs Os env ρ F k Q):wpAny (model prog w) A (eval (.Constant c i p) env) Q E s:=by
  cases c with
  | none=>exact wpAny_Constant_none (hq _ _ ρ .none σ (.refl _) rfl R h)
  | bool b=>exact wpAny_Constant_bool (hq _ _ ρ (.bool _) σ (.refl _) rfl R h)
  | int i=>exact wpAny_Constant_int (hq _ _ ρ (.int _) σ (.refl _) ⟨_,rfl⟩ R.toks h)
  | str t=>exact wpAny_Constant_str (hq _ _ ρ (.str _) σ (.refl _) ⟨s.toks,by congr 1⟩ R.toks h)
  | _=>exact h.elim
theorem eCmp_ok (V:EnvOK env sc) (SE:SoundE prog w K mg mb T Gs Os env n x.E) (W:Facts prog w K base mg mb T) {l r:Ex} {op:CmpOp} {k:Bool→St→Prop} (h:eCmp T sc x l op r k σ) (a:AOk A (env::F.map Fm.env) (2 * n+1)) (R:RR K base Gs Os ρ σ.S σ.g σ.H (⟨env,σ.l⟩::F) s) {Q:Value→Shared→Prop}
    (hq:∀ b s' ρ' σ',Ext ρ ρ'→RR K base Gs Os ρ' σ'.S σ'.g σ'.H (⟨env,σ'.l⟩::F) s'→k b σ'→Q (.bool b) s'):behindInMarks op r=false ∧
    wpAny (model prog w) A (eval l env) (fun v s₁=>wpAny (model prog w) A (eval r env) (fun u s₂=>wpAny (model prog w) A (compareOp op v u) Q E s₂) E s₁) E s:=by
  unfold eCmp at h
  split at h
  · rename_i hm
    refine ⟨hm,?_⟩
    split at h
    · rename_i ps hd
      refine SE base W _ _ σ h A s ρ F a R _ _ fun v s₁ ρ₁ pv σ₁ x₁ hv R₁ h₁=>?_
      refine dic_ok V W hd a R₁ fun d h' tk kvs hk hdl hds hdo hkv hl=>?_
      split at h₁
      · obtain ⟨t,rfl⟩:=hv
        rename_i y
        refine wpAny_in_of (s:={ s₁ with heap:=h',toks:=tk }) (knd:=strKind prog w) (strKind_is prog w (strL y) t) hds hdo.mapOf ?_
        have e:(valueAt kvs (strL y)).isSome=hasKey ps y:=by
          unfold hasKey
          cases q:ps.lookup y with
          | none=>rw [kv_none hkv q];rfl
          | some pv=>obtain ⟨v,e,_⟩:=kv_value hkv q;rw [e];rfl
        rw [e]
        exact hq _ _ ρ₁ σ₁ x₁ (R₁.keeps hk) h₁
      · exact h₁.elim
    · refine SE base W _ _ σ h A s ρ F a R _ _ fun v s₁ ρ₁ pv σ₁ x₁ hv R₁ h₁=>SE base W _ _ σ₁ h₁ A s₁ ρ₁ F a R₁ _ _ fun u s₂ ρ₂ pu σ₂ x₂ hu R₂ h₂=>?_
      exact cmpH_ok R₂ W (by have:=a.units;(exact ar_djpn this)) h₂ (hv.ext x₂) hu fun r tk hk=>hq _ _ ρ₂ σ₂ (x₁.trans x₂) R₂.toks hk
  · exact h.elim
theorem eSub_ok (V:EnvOK env sc) (SE:SoundE prog w K mg mb T Gs Os env n x.E) (W:Facts prog w K base mg mb T) {o i:Ex} {p:Pos} {k:PV→St→Prop} (h:eSub T sc x o i k σ) (a:AOk A (env::F.map Fm.env) (2 * n+1)) (R:RR K base Gs Os ρ σ.S σ.g σ.H (⟨env,σ.l⟩::F) s) {Q:Value→Shared→Prop} (hq:PostE K base Gs Os env ρ F k Q) :
    wpAny (model prog w) A (eval (.Subscript o i p) env) Q E s:=by
  unfold eSub at h
  split at h
  · rename_i lo hi sp hs
    rw [asSlice_is hs]
    refine subscr_sliceG (SE base W _ _ σ h A s ρ F a R _ _ fun v s₁ ρ₁ pv σ₁ x₁ hv R₁ h₁=>opt_ok W SE h₁ a R₁ fun vl s₂ ρ₂ l σ₂ x₂ hl R₂ h₂=>opt_ok W SE h₂ a R₂ fun vu s₃ ρ₃ u σ₃ x₃ hu R₃ h₃=>?_)
    have up:∀ b o,s₃.heap.get? b=some o→(s₃.heap.push { cls:=.type "slice",data:=.fields #[vl,vu,.none] }).get? b=some o:=fun b o e=>Heap.get?_push_of_some _ e
    cases pv<;>try exact h₃.elim
    · obtain ⟨t,rfl⟩:=hv
      refine ⟨"str",_,typeIs_str _ _ _,PySem.F.slot_str_getitem.lookup,getItem_strs (Heap.get?_push_size _ rfl) hl hu h₃.1 fun v tk ⟨t',e⟩=>?_⟩
      exact hq v _ ρ₃ (.str _) σ₃ ((x₁.trans x₂).trans x₃) ⟨t',e⟩ (R₃.keeps up) h₃.2
    · obtain ⟨rfl,hi⟩:=(hv.ext x₂).ext x₃
      have hso:=(R₃.keeps (tk:=s₃.toks) up).hr
      have ho:(s₃.heap.push { cls:=.type "slice",data:=.fields #[vl,vu,.none] }).get? ρ₃.so.1=some ρ₃.so.2:=hso.stays _ _ hso.so
      obtain ⟨vs₀,n₀,i1,i2,_⟩:=id hi
      have ht:(s₃.heap.push { cls:=.type "slice",data:=.fields #[vl,vu,.none] }).IsList ρ₃.so.1 vs₀:=⟨_,ho,i1,n₀,i2⟩
      refine ⟨"list",_,ht.typeIs,slot_list_getitem.lookup,getItem_ints (K:=K) (ρ:=ρ₃) ho hi h₃.1 (Heap.IsSliceOf.new ..) hl hu fun h' hk hor=>?_⟩
      have Rm:=hso.make (h':=h') hk (Nat.le_refl _) hor
      exact hq _ _ _ (.loc σ₃.H.length) { σ₃ with H:=σ₃.H++[_] } (((x₁.trans x₂).trans x₃).trans (HR.mkExt _ _)) ⟨_,os_at R₃.hr.len,rfl⟩ ⟨Rm,R₃.g,R₃.gens,R₃.os⟩ h₃.2
  · split at h
    · rename_i hs
      split at h
      · rename_i ps hd
        refine subscrA hs (dic_ok V W hd a R fun d h' tk kvs hk hdl hds hdo hkv hl=>?_)
        have R₀:RR K base Gs Os ρ σ.S σ.g σ.H (⟨env,σ.l⟩::F) { s with heap:=h',toks:=tk }:=R.keeps hk
        have W':=W.keeps R₀.hr.base_in
        have nd:d∉soft ρ σ.S (⟨env,σ.l⟩::F):=fun q=>absurd (R.hr.soft_lt _ q) (Nat.not_lt.mpr hdl)
        refine SE _ W' _ _ σ h A _ ρ F a ⟨R₀.hr.rebase,R₀.g,R₀.gens,R₀.os⟩ _ _ fun u s₁ ρ₁ pu σ₁ x₁ hu R₁ h₁=>?_
        have hdo₁:s₁.heap.DictOf (strKind prog w) d kvs:=hdo.at fun o e=>R₁.hr.stays _ _ (hideAll_get _ e nd)
        have R₂:RR K base Gs Os ρ₁ σ₁.S σ₁.g σ₁.H (⟨env,σ₁.l⟩::F) s₁:=⟨R₁.hr.back R₀.hr.base_in (x₁.so▸R₀.hr.so),R₁.g,R₁.gens,R₁.os⟩
        cases pu<;>try exact h₁.elim
        rename_i y
        obtain ⟨t,rfl⟩:=hu
        dsimp only at h₁
        split at h₁
        · rename_i r hr
          obtain ⟨v,e1,e2⟩:=kv_value hkv hr
          refine ⟨"dict",_,hdo₁.typeIs,slot_dict_getitem.lookup,wpAny_getItem_of (knd:=strKind prog w) (strKind_is prog w (strL y) t) hdo₁.mapOf e1 ?_⟩
          exact hq v _ ρ₁ r σ₁ x₁ (e2.ext x₁) R₂.toks h₁
        · exact h₁.elim
      · refine subscrA hs (SE base W _ _ σ h A s ρ F a R _ _ fun v s₁ ρ₁ pv σ₁ x₁ hv R₁ h₁=>SE base W _ _ σ₁ h₁ A s₁ ρ₁ F a R₁ _ _ fun u s₂ ρ₂ pu σ₂ x₂ hu R₂ h₂=>?_)
        exact itemH_ok R₂ W h₂ (hv.ext x₂) hu fun y py tk hy hk=>hq y _ ρ₂ py σ₂ (x₁.trans x₂) hy R₂.toks hk
    · exact h.elim
theorem eCallN_ok (V:EnvOK env sc) (SE:SoundE prog w K mg mb T Gs Os env n x.E) (CO:CallOK prog w K mg mb T Gs Os n C) (W:Facts prog w K base mg mb T) {m:Str} {q p:Pos} {args:List Ex} {k:PV→St→Prop} (hs:noStar args=true) (h:eCallN T C sc x m q args k σ) (a:AOk A (env::F.map Fm.env) (2 * n+1)) (R:RR K base Gs Os ρ σ.S σ.g σ.H (⟨env,σ.l⟩::F) s) {Q:Value→Shared→Prop} (hq:PostE K base Gs Os env ρ F k Q) :
    wpAny (model prog w) A (eval (.Call (.Name m q) args [] p) env) Q E s:=by
  refine callName hs (SE base W _ _ σ h A s ρ F a R _ _ fun v s₁ ρ₁ pv σ₁ x₁ hfv R₁ h₁=>?_)
  cases pv<;>try exact h₁.elim
  · rename_i c
    dsimp only at h₁
    split at h₁
    · rename_i hc
      rw [Bool.and_eq_true] at hc
      obtain rfl:=hfv
      obtain rfl:=Nat.eq_of_beq_eq_true hc.1
      exact make_ok W CO hc.2 a R₁ h₁ fun v s' ρ' pv S' g' H' x' hv' R' hk=>hq v s' ρ' pv ⟨σ₁.l,S',g',H'⟩ (x₁.trans x') hv' R' hk
    · exact h₁.elim
  · obtain rfl:=hfv
    exact fnCall_ok W SE CO h₁ a R₁ (vf:=[]) trivial fun v s' ρ' pv σ' x' hv R' hk=>hq v s' ρ' pv σ' (x₁.trans x') hv R' hk
  · obtain rfl:=hfv
    refine callW_blt (es_ok W SE _ _ σ₁ h₁ A s₁ ρ₁ F a R₁ _ _ fun vs s₂ ρ₂ ps σ₂ x₂ hvs R₂ h₂=>?_)
    exact fnH_ok R₂ W a.handled h₂ hvs fun y py h' tk hk hy hk'=>hq y _ ρ₂ py σ₂ (x₁.trans x₂) hy (R₂.keeps hk) hk'
  · rename_i bt
    cases bt<;>try exact h₁.elim
    obtain rfl:=hfv
    dsimp only at h₁
    split at h₁
    · rename_i e
      split at h₁
      · rename_i ps hd
        refine callW_typ (spliced_cons (dic_ok V W hd a R₁ fun d h' tk kvs hk hdl hds hdo hkv hl=>spliced_nil ?_))
        show wpAny _ _ (call (.type "list") [.ref d]) _ _ _
        obtain ⟨ep,hat⟩:=hdo.dictAt
        have R₂:RR K base Gs Os ρ₁ σ₁.S σ₁.g σ₁.H (⟨env,σ₁.l⟩::F) { s₁ with heap:=h',toks:=tk }:=R₁.keeps hk
        refine kdl_call (s:={ s₁ with heap:=h',toks:=tk }) (kdl_dict (knd:=strKind prog w) (kvs:=kvs) (ep:=ep) hds) a.handled hat (by rw [sizeLine_eq];(exact ar_46gs hl)) fun h'' tk' acc c' hk' hg hit=>?_
        have Rm:=R₂.hr.make (h':=h'') (ao:=.lst (ps.map fun p=>.str p.1)) hk' (Nat.le_refl _) ⟨_,_,_,hg,rfl,rfl,kv_keys hkv hit⟩
        exact hq _ _ _ (.loc σ₁.H.length) { σ₁ with H:=σ₁.H++[_] } (x₁.trans (HR.mkExt _ _)) ⟨_,os_at R₁.hr.len,rfl⟩ ⟨Rm,R₁.g,R₁.gens,R₁.os⟩ h₁
      · exact h₁.elim
    · exact h₁.elim
theorem eCallM_ok (SE:SoundE prog w K mg mb T Gs Os env n x.E) (CO:CallOK prog w K mg mb T Gs Os n C) (W:Facts prog w K base mg mb T) {o:Ex} {m:Str} {ap p:Pos} {args:List Ex} {k:PV→St→Prop} (hs:noStar args=true) (hl:args.length < 29) (h:eCallM T C x o m ap p args k σ) (a:AOk A (env::F.map Fm.env) (2 * n+1)) (R:RR K base Gs Os ρ σ.S σ.g σ.H (⟨env,σ.l⟩::F) s) {Q:Value→Shared→Prop} (hq:PostE K base Gs Os env ρ F k Q) :
    wpAny (model prog w) A (eval (.Call (.Attribute o m ap) args [] p) env) Q E s:=by
  unfold eCallM at h
  split at h
  · rename_i hb
    rw [Bool.and_eq_true] at hb
    refine callMeth hb.1 hs hl hb.2 (SE base W _ _ σ h A s ρ F a R _ _ fun v s₁ ρ₁ pv σ₁ x₁ hv R₁ h₁=>?_)
    cases pv<;>try exact h₁.elim
    · obtain ⟨t,rfl⟩:=hv
      intro pl
      dsimp only at h₁
      split at h₁
      · rename_i i hi
        refine strMeth_ok hi (callW_blt (es_ok W SE _ _ σ₁ h₁ A s₁ ρ₁ F a R₁ _ _ fun vs s₂ ρ₂ ps σ₂ x₂ hvs R₂ h₂=>?_))
        exact strm_ok h₂ hvs fun y py tk hy hk=>hq y _ ρ₂ py σ₂ (x₁.trans x₂) hy R₂.toks hk
      · exact h₁.elim
    · rename_i g
      dsimp only at h₁
      split at h₁
      · rename_i fs f hg hS hm
        split at h₁
        · rename_i hlk
          intro pl
          obtain ⟨a',rfl,q1,q2⟩:=id hv
          have e:g=ρ₁.g:=(Nat.eq_of_beq_eq_true hg).trans R₁.g.symm
          have R':HR K base ρ₁ (some fs) σ₁.H (⟨env,σ₁.l⟩::F) s₁.heap:=hS▸R₁.hr
          have ea:=q2 e
          subst ea
          refine methSelf W R' hm hlk ?_
          exact fnCall_ok W SE CO h₁ a R₁ (vf:=[.ref ρ₁.sa]) ⟨hv,trivial⟩ fun v s' ρ' pv σ' x' hv R' hk=>hq v s' ρ' pv σ' (x₁.trans x') hv R' hk
        · exact h₁.elim
      · exact h₁.elim
  · exact h.elim
theorem stepE_ok (V:EnvOK env sc) (SE:SoundE prog w K mg mb T Gs Os env n x.E) (ST:SoundT prog w K mg mb T Gs Os env n x.T) (CO:CallOK prog w K mg mb T Gs Os n C)
    (XS':∀ (env':Env) (sc':Scope),EnvOK env' sc'→SoundE prog w K mg mb T Gs Os env' n (xs sc').E) :
    SoundE prog w K mg mb T Gs Os env n (stepE T C sc x xs):=by
  intro base W e k σ h A s ρ F a R Q E hq
  cases e with
  | Constant c i p=>exact eConst_ok h R hq
  | Name m p=>
    change (match isCellN sc m with | true=>pCell m k σ | false=>pName T sc m (fun v=>k v σ) σ.l:Prop) at h
    split at h
    · rename_i hn
      exact cellName_ok V R hn h fun v pv hv hk=>hq v s ρ pv σ (.refl _) hv R hk
    · exact name_ok W V R h fun v pv hv hk=>hq v s ρ pv σ (.refl _) hv R hk
  | Attribute o at' p=>
    cases o<;>try exact h.elim
    refine attrName (SE base W _ _ σ h A s ρ F a R _ _ fun v s₁ ρ₁ pv σ₁ x₁ hv R₁ h₁=>?_)
    exact attr_ok W R₁ h₁ hv fun u pu tk hu hk=>hq u _ ρ₁ pu σ₁ x₁ hu R₁.toks hk
  | BinOp l op r p=>
    refine wpAny_BinOp (SE base W _ _ σ h A s ρ F a R _ _ fun v s₁ ρ₁ pv σ₁ x₁ hv R₁ h₁=>SE base W _ _ σ₁ h₁ A s₁ ρ₁ F a R₁ _ _ fun u s₂ ρ₂ pu σ₂ x₂ hu R₂ h₂=>?_)
    exact binH_ok W R₂ h₂ (hv.ext x₂) hu fun y s' ρ' py H' x' hy R' hk=>hq y s' ρ' py { σ₂ with H:=H' } ((x₁.trans x₂).trans x') hy R' hk
  | UnaryOp op e p=>
    cases op<;>try exact h.elim
    refine wpAny_UnaryOp (SE base W _ _ σ h A s ρ F a R _ _ fun v s₁ ρ₁ pv σ₁ x₁ hv R₁ h₁=>?_)
    cases pv<;>try exact h₁.elim
    obtain ⟨t,rfl⟩:=hv
    exact P.neg_int (hq _ _ ρ₁ (.int _) σ₁ x₁ ⟨_,rfl⟩ R₁.toks h₁)
  | Compare l ops rs p=>
    rcases ops with _ | ⟨op,_ | ⟨_,_⟩⟩<;>try exact h.elim
    rcases rs with _ | ⟨r,_ | ⟨_,_⟩⟩<;>try exact h.elim
    have h':eCmp T sc x l op r (fun c=>k (.bool c)) σ:=h
    obtain ⟨hm,hw⟩:=eCmp_ok (E:=E) V SE W h' a R (Q:=Q) fun b s' ρ' σ' x' R' hk=>hq _ s' ρ' (.bool b) σ' x' rfl R' hk
    exact wpAny_Compare1 hw hm
  | Subscript o i p=>exact eSub_ok V SE W h a R hq
  | Call f args kws p=>
    rcases kws with _ | ⟨_,_⟩
    · unfold stepE at h
      dsimp only at h
      cases hs:(noStar args&&Nat.blt args.length 29) with
      | false=>rw [hs] at h;exact h.elim
      | true=>
        rw [hs] at h
        rw [Bool.and_eq_true] at hs
        cases f<;>try exact h.elim
        · exact eCallM_ok SE CO W hs.1 (Nat.le_of_ble_eq_true hs.2) h a R hq
        · exact eCallN_ok V SE CO W hs.1 h a R hq
    · exact h.elim
  | List es p=>
    change (match noStar es&&Nat.ble es.length 3000 with | true=>_ | false=>False:Prop) at h
    split at h
    · rename_i hb
      rw [Bool.and_eq_true] at hb
      refine disp_list hb.1 (es_ok W SE _ _ σ h A s ρ F a R _ _ fun vs s₁ ρ₁ ps σ₁ x₁ hvs R₁ h₁=>⟨by rw [hvs.len,sizeLine_eq];have:=h₁.1;(exact ar_46gs h₁.1),?_⟩)
      have Rm:=R₁.hr.make (h':=s₁.heap.push { cls:=.type "list",data:=.seq vs.toArray }) (ao:=.lst ps) (fun b o e=>Heap.get?_push_of_some _ e) (Nat.le_refl _) ⟨_,_,_,Heap.get?_push_size _ rfl,rfl,rfl,by simpa using hvs⟩
      exact hq _ _ _ (.loc σ₁.H.length) { σ₁ with H:=σ₁.H++[_] } (x₁.trans (HR.mkExt _ _)) ⟨_,os_at R₁.hr.len,rfl⟩ ⟨Rm,R₁.g,R₁.gens,R₁.os⟩ h₁.2
    · exact h.elim
  | IfExp t a' b' p=>
    refine wpAny_IfExp (ST base W _ _ σ h A s ρ F a R _ _ fun c s₁ ρ₁ σ₁ x₁ R₁ h₁=>?_)
    cases c with
    | true=>exact SE base W _ _ σ₁ h₁ A s₁ ρ₁ F a R₁ Q E fun v s₂ ρ₂ pv σ₂ x₂ hv R₂ h₂=>hq v s₂ ρ₂ pv σ₂ (x₁.trans x₂) hv R₂ h₂
    | false=>exact SE base W _ _ σ₁ h₁ A s₁ ρ₁ F a R₁ Q E fun v s₂ ρ₂ pv σ₂ x₂ hv R₂ h₂=>hq v s₂ ρ₂ pv σ₂ (x₁.trans x₂) hv R₂ h₂
  | ListComp e g sc' p=>
    change (match asComp (.ListComp e g sc' p) with | some c=>pComp sc x xs c.elt c.y c.iter c.sc k σ | none=>False:Prop) at h
    split at h
    · rename_i c hc
      rw [asComp_is hc]
      exact comp_eval V W SE XS' R a h hq
    · exact h.elim
  | _=>exact h.elim
end
end Mine

open PySem PySem.W PyProof.Rows PySem.Calls PySem.Builtin PySem.Builtin.Str
set_option maxRecDepth 100000
set_option Elab.async false
set_option backward.match.sparseCases false
namespace Mine
noncomputable def XS (base:Heap) (L e C:Addr) (h:Heap):Prop:=
  base.get? e=none∧((∃ t ox,h.get? e=some ox∧ox.cls=.ref C∧ox.data=.fields #[.ref t,.none,.none,.none,.bool false,.none])∨∃ a0,h.TracedAtW base e (.ref C) a0 (rawInt L))
section
variable {M:Model} {K:Frag} {base:Heap} {Gs:Array GenState} {Os:OsState} {ρ:Rho} {S:Option Fs} {g:Nat} {H:List AO} {env:Env} {l:Fs} {F:List Fm} {A:Around} {n:Nat} {E:Value→Shared→Prop} {s:Shared} {e C:Addr}
theorem RR.slots {h':Heap} (R:RR K base Gs Os ρ S g H F s) (k:s.heap.UpToSlots h') (st:base.StaysIn h'):RR K base Gs Os ρ S g H F { s with heap:=h' }:=⟨R.hr.slots k st,R.g,R.gens,R.os⟩
theorem note_ok {Q:Unit→Shared→Prop} (hfr:A.frames=some (frE (env::F.map Fm.env))) (hf:env.frame=some env.locals) (R:RR K base Gs Os ρ S g H (⟨env,l⟩::F) s) (X:XS base env.locals e C s.heap)
    (hq:∀ s' a0,RR K base Gs Os ρ S g H (⟨env,l⟩::F) s'→base.get? e=none→s'.heap.TracedAtW base e (.ref C) a0 (rawInt env.locals)→Q () s'):wpAny M A (noteFrame (.ref e) env) Q E s:=by
  obtain ⟨hn,⟨t,ox,he,hc,hd⟩ | ⟨a0,ht⟩⟩:=X
  · have h1:(#[.ref t,.none,.none,.none,.bool false,.none]:Array Value)[1]?=some .none:=rfl
    unfold noteFrame
    simp only [hf]
    refine wpAny_bind (wpAny_field he hd h1 ?_)
    rw [if_neg (by decide)]
    refine wpAny_entryW (base:=base) (outer:=frE (F.map Fm.env)) (a0:=.ref t) (frE_cons hf▸hfr) (frE_cons hf▸R.hr.funs) hf he R.hr.stays hn hd (Array.getElem?_eq_some_iff.mp h1).1 rfl fun h' ⟨x1,x2,x3,x4⟩=>?_
    rw [hc] at x3
    exact hq _ _ (R.slots x4 x1) hn x3
  · exact wpAny_noteFrame_againW hf ht (hq s a0 R hn ht)
theorem came_ok (hf:env.frame=some env.locals) (R:RR K base Gs Os ρ S g H (⟨env,l⟩::F) s) {a0:Value} (hn:base.get? e=none) (ht:s.heap.TracedAtW base e (.ref C) a0 (rawInt env.locals))
    (hq:∀ s',RR K base Gs Os ρ S g H (⟨env,l⟩::F) s'→XS base env.locals e C s'.heap→E (.ref e) s'):cameBackBy M A env E (.ref e) s:=by
  obtain ⟨oe,vs,T,oT,ts,he,hcls,hd,h1,hnT,hTe,hT,hdT,h3⟩:=ht
  have hsz3:3 < ts.size:=(Array.getElem?_eq_some_iff.mp h3).1
  have other:∀ b,b≠T→(s.heap.update T (Obj.mapFields (·.setIfInBounds 3 ((some env.locals:Option Addr).elim Value.none fun f=>rawInt f)))).get? b=s.heap.get? b:=
    fun b hb=>Heap.get?_update_other _ _ (Ne.symm hb)
  have noRecord:∀ b o,s.heap.get? b=some o→(∀ vs,o.data≠.fields vs)→b≠T:=fun b o hb hnf q=>by
    rw [q,hT] at hb;injection hb with hb;subst hb;exact hnf ts hdT
  unfold cameBackBy
  refine wpAny_bind (wpAny_field he hd h1 ?_)
  rw [if_neg (by simp)]
  show wpAny _ _ (setFlight _ env.frame) _ _ _
  rw [hf]
  unfold setFlight
  refine wpAny_bind (wpAny_field he hd h1 ?_)
  rw [if_pos (show (Value.ref T != Value.none)=true from by simp)]
  refine wpAny_setField hT hdT hsz3 (hq { s with heap:=_ } (R.slots (fun b o hb hnf=>⟨o.slots,(other b (noRecord b o hb hnf)).trans hb⟩)
    (fun b o hbo=>(other b fun q=>by rw [q,hnT] at hbo;cases hbo).trans (R.hr.stays b o hbo))) ⟨hn,.inr ⟨a0,?_⟩⟩)
  exact ⟨oe,vs,T,_,_,(other e (Ne.symm hTe)).trans he,hcls,hd,h1,hnT,hTe,Heap.get?_update_self _ hT (Obj.isFreed_of_fields (Obj.data_mapFields hdT _)),Obj.data_mapFields hdT _,by simp [hsz3]⟩
theorem passes {M:Model} (hfr:A.frames=some (frE (env::F.map Fm.env))) (hf:env.frame=some env.locals) (R:RR K base Gs Os ρ S g H (⟨env,l⟩::F) s) (X:XS base env.locals e C s.heap)
    (hq:∀ s',RR K base Gs Os ρ S g H (⟨env,l⟩::F) s'→XS base env.locals e C s'.heap→E (.ref e) s'):notedBy M A env (cameBackBy M A env E) (.ref e) s:=
  note_ok hfr hf R X fun s' a0 R' hn ht=>came_ok hf R' hn ht hq
end
end Mine

open PySem PySem.W PyProof.Rows PySem.Calls PySem.Builtin PySem.Builtin.Str
set_option maxRecDepth 100000
set_option Elab.async false
set_option backward.match.sparseCases false
namespace Mine
section
variable {prog:Program} {w:World} {K:Frag} {base:Heap} {mg mb:Str→Option Value} {T:Tabs} (W:Facts prog w K base mg mb T) {Gs:Array GenState} {Os:OsState}
theorem truthy_ok {A:Around} {s:Shared} {ρ:Rho} {v:Value} {b:Bool} (h:VR K ρ v (.bool b)) {M:Model} {Q:Bool→Shared→Prop} {E:Value→Shared→Prop} (q:Q b s):wpAny M A (truthy v) Q E s:=by
  obtain rfl:=h;exact wpAny_truthy_bool q
include W in
theorem all_ok {env:Env} {n:Nat} {x:Px} (ST:SoundT prog w K mg mb T Gs Os env n x.T) (op:BoolOp):∀ (l:List Ex) (k:Bool→St→Prop) (σ:St),pAll x op l k σ →
    ∀ (A:Around) (s:Shared) (ρ:Rho) (F:List Fm),AOk A (env::F.map Fm.env) (2 * n+1)→RR K base Gs Os ρ σ.S σ.g σ.H (⟨env,σ.l⟩::F) s→∀ (Q:Bool→Shared→Prop) (E:Value→Shared→Prop),
    (∀ b s' ρ' σ',Ext ρ ρ'→RR K base Gs Os ρ' σ'.S σ'.g σ'.H (⟨env,σ'.l⟩::F) s'→k b σ'→Q b s')→wpAny (model prog w) A (allTrue op l env) Q E s
  | [],k,σ,h,A,s,ρ,F,_,R,Q,E,hq=>by
    cases op with
    | And=>exact wpAny_allTrue_And_nil (hq _ s ρ σ (.refl _) R h)
    | Or=>exact wpAny_allTrue_Or_nil (hq _ s ρ σ (.refl _) R h)
  | e::r,k,σ,h,A,s,ρ,F,a,R,Q,E,hq=>by
    cases op with
    | And=>
      refine wpAny_allTrue_And_cons (ST base W e _ σ h A s ρ F a R _ _ fun b s₁ ρ₁ σ₁ x₁ R₁ h₁=>?_)
      cases b with
      | true=>exact all_ok ST .And r k σ₁ h₁ A s₁ ρ₁ F a R₁ Q E fun b s₂ ρ₂ σ₂ x₂ R₂ h₂=>hq b s₂ ρ₂ σ₂ (x₁.trans x₂) R₂ h₂
      | false=>exact hq _ _ ρ₁ σ₁ x₁ R₁ h₁
    | Or=>
      refine wpAny_allTrue_Or_cons (ST base W e _ σ h A s ρ F a R _ _ fun b s₁ ρ₁ σ₁ x₁ R₁ h₁=>?_)
      cases b with
      | false=>exact all_ok ST .Or r k σ₁ h₁ A s₁ ρ₁ F a R₁ Q E fun b s₂ ρ₂ σ₂ x₂ R₂ h₂=>hq b s₂ ρ₂ σ₂ (x₁.trans x₂) R₂ h₂
      | true=>exact hq _ _ ρ₁ σ₁ x₁ R₁ h₁
omit W in
theorem stepT_ok {env:Env} {sc:Scope} {n:Nat} {x:Px} (V:EnvOK env sc) (SE:SoundE prog w K mg mb T Gs Os env n x.E) (ST:SoundT prog w K mg mb T Gs Os env n x.T) :
    SoundT prog w K mg mb T Gs Os env n (stepT T sc x):=by
  intro base W e k σ h A s ρ F a R Q E hq
  have val:∀ e:Ex,tVal x e k σ→isTrue e env (eval e env)=(do let v ← eval e env;standAt (PySem.Expr.pos e);holding [v] (truthy v))→wpAny (model prog w) A (isTrue e env (eval e env)) Q E s:=by
    intro e h he
    unfold tVal at h
    split at h
    · refine wpAny_isTrue_value (SE base W _ _ σ h A s ρ F a R _ _ fun v s₁ ρ₁ pv σ₁ x₁ hv R₁ h₁=>?_) he
      cases pv<;>try exact h₁.elim
      exact truthy_ok hv (hq _ _ ρ₁ σ₁ x₁ R₁ h₁)
    · exact h.elim
  cases e with
  | UnaryOp op e p=>
    cases op<;>try exact h.elim
    exact wpAny_isTrue_Not (ST base W _ _ σ h A s ρ F a R _ _ fun b s₁ ρ₁ σ₁ x₁ R₁ h₁=>hq _ s₁ ρ₁ σ₁ x₁ R₁ h₁)
  | BoolOp op vs p=>exact wpAny_isTrue_BoolOp (all_ok W ST _ _ k σ h A s ρ F a R Q E hq)
  | Compare l ops rs p=>
    rcases ops with _ | ⟨op,_ | ⟨_,_⟩⟩<;>try exact h.elim
    rcases rs with _ | ⟨r,_ | ⟨_,_⟩⟩<;>try exact h.elim
    have h':eCmp T sc x l op r k σ:=h
    obtain ⟨hm,hw⟩:=eCmp_ok (E:=E) V SE W h' a R (Q:=fun v s'=>wpAny (model prog w) A (truthy v) Q E s') fun b s' ρ' σ' x' R' hk=>truthy_ok (K:=K) (ρ:=ρ') rfl (hq _ _ ρ' σ' x' R' hk)
    exact wpAny_isTrue_Compare1 hw hm
  | Name=>exact val _ h rfl
  | Constant=>exact val _ h rfl
  | Call=>exact val _ h rfl
  | Attribute=>exact val _ h rfl
  | _=>exact h.elim
end
end Mine

open PySem PySem.W PyProof.Rows PySem.Calls PySem.Builtin PySem.Builtin.Str
set_option maxRecDepth 100000
set_option Elab.async false
set_option backward.match.sparseCases true
namespace Mine
noncomputable abbrev excBm:List Value:=[.type "Exception",.type "BaseException",.type "object"]
noncomputable def excD (K:Frag) (C:Addr) (bmB:List Value) (newId:String) (cd:ClassData) (sl:List (Option Value)):Bool:=match cd.mro,sl with
    | .ref C'::bm,[_,_,_,_,some (.builtin n),_]=>C'==C&&n==newId&&!cd.hasDel&&tailIn K bmB bm&&nsOkIn K cd.ns&&nsIn K cd.ns "__init__"==some none
    | _,_=>false
theorem excIn_cls {K:Frag} {C:Addr} {bmB:List Value} {newId:String} (q:excIn K C bmB newId=true):∃ dd cd sl,K.lookup C=some ⟨.type "type",dd,.cls cd,sl⟩∧excD K C bmB newId cd sl.toList=true:=by
  unfold excIn at q
  cases e:K.lookup C with
  | none=>rw [e] at q;exact (Bool.false_ne_true q).elim
  | some o=>
    rw [e] at q
    obtain ⟨cls,dd,data,sl⟩:=o
    cases cls<;>try exact (Bool.false_ne_true q).elim
    rename_i s
    by_cases h:s="type"
    · subst h
      cases data<;>try exact (Bool.false_ne_true q).elim
      exact ⟨dd,_,sl,rfl,q⟩
    · delta PySem.W.excIn.match_6 PySem.W.nsOkIn._sparseCasesOn_4 PySem.W.excIn._sparseCasesOn_6 at q
      dsimp only at q
      rw [dif_neg h] at q
      exact (Bool.false_ne_true q).elim
theorem excD_is {K:Frag} {C:Addr} {bmB:List Value} {newId:String} {cd:ClassData} {sl:List (Option Value)} (q:excD K C bmB newId cd sl=true):∃ bm k0 k1 k2 k3 k5,cd.mro=.ref C::bm∧sl=[k0,k1,k2,k3,some (.builtin newId),k5]∧cd.hasDel=false∧tailIn K bmB bm=true∧nsOkIn K cd.ns=true∧nsIn K cd.ns "__init__"=some none:=by
  unfold excD at q
  generalize cd.mro=m at q ⊢
  rcases m with _ | ⟨v,bm⟩
  · exact (Bool.false_ne_true q).elim
  cases v<;>try exact (Bool.false_ne_true q).elim
  rename_i C'
  rcases sl with _ | ⟨k0,_ | ⟨k1,_ | ⟨k2,_ | ⟨k3,_ | ⟨_ | v,r⟩⟩⟩⟩⟩<;>try exact (Bool.false_ne_true q).elim
  cases v<;>try exact (Bool.false_ne_true q).elim
  rename_i n
  rcases r with _ | ⟨k5,_ | ⟨_,_⟩⟩<;>try exact (Bool.false_ne_true q).elim
  replace q:(C'==C&&n==newId&&!cd.hasDel&&tailIn K bmB bm&&nsOkIn K cd.ns&&nsIn K cd.ns "__init__"==some none)=true:=q
  simp only [Bool.and_eq_true,beq_iff_eq,Bool.not_eq_true'] at q
  obtain ⟨⟨⟨⟨⟨rfl,rfl⟩,hdel⟩,ht⟩,hok⟩,hni⟩:=q
  exact ⟨bm,k0,k1,k2,k3,k5,rfl,rfl,hdel,ht,hok,hni⟩
inductive ExcObj (h₀:Heap) (C:Addr) (bmB:List Value) (newId:String):Prop where
  | mk (bm:List Value) (N:Addr) (nm qn:Str) (bs:List Value) (hdct:Bool) (sn:List Str) (sub:List Value) (ab:Bool) (col:Option Bool) (dd:Option Addr) (k0 k1 k2 k3 k5:Option Value) (mN:Str→Option Value)
    (h1:h₀.get? C=some (excClassObj nm qn C N bs bm hdct sn sub ab col dd k0 k1 k2 k3 k5 newId)) (h2:h₀.Ns N mN) (h3:mN "__init__"=none) (h4:OwnTail h₀ bmB bm):ExcObj h₀ C bmB newId
theorem exc_obj {K:Frag} {h₀:Heap} {C:Addr} {bmB:List Value} {newId:String} (X:K.In h₀) (q:excIn K C bmB newId=true):ExcObj h₀ C bmB newId:=by
  obtain ⟨dd,⟨nm,bs,mro,ns,qn,hd,sn,sub,ab,col,del⟩,⟨l⟩,ho,hD⟩:=excIn_cls q
  obtain ⟨bm,k0,k1,k2,k3,k5,e1,e2,e3,ht,hok,hni⟩:=excD_is hD
  dsimp only at e1 e2 e3 hok hni
  subst e1 e2 e3
  exact ⟨bm,ns,nm,qn,bs,hd,sn,sub,ab,col,dd,k0,k1,k2,k3,k5,_,X _ _ ho,.of_isNs (isNs_of_in X hok),nsMap_none_of_in X hok hni,tail_of_in X ht⟩
noncomputable def FR (K:Frag) (ρ:Rho) (f:Flow):Ot→Prop
  | .next=>f=.next
  | .brk=>f=.brk
  | .cont=>f=.cont
  | .ret pv=>∃ v,f=.ret v∧VR K ρ v pv
  | .exc _=>False
section
variable (prog:Program) (w:World) (K:Frag) (mg mb:Str→Option Value) (T:Tabs) (Gs:Array GenState) (Os:OsState)
noncomputable def SoundS (env:Env) (n:Nat) (x:Stmt→SK):Prop:=
  ∀ (base:Heap),Facts prog w K base mg mb T→∀ st k σ,x st k σ→∀ (A:Around) (s:Shared) (ρ:Rho) (F:List Fm),AOk A (env::F.map Fm.env) (2 * n+1)→RR K base Gs Os ρ σ.S σ.g σ.H (⟨env,σ.l⟩::F) s→∀ (Q:Flow→Shared→Prop) (E:Value→Shared→Prop),
    (∀ f s' ρ' o σ',Ext ρ ρ'→FR K ρ' f o→RR K base Gs Os ρ' σ'.S σ'.g σ'.H (⟨env,σ'.l⟩::F) s'→k o σ'→Q f s') →
    (∀ e s' ρ' C σ',Ext ρ ρ'→RR K base Gs Os ρ' σ'.S σ'.g σ'.H (⟨env,σ'.l⟩::F) s'→XS base env.locals e C s'.heap→k (.exc C) σ'→E (.ref e) s')→wpAny (model prog w) A (exec st env) Q E s
noncomputable def SoundSs (env:Env) (n:Nat) (x:List Stmt→SK):Prop:=
  ∀ (base:Heap),Facts prog w K base mg mb T→∀ st k σ,x st k σ→∀ (A:Around) (s:Shared) (ρ:Rho) (F:List Fm),AOk A (env::F.map Fm.env) (2 * n+1)→RR K base Gs Os ρ σ.S σ.g σ.H (⟨env,σ.l⟩::F) s→∀ (Q:Flow→Shared→Prop) (E:Value→Shared→Prop),
    (∀ f s' ρ' o σ',Ext ρ ρ'→FR K ρ' f o→RR K base Gs Os ρ' σ'.S σ'.g σ'.H (⟨env,σ'.l⟩::F) s'→k o σ'→Q f s') →
    (∀ e s' ρ' C σ',Ext ρ ρ'→RR K base Gs Os ρ' σ'.S σ'.g σ'.H (⟨env,σ'.l⟩::F) s'→XS base env.locals e C s'.heap→k (.exc C) σ'→E (.ref e) s')→wpAny (model prog w) A (execs st env) Q E s
end
section
variable {prog:Program} {w:World} {K:Frag} {mg mb:Str→Option Value} {T:Tabs} {Gs:Array GenState} {Os:OsState} {env:Env} {n:Nat} {x:Px}
theorem ss_ok (SS:SoundS prog w K mg mb T Gs Os env n x.S):SoundSs prog w K mg mb T Gs Os env n (pSs x):=by
  intro base W st
  induction st with
  | nil=>intro k σ h A s ρ F a R Q E hq _;exact wpAny_execs_nil (hq .next s ρ .next σ (.refl _) rfl R h)
  | cons st r ih=>
    intro k σ h A s ρ F a R Q E hq he
    refine wpAny_execs_cons (SS base W st _ σ h A s ρ F a R _ _ (fun f s₁ ρ₁ o σ₁ x₁ hf R₁ h₁=>?_) fun e s₁ ρ₁ C σ₁ x₁ R₁ X h₁=>he e s₁ ρ₁ C σ₁ x₁ R₁ X h₁)
    cases o with
    | next=>
      obtain rfl:=hf
      exact ih k σ₁ h₁ A s₁ ρ₁ F a R₁ Q E (fun f s₂ ρ₂ o σ₂ x₂ hf R₂ h₂=>hq f s₂ ρ₂ o σ₂ (x₁.trans x₂) hf R₂ h₂) fun e s₂ ρ₂ C σ₂ x₂ R₂ X h₂=>he e s₂ ρ₂ C σ₂ (x₁.trans x₂) R₂ X h₂
    | brk=>obtain rfl:=hf;exact hq _ s₁ ρ₁ .brk σ₁ x₁ rfl R₁ h₁
    | cont=>obtain rfl:=hf;exact hq _ s₁ ρ₁ .cont σ₁ x₁ rfl R₁ h₁
    | ret pv=>obtain ⟨v,rfl,hv⟩:=hf;exact hq _ s₁ ρ₁ (.ret pv) σ₁ x₁ ⟨v,rfl,hv⟩ R₁ h₁
    | exc C=>exact hf.elim
theorem raise_ok {base:Heap} (W:Facts prog w K base mg mb T) {A:Around} {s:Shared} {ρ:Rho} {σ:St} {F:List Fm} (a:AOk A (env::F.map Fm.env) (2 * n+1)) (R:RR K base Gs Os ρ σ.S σ.g σ.H (⟨env,σ.l⟩::F) s)
    {x:Str} {C:Addr} {np cpos pos:Pos} {Q:Flow→Shared→Prop} {E:Value→Shared→Prop} (hx:T.exc C=true) (hn:∀ (Q:Value→Shared→Prop) (E:Value→Shared→Prop),Q (.ref C) s→wpAny (model prog w) A (eval (.Name x np) env) Q E s)
    (he:∀ e s',RR K base Gs Os ρ σ.S σ.g σ.H (⟨env,σ.l⟩::F) s'→XS base env.locals e C s'.heap→E (.ref e) s') :
    wpAny (model prog w) A (exec (.Raise (some (.Call (.Name x np) [] [] cpos)) none pos) env) Q E s:=by
  obtain ⟨bm,N,nm,q,bs,hdct,sn,sub,ab,col,dd,k0,k1,k2,k3,k5,mN,hC,hN,hni,T'⟩:=exc_obj (R.hr.inK W) (W.exc C hx)
  refine wpAny_Raise_call_subU (C:=C) (nm:=nm) (q:=q) (N:=N) (bs:=bs) (bm:=bm) (hdct:=hdct) (sn:=sn) (sub:=sub) (ab:=ab) (col:=col) (dd:=dd) (k0:=k0) (k1:=k1) (k2:=k2) (k3:=k3) (k5:=k5)
    PySem.F.excBase_Exception (by decide) PySem.F.excBase_Exception (mN:=mN) (T'.hasType PySem.F.excBase_Exception.hasBase) a.handled rfl hni (hn _ _ ⟨rfl,?_⟩)
  refine PyProof.Rows.evalArgs_empty ⟨rfl,Nat.zero_le _,hC,hN,T',fun h' e M=>?_⟩
  obtain ⟨t,ht,_⟩:=M.there
  have fresh:base.get? e=none:=by
    cases q:base.get? e with
    | none=>rfl
    | some o=>have:=R.hr.stays e o q;rw [M.new] at this;cases this
  exact he e { s with heap:=h' } (R.keeps M.keeps) ⟨fresh,.inl ⟨t,_,ht,rfl,rfl⟩⟩
theorem catch_ok (hfr:env.frame=some env.locals) {base:Heap} (W:Facts prog w K base mg mb T) {A:Around} {s:Shared} {ρ:Rho} {σ:St} {F:List Fm} (a:AOk A (env::F.map Fm.env) (2 * n+1)) (R:RR K base Gs Os ρ σ.S σ.g σ.H (⟨env,σ.l⟩::F) s)
    {x:Str} {e C:Addr} {np pp hp:Pos} {Q:Flow→Shared→Prop} {E:Value→Shared→Prop} (hx:T.exc C=true) (X:XS base env.locals e C s.heap)
    (hn:∀ (A:Around) (s':Shared) (Q:Value→Shared→Prop) (E:Value→Shared→Prop),RR K base Gs Os ρ σ.S σ.g σ.H (⟨env,σ.l⟩::F) s'→Q (.ref C) s'→wpAny (model prog w) A (eval (.Name x np) env) Q E s')
    (hq:∀ s',RR K base Gs Os ρ σ.S σ.g σ.H (⟨env,σ.l⟩::F) s'→Q .next s') :
    wpAny (model prog w) A (noteFrame (.ref e) env) (fun _ s₂=>wpAny (model prog w) A (setFlight (.ref e) none) (fun _ s₃=>
      wpAny (model prog w) A (handleBy (.ref e) env [.ExceptHandler (some (.Name x np)) none [.Pass pp] hp]) Q E s₃) E s₂) E s:=by
  refine note_ok a.frames hfr R X fun s₁ a0 R₁ hn₁ ht₁=>?_
  refine wpAny_landsW (base:=base) (l:=frE (env::F.map Fm.env)) (L:=env.locals) ⟨R₁.hr.stays,hn₁,R₁.hr.funs,ht₁⟩ fun h₂ hfl₂ k₂=>?_
  have R₂:=R₁.slots k₂ hfl₂.1
  refine wpAny_handleBy_cons (codeAny_handlers_test (hn _ _ _ _ R₂ ?_)) (by intro q;cases q)
  obtain ⟨ob,hob,hobc⟩:=hfl₂.there
  obtain ⟨bm,N,nm,q,bs,hdct,sn,sub,ab,col,dd,k0,k1,k2,k3,k5,mN,hC,hN,hni,T'⟩:=exc_obj (R₂.hr.inK W) (W.exc C hx)
  refine wpAny_excMatches_sub_self hC hob hobc (T'.hasType PySem.F.excBase_Exception.hasBase) (codeAny_handlers_suite ?_)
  refine lands_againW hfl₂ fun h₃ hfl₃ k₃=>?_
  have R₃:=R₂.slots k₃ hfl₃.1
  exact wpAny_execs_cons (wpAny_Pass (wpAny_execs_nil (hq _ R₃)))
end
end Mine

open PySem PySem.W PyProof.Rows PySem.Calls PySem.Builtin PySem.Builtin.Str
set_option maxRecDepth 100000
set_option Elab.async false
set_option backward.match.sparseCases false
namespace Mine
section
variable {prog:Program} {w:World} {K:Frag} {mg mb:Str→Option Value} {T:Tabs} {Gs:Array GenState} {Os:OsState} {env:Env} {n:Nat} {x:Px} {sc:Scope} {base:Heap}
theorem while_ok (hfr:env.frame=some env.locals) (ST:SoundT prog w K mg mb T Gs Os env n x.T) (SS:SoundSs prog w K mg mb T Gs Os env n (pSs x)) (W:Facts prog w K base mg mb T) {t:Ex} {b o:List Stmt} {k:Ot→St→Prop} {m:Nat} {σ:St}
    (h:pWh x t b o k m σ) {A:Around} {s:Shared} {ρ:Rho} {F:List Fm} (a:AOk A (env::F.map Fm.env) (2 * n+1)) (R:RR K base Gs Os ρ σ.S σ.g σ.H (⟨env,σ.l⟩::F) s) {pos:Pos} {Q:Flow→Shared→Prop} {E:Value→Shared→Prop}
    (hq:∀ f s' ρ' o σ',Ext ρ ρ'→FR K ρ' f o→RR K base Gs Os ρ' σ'.S σ'.g σ'.H (⟨env,σ'.l⟩::F) s'→k o σ'→Q f s')
    (he:∀ e s' ρ' C σ',Ext ρ ρ'→RR K base Gs Os ρ' σ'.S σ'.g σ'.H (⟨env,σ'.l⟩::F) s'→XS base env.locals e C s'.heap→k (.exc C) σ'→E (.ref e) s') :
    wpAny (model prog w) A (exec (.While t b o pos) env) Q E s:=by
  refine wpAny_While (codeAny_whileLoop (fun m s'=>∃ ρ' σ',Ext ρ ρ'∧RR K base Gs Os ρ' σ'.S σ'.g σ'.H (⟨env,σ'.l⟩::F) s'∧pWh x t b o k m σ') ?_ m ⟨ρ,σ,.refl _,R,h⟩)
  rintro m s₀ ⟨ρ₀,σ₀,x₀,R₀,h₀⟩
  cases m with
  | zero=>exact h₀.elim
  | succ m=>
    have hexc:∀ e s' ρ' C σ',Ext ρ₀ ρ'→RR K base Gs Os ρ' σ'.S σ'.g σ'.H (⟨env,σ'.l⟩::F) s'→XS base env.locals e C s'.heap→k (.exc C) σ' →
        notedBy (model prog w) A env (fun e s'=>cameBackBy (model prog w) A env E e s') (.ref e) s':=fun e s' ρ' C σ' x' R' X h'=>
      passes a.frames hfr R' X fun s'' R'' X'=>he e s'' ρ' C σ' (x₀.trans x') R'' X' h'
    refine ST base W _ _ σ₀ h₀ A s₀ ρ₀ F a R₀ _ _ fun c s₁ ρ₁ σ₁ x₁ R₁ h₁=>?_
    cases c with
    | true=>
      rw [if_pos rfl]
      refine SS base W _ _ σ₁ h₁ A s₁ ρ₁ F a R₁ _ _ (fun f s₂ ρ₂ o' σ₂ x₂ hf R₂ h₂=>?_) fun e s₂ ρ₂ C σ₂ x₂ R₂ X h₂=>hexc e s₂ ρ₂ C σ₂ (x₁.trans x₂) R₂ X h₂
      cases o' with
      | next=>obtain rfl:=hf;exact ⟨m,Nat.lt_succ_self _,ρ₂,σ₂,(x₀.trans x₁).trans x₂,R₂,h₂⟩
      | cont=>obtain rfl:=hf;exact ⟨m,Nat.lt_succ_self _,ρ₂,σ₂,(x₀.trans x₁).trans x₂,R₂,h₂⟩
      | brk=>obtain rfl:=hf;exact hq _ s₂ ρ₂ .next σ₂ ((x₀.trans x₁).trans x₂) rfl R₂ h₂
      | ret pv=>obtain ⟨v,rfl,hv⟩:=hf;exact hq _ s₂ ρ₂ (.ret pv) σ₂ ((x₀.trans x₁).trans x₂) ⟨v,rfl,hv⟩ R₂ h₂
      | exc C=>exact hf.elim
    | false=>
      rw [if_neg (by decide)]
      refine SS base W _ _ σ₁ h₁ A s₁ ρ₁ F a R₁ _ _ (fun f s₂ ρ₂ o' σ₂ x₂ hf R₂ h₂=>hq f s₂ ρ₂ o' σ₂ ((x₀.trans x₁).trans x₂) hf R₂ h₂) fun e s₂ ρ₂ C σ₂ x₂ R₂ X h₂=>hexc e s₂ ρ₂ C σ₂ (x₁.trans x₂) R₂ X h₂
theorem XS.back {base':Heap} (k:base.StaysIn base') {L e C:Addr} {h:Heap} (X:XS base' L e C h):XS base L e C h:=by
  obtain ⟨a,b | ⟨a0,oe,vs,T,oT,ts,he,hcls,hd,h1,hnT,r⟩⟩:=X
  · exact ⟨fresh_of_stays k a,.inl b⟩
  · exact ⟨fresh_of_stays k a,.inr ⟨a0,oe,vs,T,oT,ts,he,hcls,hd,h1,fresh_of_stays k hnT,r⟩⟩
noncomputable abbrev PQ (K:Frag) (base:Heap) (Gs:Array GenState) (Os:OsState) (env:Env) (ρ:Rho) (F:List Fm) (k:Ot→St→Prop) (Q:Flow→Shared→Prop):Prop:=
  ∀ f s' ρ' o σ',Ext ρ ρ'→FR K ρ' f o→RR K base Gs Os ρ' σ'.S σ'.g σ'.H (⟨env,σ'.l⟩::F) s'→k o σ'→Q f s'
noncomputable abbrev PE (K:Frag) (base:Heap) (Gs:Array GenState) (Os:OsState) (env:Env) (ρ:Rho) (F:List Fm) (k:Ot→St→Prop) (E:Value→Shared→Prop):Prop:=
  ∀ e s' ρ' C σ',Ext ρ ρ'→RR K base Gs Os ρ' σ'.S σ'.g σ'.H (⟨env,σ'.l⟩::F) s'→XS base env.locals e C s'.heap→k (.exc C) σ'→E (.ref e) s'
noncomputable def turnK (again:St→Prop) (k:Ot→St→Prop):Ot→St→Prop:=fun q σ₂=>match q with | .next=>again σ₂ | .cont=>again σ₂ | .brk=>k .next σ₂ | q=>k q σ₂
theorem turn_end {A:Around} {again:St→Prop} {k:Ot→St→Prop} {ρ₀:Rho} {F:List Fm} {Q:Flow→Shared→Prop} {E:Value→Shared→Prop} {base':Heap} {NX:Shared→Prop}
    (nx:∀ s₃ ρ₃ σ₃,Ext ρ₀ ρ₃→RR K base' Gs Os ρ₃ σ₃.S σ₃.g σ₃.H (⟨env,σ₃.l⟩::F) s₃→again σ₃→NX s₃) (st:base.StaysIn base') (so:base.get? ρ₀.so.1=some ρ₀.so.2) (hq:PQ K base Gs Os env ρ₀ F k Q) :
    PQ K base' Gs Os env ρ₀ F (turnK again k) (fun f s₃=>match f with
      | .next | .cont=>NX s₃
      | .brk=>Q .next s₃
      | .ret v=>Q (.ret v) s₃):=by
  intro f s₃ ρ₃ o σ₃ x₃ hf R₃ h₃
  have R':RR K base Gs Os ρ₃ σ₃.S σ₃.g σ₃.H (⟨env,σ₃.l⟩::F) s₃:=⟨R₃.hr.back st (x₃.so▸so),R₃.g,R₃.gens,R₃.os⟩
  cases o with
  | next=>obtain rfl:=hf;exact nx s₃ ρ₃ σ₃ x₃ R₃ h₃
  | cont=>obtain rfl:=hf;exact nx s₃ ρ₃ σ₃ x₃ R₃ h₃
  | brk=>obtain rfl:=hf;exact hq _ s₃ ρ₃ .next σ₃ x₃ rfl R' h₃
  | ret pv=>obtain ⟨v,rfl,hv⟩:=hf;exact hq _ s₃ ρ₃ (.ret pv) σ₃ x₃ ⟨v,rfl,hv⟩ R' h₃
  | exc C=>exact hf.elim
theorem turn_exc {A:Around} (hfr:env.frame=some env.locals) {again:St→Prop} {k:Ot→St→Prop} {ρ₀:Rho} {F:List Fm} {E:Value→Shared→Prop} {base':Heap} (a:AOk A (env::F.map Fm.env) (2 * n+1))
    (st:base.StaysIn base') (so:base.get? ρ₀.so.1=some ρ₀.so.2) (he:PE K base Gs Os env ρ₀ F k E) :
    PE K base' Gs Os env ρ₀ F (turnK again k) (notedBy (model prog w) A env (fun e s'=>cameBackBy (model prog w) A env E e s')):=by
  intro e s₃ ρ₃ C σ₃ x₃ R₃ X h₃
  have R':RR K base Gs Os ρ₃ σ₃.S σ₃.g σ₃.H (⟨env,σ₃.l⟩::F) s₃:=⟨R₃.hr.back st (x₃.so▸so),R₃.g,R₃.gens,R₃.os⟩
  exact passes a.frames hfr R' (X.back st) fun s'' R'' X'=>he e s'' ρ₃ C σ₃ x₃ R'' X' h₃
theorem PQ.up {ρ ρ₀:Rho} {F:List Fm} {k:Ot→St→Prop} {Q:Flow→Shared→Prop} (x₀:Ext ρ ρ₀) (hq:PQ K base Gs Os env ρ F k Q):PQ K base Gs Os env ρ₀ F k Q:=fun f s' ρ' o σ' x'=>hq f s' ρ' o σ' (x₀.trans x')
theorem PE.up {ρ ρ₀:Rho} {F:List Fm} {k:Ot→St→Prop} {E:Value→Shared→Prop} (x₀:Ext ρ ρ₀) (he:PE K base Gs Os env ρ F k E):PE K base Gs Os env ρ₀ F k E:=fun e s' ρ' C σ' x'=>he e s' ρ' C σ' (x₀.trans x')
theorem isLocal_of (V:EnvOK env sc) {y:Str} (h:isLocal sc y=true):env.kindOf y=some .local:=by
  show env.scope.names.lookup y=_
  rw [V.sc]
  unfold isLocal at h
  split at h
  · assumption
  · cases h
inductive FInv (K:Frag) (base:Heap) (Gs:Array GenState) (Os:OsState) (env:Env) (F:List Fm) (pF:List PV→St→Prop) (It:Nat→Heap→Prop) (items:List PV) (I:Addr) (ρ:Rho) (m:Nat) (s:Shared):Prop
  | mk (ρ':Rho) (σ':St) (j:Nat) (x₁:Ext ρ ρ') (R:RR K base Gs Os ρ' σ'.S σ'.g σ'.H (⟨env,σ'.l⟩::F) s) (it:It j s.heap) (nI:I∉soft ρ' σ'.S (⟨env,σ'.l⟩::F)) (h:pF (items.drop j) σ') (hj:j≤items.length) (hm:m=items.length+1 - j):FInv K base Gs Os env F pF It items I ρ m s
theorem forItr_ok (V:EnvOK env sc) (hfr:env.frame=some env.locals) (SS:SoundSs prog w K mg mb T Gs Os env n (pSs x)) (W:Facts prog w K base mg mb T) {y:Str} {py:Pos} {b:List Stmt} {k:Ot→St→Prop} {I:Addr} {items:List PV} {chk:St→Prop} {It:Nat→Heap→Prop} {A:Around} {ρ:Rho}
    (X:Itr prog w K base A ρ I items chk It) {pF:List PV→St→Prop} (hn:∀ σ,pF [] σ→k .next σ) (hc:∀ v r σ,pF (v::r) σ→pSs x b (turnK (pF r) k) { σ with l:=put y v σ.l }) (hk:∀ l σ,pF l σ→chk σ)
    (hl:isLocal sc y=true) {σ:St} (h:pF items σ) {s:Shared} {F:List Fm} (a:AOk A (env::F.map Fm.env) (2 * n+1)) (R:RR K base Gs Os ρ σ.S σ.g σ.H (⟨env,σ.l⟩::F) s)
    (hI:It 0 s.heap) (nI:I∉soft ρ σ.S (⟨env,σ.l⟩::F)) (bI:base.get? I=none) {Q:Flow→Shared→Prop} {E:Value→Shared→Prop} (hq:PQ K base Gs Os env ρ F k Q) (he:PE K base Gs Os env ρ F k E) :
    codeAny (model prog w) A (.forLoop (.Name y py) (.ref I) b [] env) (fun r s'=>match r with | .ok f=>Q f s' | .error e=>cameBackBy (model prog w) A env E e s') s:=by
  refine codeAny_forLoop (FInv K base Gs Os env F pF It items I ρ) ?_ (items.length+1) ⟨ρ,σ,0,.refl _,R,hI,nI,h,Nat.zero_le _,rfl⟩
  rintro m s₁ ⟨ρ₁,σ₁,j,x₁,R₁,it₁,nI₁,h₁,hj,rfl⟩
  cases hd:items.drop j with
  | nil=>
    rw [hd] at h₁
    refine X.done j (List.getElem?_eq_none_iff.mpr (List.drop_eq_nil_iff.mp hd)) s₁ ρ₁ σ₁ _ x₁ (hk _ _ h₁) R₁.hr it₁ _ _ fun h₂ k₂=>?_
    exact wpAny_execs_nil (hq _ _ ρ₁ .next σ₁ x₁ rfl ⟨R₁.hr.other bI nI₁ k₂,R₁.g,R₁.gens,R₁.os⟩ (hn _ h₁))
  | cons v r=>
    rw [hd] at h₁
    have hlt:j < items.length:=drop_lt hd
    refine X.item j v (drop_at hd) s₁ ρ₁ σ₁ _ x₁ (hk _ _ h₁) R₁.hr it₁ _ _ fun vv h₂ tk₂ hvv it₂ k₂=>?_
    have R₂:RR K base Gs Os ρ₁ σ₁.S σ₁.g σ₁.H (⟨env,σ₁.l⟩::F) { s₁ with heap:=h₂,toks:=tk₂ }:=⟨R₁.hr.other bI nI₁ k₂,R₁.g,R₁.gens,R₁.os⟩
    have hx:env.kindOf y=some .local:=isLocal_of V hl
    have hne:I≠env.locals:=fun q=>nI₁ (q▸List.mem_append_left _ (List.mem_append_left _ (.head _)))
    obtain ⟨mL,nL,rL⟩:=R₂.hr.frames _ (.head _)
    refine wpAny_assign_Name (wpAny_storeName_local hx nL (fun h₃ hn₃ sb₃=>?_) (by rw [show env.scope.kind=.function by rw [V.sc];exact V.kind];rfl))
    have HR₃:=R₂.hr.setLocal (f:=⟨env,σ₁.l⟩) (x:=y) (pv:=v) hx nL rL hvv hn₃ sb₃
    have it₃:=X.own _ _ _ it₂ (sb₃.2 I hne)
    obtain ⟨oI,eI⟩:=X.there _ _ it₃
    have itb:(hideAll h₃ (soft ρ₁ σ₁.S (⟨env,put y v σ₁.l⟩::F))).get? I=some oI:=hideAll_get _ eI nI₁
    refine SS _ (W.keeps HR₃.base_in) _ _ { σ₁ with l:=put y v σ₁.l } (hc _ _ _ h₁) A { s₁ with heap:=h₃,toks:=tk₂+1 } ρ₁ F a ⟨HR₃.rebase,R₂.g,R₂.gens,R₂.os⟩ _ _
      (turn_end (A:=A) (E:=E) (fun s₄ ρ₄ σ₄ x₄ R₄ h₄=>?_) HR₃.base_in HR₃.so (hq.up x₁)) (turn_exc hfr a HR₃.base_in HR₃.so (he.up x₁))
    refine ⟨items.length+1 - (j+1),by (exact ar_6ket hlt),ρ₄,σ₄,j+1,x₁.trans x₄,⟨R₄.hr.back HR₃.base_in (x₄.so▸HR₃.so),R₄.g,R₄.gens,R₄.os⟩,X.own _ _ _ it₃ ((R₄.hr.stays _ _ itb).trans eI.symm),fun q=>?_,drop_next hd▸h₄,hlt,rfl⟩
    have:=R₄.hr.soft_new I q
    rw [itb] at this;cases this
noncomputable def PairsAt (h:Heap):List Value→List (List Nat × List Nat)→Prop
  | [],[]=>True
  | v::vs,p::ps=>(∃ a t u,v=.ref a∧h.IsTuple a #[.str (strL p.1) t,.str (strL p.2) u]∧t≠0∧u≠0∧t≠u)∧PairsAt h vs ps
  | _,_=>False
theorem PairsAt.keep {h h':Heap} (k:∀ b o,h.get? b=some o→h'.get? b=some o):∀ {vs:List Value} {ps:List (List Nat × List Nat)},PairsAt h vs ps→PairsAt h' vs ps
  | [],[],_=>trivial
  | _::_,_::_,⟨⟨a,t,u,e,⟨o,h1,r⟩,q⟩,y⟩=>⟨⟨a,t,u,e,⟨o,k _ _ h1,r⟩,q⟩,y.keep k⟩
  | [],_::_,h=>h.elim
  | _::_,[],h=>h.elim
inductive PairGot (h:Heap) (vs:List Value) (j:Nat) (p:List Nat × List Nat):Prop
  | mk (a:Addr) (t u:Tok) (e:vs[j]?=some (.ref a)) (r:h.IsTuple a #[.str (strL p.1) t,.str (strL p.2) u]) (t0:t≠0) (u0:u≠0) (tu:t≠u):PairGot h vs j p
theorem PairsAt.get {h:Heap} {vs:List Value}:∀ {ps:List (List Nat × List Nat)} {j:Nat} {p:List Nat × List Nat},PairsAt h vs ps→ps[j]?=some p→PairGot h vs j p:=by
  induction vs with
  | nil=>
    intro ps j p y e
    cases ps with
    | nil=>exact (Option.some_ne_none _ e.symm).elim
    | cons=>exact y.elim
  | cons v vs ih=>
    intro ps j p y e
    cases ps with
    | nil=>exact y.elim
    | cons q ps=>
      cases j with
      | zero=>
        obtain ⟨⟨a,t,u,e',r⟩,_⟩:=y
        cases Option.some.inj e
        exact ⟨a,t,u,congrArg some e',r.1,r.2.1,r.2.2.1,r.2.2.2⟩
      | succ j=>
        obtain ⟨a,t,u,r1,r2,r3,r4,r5⟩:=ih (ps:=ps) (j:=j) y.2 e
        exact ⟨a,t,u,r1,r2,r3,r4,r5⟩
theorem PairsAt.notAt {h:Heap} {vs:List Value} {ps:List (List Nat × List Nat)} {j:Nat} {p:List Nat × List Nat} (y:PairsAt h vs ps) (e:ps[j]?=some p) {q I:Addr} (hv:vs[j]?=some (.ref q)) (hI:h.get? I=none):q≠I:=by
  obtain ⟨a,_,_,e',⟨o,ho,_⟩,_⟩:=y.get e
  rintro rfl
  rw [hv] at e'
  rw [← Value.ref.inj (Option.some.inj e'),hI] at ho
  exact Option.some_ne_none _ ho.symm
theorem PairsAt.len {h:Heap}:∀ {vs:List Value} {ps:List (List Nat × List Nat)},PairsAt h vs ps→vs.length=ps.length
  | [],[],_=>rfl
  | _::_,_::_,⟨_,y⟩=>by simp [y.len]
  | [],_::_,h=>h.elim
  | _::_,[],h=>h.elim
end
end Mine

open PySem PySem.W PyProof.Rows PySem.Calls PySem.Builtin PySem.Builtin.Str
set_option maxRecDepth 100000
set_option Elab.async false
set_option backward.match.sparseCases true
namespace Mine
theorem swaps_no {value:Ex} {target:Option Ex} {line:Nat} {env:Env} (h:isComp value=false):swapsWith value target line env=pure false:=by
  cases value<;>first | rfl | exact Bool.noConfusion h
theorem swapsSole_no {value t:Ex} {line:Nat} {env:Env} (h:isComp value=false):swapsWithSole [t] value line env=pure false:=by
  unfold swapsWithSole;exact swaps_no h
theorem swapped_no {value:Ex} {ts:List Ex} {k:Nat} {tp:Pos} {env:Env} (h:isTupE value=false):swappedStores [.Tuple ts k tp] value env=pure none:=by
  cases value<;>first | rfl | exact Bool.noConfusion h
theorem rangeSize_neg (a b:Int):Builtin.Range.rangeSize a b (-1)=if b < a then a - b else 0:=by
  unfold Builtin.Range.rangeSize
  simp only [show ¬ ((-1:Int) > 0) by decide,if_false,show (-(-1):Int)=1 by decide,Int.ediv_one,gt_iff_lt]
  split<;>(first | exact ar_ldwm | exact ar_ci5t)
theorem rangeN_neg (a b:Int):Builtin.Range.rangeSize a b (-1)=(rangeN a b (-1):Nat):=by
  rw [rangeSize_neg]
  have:rangeN a b (-1)=(a - b).toNat:=by unfold rangeN;rw [if_neg (by decide),if_pos rfl]
  rw [this]
  split<;>(first | exact ar_qnmr (by assumption) | exact ar_4h2p (by assumption))
theorem small_neg {a b:Int} (ha:-4000≤a) (ha':a≤4000) (hb:-4000≤b) (hb':b≤4000):Builtin.Range.small a b (-1)=true:=by
  unfold Builtin.Range.small
  rw [rangeSize_neg]
  simp only [Builtin.Range.rangeFitsLong,Bool.and_eq_true,Bool.or_eq_true,decide_eq_true_eq,beq_iff_eq,show ¬ ((-1:Int) > 0) by decide,if_false]
  split<;>(first | exact ar_m62z ha ha' hb hb' | exact ar_4lx6 ha ha' hb hb')
theorem AllR3 {K:Frag} {ρ:Rho} {vs:List Value} {p q r:PV} (h:AllR K ρ vs [p,q,r]):∃ v u u',vs=[v,u,u']∧VR K ρ v p∧VR K ρ u q∧VR K ρ u' r:=by
  cases vs with
  | nil=>exact h.elim
  | cons v r=>
    obtain ⟨u,u',rfl,hu⟩:=AllR2 h.2
    exact ⟨v,u,u',rfl,h.1,hu⟩
section
variable {prog:Program} {w:World} {K:Frag} {mg mb:Str→Option Value} {T:Tabs} {Gs:Array GenState} {Os:OsState} {env:Env} {n:Nat} {x:Px} {sc:Scope} {base:Heap}
theorem kind_of (V:EnvOK env sc):env.scope.kind=.function:=by rw [V.sc];exact V.kind
theorem quiet_of (V:EnvOK env sc):interactive env=false:=by unfold interactive;rw [kind_of V];rfl
theorem store_ok (V:EnvOK env sc) {A:Around} {s:Shared} {ρ:Rho} {σ:St} {F:List Fm} (R:RR K base Gs Os ρ σ.S σ.g σ.H (⟨env,σ.l⟩::F) s) {y:Str} (hl:isLocal sc y=true) {v:Value} {pv:PV} (hv:VR K ρ v pv)
    {Q:Unit→Shared→Prop} {E:Value→Shared→Prop} {M:Model} (hq:∀ s',RR K base Gs Os ρ σ.S σ.g σ.H (⟨env,put y pv σ.l⟩::F) s'→Q () s'):wpAny M A (storeName env y v) Q E s:=
  storeLocal (f:=⟨env,σ.l⟩) R.hr (kind_of V) (isLocal_of V hl) hv fun _ _ R'=>hq _ ⟨R',R.g,R.gens,R.os⟩
theorem storeCell_ok (V:EnvOK env sc) {A:Around} {s:Shared} {ρ:Rho} {σ:St} {F:List Fm} (R:RR K base Gs Os ρ σ.S σ.g σ.H (⟨env,σ.l⟩::F) s) {y:Str} (hl:isCellN sc y=true) {v:Value} {pv:PV} (hv:VR K ρ v pv) {k:St→Prop} (h:pStoreCell y pv k σ)
    {Q:Unit→Shared→Prop} {E:Value→Shared→Prop} {M:Model} (hq:∀ s' H',RR K base Gs Os ρ σ.S σ.g H' (⟨env,σ.l⟩::F) s'→k { σ with H:=H' }→Q () s'):wpAny M A (storeName env y v) Q E s:=by
  have hk:env.kindOf y=some .cell:=by
    show env.scope.names.lookup y=_
    rw [V.sc]
    unfold isCellN at hl
    split at hl
    · assumption
    · cases hl
  unfold pStoreCell at h
  split at h
  · rename_i i hi
    split at h
    · rename_i c hc
      obtain ⟨m,nn,r⟩:=R.hr.frames _ (.head _)
      obtain ⟨u,e,a,ha,hu⟩:=(r y).2 _ hi
      subst hu
      unfold stor at e
      rw [if_pos hk] at e
      obtain ⟨ca,hca,e'⟩:=Option.map_eq_some_iff.mp e
      cases e'
      have hcell:∃ v₀,s.heap.IsCell a v₀:=by
        have z:=R.hr.objs _ _ _ ha hc
        cases c with
        | none=>obtain ⟨o,h1,h2⟩:=z;exact ⟨_,o,h1,h2⟩
        | some pv=>obtain ⟨o,v,h1,h2,_⟩:=z;exact ⟨_,o,h1,h2⟩
      obtain ⟨v₀,hcell⟩:=hcell
      refine wpAny_storeName_cell (by rw [V.sc];exact V.kind) hk hca hcell fun h' hc' sb=>?_
      obtain ⟨o,h1,h2⟩:=hc'
      exact hq _ _ ⟨R.hr.setObj (ao:=.cell (some pv)) ha sb ⟨o,v,h1,h2,hv⟩,R.g,R.gens,R.os⟩ h
    · exact h.elim
  · exact h.elim
theorem forRange_ok (V:EnvOK env sc) (hfr:env.frame=some env.locals) (SS:SoundSs prog w K mg mb T Gs Os env n (pSs x)) (W:Facts prog w K base mg mb T) {y:Str} {py:Pos} {b:List Stmt} {k:Ot→St→Prop} {r:Addr} {a₀ b₀ c:Int} {t₀ t₁ t₂:Tok} {σ:St}
    (hl:isLocal sc y=true) (hsm:Builtin.Range.small a₀ b₀ c=true) {N:Nat} (hN:Builtin.Range.rangeSize a₀ b₀ c=N) (h:pFor x y b k (rangeL a₀ c N) σ) {A:Around} {s:Shared} {ρ:Rho} {F:List Fm} (a:AOk A (env::F.map Fm.env) (2 * n+1))
    (R:RR K base Gs Os ρ σ.S σ.g σ.H (⟨env,σ.l⟩::F) s) (hr:IsRange s.heap r a₀ b₀ c t₀ t₁ t₂) {Q:Flow→Shared→Prop} {E:Value→Shared→Prop} (hq:PQ K base Gs Os env ρ F k Q) (he:PE K base Gs Os env ρ F k E) :
    wpAny (model prog w) A (pyIter (.ref r)) (fun it s₂=>codeAny (model prog w) A (.forLoop (.Name y py) it b [] env) (fun r s'=>match r with | .ok f=>Q f s' | .error e=>cameBackBy (model prog w) A env E e s') s₂) E s:=by
  refine wpAny_pyIter_range hr hsm ?_
  have R':=R.hr.keeps (h':=s.heap.push { cls:=.type "range_iterator",data:=.fields #[rawInt a₀,rawInt (Builtin.Range.rangeSize a₀ b₀ c),rawInt c] }) fun _ _ e=>Heap.get?_push_of_some _ e
  refine forItr_ok (n:=n) V hfr SS W (itr_range (prog:=prog) (w:=w) (K:=K) (base:=base) a.handled ρ s.heap.objs.size a₀ c N) (pF:=pFor x y b k) (fun σ h=>h) (fun v r σ h=>h) (fun _ _ _=>trivial) hl h (s:={ s with heap:=_ }) a ⟨R',R.g,R.gens,R.os⟩ ?_ (fun q=>Nat.lt_irrefl _ (R.hr.soft_lt _ q)) (fresh_base R.hr.stays (Nat.le_refl _)) hq he
  show (s.heap.push _).get? s.heap.objs.size=_
  rw [hN]
  simpa using Heap.get?_push_size _ rfl
theorem itr_still {A:Around} (hh:A.handled=none) (W:Facts prog w K base mg mb T) (ρ₀:Rho) (I ax:Addr) {ps:List PV} (hs:∀ ρ h,K.In h→OR K ρ h ax (.lst ps)):Itr prog w K base A ρ₀ I ps (fun _=>True) (fun j h=>h.IsListIter I ax j) where
  own:=fun j h h' x e=>let ⟨o,a,b⟩:=x;⟨o,e.trans a,b⟩
  there:=fun j h x=>let ⟨o,a,_⟩:=x;⟨o,a⟩
  item:=fun j pv hj s ρ σ F x chk R hit Q E hq=>by
    obtain ⟨vs,hl,ha,_⟩:=(hs ρ _ (R.inK W)).isList
    obtain ⟨v,hv,hr⟩:=ha.get hj
    exact wpAny_pyNext_list_item hit hl (by simpa using hv) fun h' hit' sb=>hq v h' s.toks hr hit' sb.extBut
  done:=fun j hj s ρ σ F x chk R hit Q E hq=>by
    obtain ⟨vs,hl,ha,e⟩:=(hs ρ _ (R.inK W)).isList
    refine wpAny_pyNext_list_end hh hit hl ?_ hq
    rw [List.getElem?_eq_none_iff] at hj
    rw [Array.getElem?_eq_none_iff];(exact ar_mtj4 hj e)
  self:=fun j s Q E hit q=>wpAny_pyIter_listiter hit q
theorem forList_ok (V:EnvOK env sc) (hfr:env.frame=some env.locals) (SS:SoundSs prog w K mg mb T Gs Os env n (pSs x)) (W:Facts prog w K base mg mb T) {y:Str} {py:Pos} {b:List Stmt} {k:Ot→St→Prop} {v:PV} {vv:Value} {σ:St}
    (hl:isLocal sc y=true) (h:sForL x y v b k σ) {A:Around} {s:Shared} {ρ:Rho} {F:List Fm} (a:AOk A (env::F.map Fm.env) (2 * n+1))
    (R:RR K base Gs Os ρ σ.S σ.g σ.H (⟨env,σ.l⟩::F) s) (hv:VR K ρ vv v) {Q:Flow→Shared→Prop} {E:Value→Shared→Prop} (hq:PQ K base Gs Os env ρ F k Q) (he:PE K base Gs Os env ρ F k E) :
    wpAny (model prog w) A (pyIter vv) (fun it s₂=>codeAny (model prog w) A (.forLoop (.Name y py) it b [] env) (fun r s'=>match r with | .ok f=>Q f s' | .error e=>cameBackBy (model prog w) A env E e s') s₂) E s:=by
  have nc:∀ (chk:St→Prop) σ,pForI x y b k chk [] σ→k .next σ:=fun _ _ h=>h.2
  have cc:∀ (chk:St→Prop) v r σ,pForI x y b k chk (v::r) σ→pSs x b (turnK (pForI x y b k chk r) k) { σ with l:=put y v σ.l }:=fun _ _ _ _ h=>h.2
  have kc:∀ (chk:St→Prop) l σ,pForI x y b k chk l σ→chk σ:=fun _ l _ h=>by cases l<;>exact h.1
  have fin:∀ (ax:Addr) (items:Array Value) (ps:List PV) (chk:St→Prop),s.heap.IsList ax items→(Itr prog w K base A ρ s.heap.objs.size ps chk (fun j h=>h.IsListIter s.heap.objs.size ax j))→pForI x y b k chk ps σ →
      wpAny (model prog w) A (pyIter (.ref ax)) (fun it s₂=>codeAny (model prog w) A (.forLoop (.Name y py) it b [] env) (fun r s'=>match r with | .ok f=>Q f s' | .error e=>cameBackBy (model prog w) A env E e s') s₂) E s:=by
    intro ax items ps chk hli X hf
    refine wpAny_pyIter_list hli ?_
    have R':=R.hr.keeps (h':=s.heap.push { cls:=.type "list_iterator",data:=.fields #[.ref ax,.int 0 0] }) fun _ _ e=>Heap.get?_push_of_some _ e
    exact forItr_ok (n:=n) V hfr SS W X (pF:=pForI x y b k chk) (nc chk) (cc chk) (kc chk) hl hf (s:={ s with heap:=_ }) a ⟨R',R.g,R.gens,R.os⟩ ⟨_,Heap.get?_push_size _ rfl,rfl,rfl⟩ (fun q=>Nat.lt_irrefl _ (R.hr.soft_lt _ q)) (fresh_base R.hr.stays (Nat.le_refl _)) hq he
  cases v<;>try exact h.elim
  · rename_i i
    unfold sForL at h
    dsimp only at h
    split at h
    · rename_i ps hps
      obtain ⟨ax,hax,rfl⟩:=hv
      obtain ⟨vs,hli,ha,_⟩:=(R.hr.objs i ax _ hax hps).isList
      exact fin ax vs ps _ hli (itr_list a.handled ρ s.heap.objs.size ax i hax ps) h
    · exact h.elim
  · rename_i ss
    obtain ⟨ax,rfl,hs⟩:=hv
    obtain ⟨vs,hli,ha,_⟩:=(hs.list (ρ:=ρ) (R.hr.inK W)).isList
    exact fin ax vs (ss.map .str) _ hli (itr_still a.handled W ρ s.heap.objs.size ax fun ρ h X=>hs.list X) h
theorem name_inv (V:EnvOK env sc) (W:Facts prog w K base mg mb T) {y:Str} {kk:PV→Prop} {l:Fs} (h:pName T sc y kk l) :
    ∃ pv,kk pv∧∀ (A:Around) (s:Shared) (ρ:Rho) (S:Option Fs) (g:Nat) (H:List AO) (F:List Fm) (p:Pos) (Q:Value→Shared→Prop) (E:Value→Shared→Prop),RR K base Gs Os ρ S g H (⟨env,l⟩::F) s→(∀ v,VR K ρ v pv→Q v s) →
      wpAny (model prog w) A (eval (.Name y p) env) Q E s:=by
  unfold pName at h
  split at h
  · rename_i hd hk
    split at h
    · rename_i v hv
      exact ⟨v,h,fun A s ρ S g H F p Q E R hq=>nameLocal (f:=⟨env,l⟩) R.hr (kind_of V) (by show env.scope.names.lookup y=_;rw [V.sc];exact hk) hd hv fun u hu=>hq u hu⟩
    · exact h.elim
  · rename_i hd hk
    split at h
    · rename_i v hv
      exact ⟨v,h,fun A s ρ S g H F p Q E R hq=>nameGlobal W R.hr (kind_of V) (by show env.scope.names.lookup y=_;rw [V.sc];exact hk) hd V.gl V.bl hv fun u hu=>hq u hu⟩
    · exact h.elim
  · exact h.elim
theorem sAsgName_ok (V:EnvOK env sc) {xs:Scope→Px} (XS':∀ (env':Env) (sc':Scope),EnvOK env' sc'→SoundE prog w K mg mb T Gs Os env' n (xs sc').E) (SE:SoundE prog w K mg mb T Gs Os env n x.E) (W:Facts prog w K base mg mb T) {y:Str} {np sp:Pos} {e:Ex} {k:Ot→St→Prop} {σ:St} (h:sAsgName sc x xs y np e k σ)
    {A:Around} {s:Shared} {ρ:Rho} {F:List Fm} (a:AOk A (env::F.map Fm.env) (2 * n+1)) (R:RR K base Gs Os ρ σ.S σ.g σ.H (⟨env,σ.l⟩::F) s) {Q:Flow→Shared→Prop} {E:Value→Shared→Prop} (hq:PQ K base Gs Os env ρ F k Q) :
    wpAny (model prog w) A (exec (.Assign [.Name y np] e sp) env) Q E s:=by
  unfold sAsgName at h
  split at h
  · rename_i c hc
    rw [asComp_is hc]
    split at h
    · rename_i sw
      exact comp_assign V W SE XS' R a h sw fun s' ρ' pv σ' x' R' hk=>hq _ s' ρ' .next _ x' rfl R' hk
    · exact h.elim
  · split at h
    · rename_i hc
      split at h
      · rename_i hl
        refine wpAny_Assign_Name (SE base W _ _ σ h A s ρ F a R _ _ fun v s₁ ρ₁ pv σ₁ x₁ hv R₁ h₁=>?_) (swaps_no hc)
        exact store_ok V R₁ hl hv fun s₂ R₂=>hq _ s₂ ρ₁ .next _ x₁ rfl R₂ h₁
      · split at h
        · rename_i hl
          refine wpAny_Assign_Name (SE base W _ _ σ h A s ρ F a R _ _ fun v s₁ ρ₁ pv σ₁ x₁ hv R₁ h₁=>?_) (swaps_no hc)
          exact storeCell_ok V R₁ hl hv h₁ fun s₂ H' R₂ h₂=>hq _ s₂ ρ₁ .next _ x₁ rfl R₂ h₂
        · exact h.elim
    · exact h.elim
theorem pairOfN_is {es:List Ex} {y m:Str} {p q:Pos} (h:pairOfN es=some (y,p,m,q)):es=[.Name y p,.Name m q]:=by
  rcases es with _ | ⟨a,_ | ⟨b,_ | ⟨_,_⟩⟩⟩
  · exact (Option.some_ne_none _ h.symm).elim
  · exact (Option.some_ne_none _ h.symm).elim
  · obtain ⟨u,h1,h2⟩:=Option.bind_eq_some_iff.mp (h:(asName a).bind (fun q=>(asName b).map fun r=>(q.1,q.2,r.1,r.2))=some (y,p,m,q))
    obtain ⟨v,h3,h4⟩:=Option.map_eq_some_iff.mp h2
    obtain ⟨e1,e2⟩:=Prod.mk.inj h4
    obtain ⟨e2,e3⟩:=Prod.mk.inj e2
    obtain ⟨e3,e4⟩:=Prod.mk.inj e3
    rw [asName_is (n:=u.1) (p:=u.2) h1,asName_is (n:=v.1) (p:=v.2) h3,e1,e2,e3,e4]
  · exact (Option.some_ne_none _ h.symm).elim
theorem asPair_is {es:List Ex} {i:Nat} {tp:Pos} {y m:Str} {p q:Pos} (h:asPair (.Tuple es i tp)=some (y,p,m,q)):es=[.Name y p,.Name m q]:=by
  obtain ⟨es',h1,h2⟩:=Option.bind_eq_some_iff.mp h
  rw [Option.some.inj (h1:some es=some es')]
  exact pairOfN_is h2
theorem sAssign_ok (V:EnvOK env sc) {xs:Scope→Px} (XS':∀ (env':Env) (sc':Scope),EnvOK env' sc'→SoundE prog w K mg mb T Gs Os env' n (xs sc').E) (SE:SoundE prog w K mg mb T Gs Os env n x.E) (W:Facts prog w K base mg mb T) {t e:Ex} {sp:Pos} {k:Ot→St→Prop} {σ:St} (h:sAssign T sc x xs t e k σ)
    {A:Around} {s:Shared} {ρ:Rho} {F:List Fm} (a:AOk A (env::F.map Fm.env) (2 * n+1)) (R:RR K base Gs Os ρ σ.S σ.g σ.H (⟨env,σ.l⟩::F) s) {Q:Flow→Shared→Prop} {E:Value→Shared→Prop} (hq:PQ K base Gs Os env ρ F k Q) :
    wpAny (model prog w) A (exec (.Assign [t] e sp) env) Q E s:=by
  cases t with
  | Name y np=>exact sAsgName_ok V XS' SE W h a R hq
  | Attribute o at' p=>
    change (match isComp e with | false=>x.E e (fun v σ₁=>x.E o (fun ov σ₂=>pSet T ov at' v (k .next) σ₂) σ₁) σ | true=>False:Prop) at h
    split at h
    · rename_i hc
      refine plainObj_wpAny_Assign_Attribute (SE base W _ _ σ h A s ρ F a R _ _ fun v s₁ ρ₁ pv σ₁ x₁ hv R₁ h₁=>SE base W _ _ σ₁ h₁ A s₁ ρ₁ F a R₁ _ _ fun o s₂ ρ₂ po σ₂ x₂ ho R₂ h₂=>?_) (swaps_no hc)
      exact set_ok W R₂ h₂ ho (hv.ext x₂) fun s₃ S' R₃ h₃=>hq _ s₃ ρ₂ .next _ (x₁.trans x₂) rfl R₃ h₃
    · exact h.elim
  | _=>exact h.elim
theorem sAug_ok (V:EnvOK env sc) (SE:SoundE prog w K mg mb T Gs Os env n x.E) (W:Facts prog w K base mg mb T) {t e:Ex} {op:Operator} {sp:Pos} {k:Ot→St→Prop} {σ:St} (h:sAug T sc x t op e k σ)
    {A:Around} {s:Shared} {ρ:Rho} {F:List Fm} (a:AOk A (env::F.map Fm.env) (2 * n+1)) (R:RR K base Gs Os ρ σ.S σ.g σ.H (⟨env,σ.l⟩::F) s) {Q:Flow→Shared→Prop} {E:Value→Shared→Prop} (hq:PQ K base Gs Os env ρ F k Q) :
    wpAny (model prog w) A (exec (.AugAssign t op e sp) env) Q E s:=by
  cases t with
  | Name y p=>
    unfold sAug at h
    dsimp only at h
    split at h
    · rename_i hl hold
      obtain ⟨mL,nL,rL⟩:=R.hr.frames _ (.head _)
      obtain ⟨ov,e1,e2⟩:=(rL _).2 _ hold
      refine wpAny_AugAssign_Name (wpAny_loadName_local (kind_of V) (isLocal_of V hl) nL (stor_local (isLocal_of V hl) e1) (SE base W _ _ σ h A s ρ F a R _ _ fun v s₁ ρ₁ pv σ₁ x₁ hv R₁ h₁=>?_))
      refine aug_ok h₁ (e2.ext x₁) hv fun u pu tk hu h₂=>?_
      exact store_ok V R₁.toks hl hu fun s₂ R₂=>hq _ s₂ ρ₁ .next _ x₁ rfl R₂ h₂
    · exact h.elim
  | Attribute o at' p=>
    refine wpAny_AugAssign_AttributeAny (SE base W _ _ σ h A s ρ F a R _ _ fun o s₁ ρ₁ po σ₁ x₁ ho R₁ h₁=>?_)
    refine attr_ok W R₁ h₁ ho fun old pold tk hold h₂=>?_
    refine SE base W _ _ σ₁ h₂ A _ ρ₁ F a R₁.toks _ _ fun v s₂ ρ₂ pv σ₂ x₂ hv R₂ h₃=>?_
    refine aug_ok h₃ (hold.ext x₂) hv fun u pu tk hu h₄=>?_
    exact set_ok W R₂.toks h₄ (ho.ext x₂) hu fun s₃ S' R₃ h₅=>hq _ s₃ ρ₂ .next _ (x₁.trans x₂) rfl R₃ h₅
  | _=>exact h.elim
theorem sFor_ok (V:EnvOK env sc) (hfr:env.frame=some env.locals) (SE:SoundE prog w K mg mb T Gs Os env n x.E) (SL:SoundSs prog w K mg mb T Gs Os env n (pSs x)) (W:Facts prog w K base mg mb T) {tg it:Ex} {body:List Stmt} {sp:Pos} {k:Ot→St→Prop} {σ:St} (h:sFor sc x tg it body k σ)
    {A:Around} {s:Shared} {ρ:Rho} {F:List Fm} (a:AOk A (env::F.map Fm.env) (2 * n+1)) (R:RR K base Gs Os ρ σ.S σ.g σ.H (⟨env,σ.l⟩::F) s) {Q:Flow→Shared→Prop} {E:Value→Shared→Prop} (hq:PQ K base Gs Os env ρ F k Q) (he:PE K base Gs Os env ρ F k E) :
    wpAny (model prog w) A (exec (.For tg it body [] sp) env) Q E s:=by
  unfold sFor at h
  split at h
  · rename_i y py htg
    rw [asName_is htg]
    split at h
    · rename_i hl
      cases it<;>try exact h.elim
      · rename_i f args kws cp
        unfold sForN at h
        dsimp only at h
        split at h
        · rename_i rn rp hf hs
          rw [asName_is hf]
          refine wpAny_For (callName hs (SE base W _ _ σ h A s ρ F a R _ _ fun fv s₁ ρ₁ pf σ₁ x₁ hfv R₁ h₁=>?_))
          obtain ⟨rfl,h₁⟩:=rangeP_is h₁
          obtain rfl:=hfv
          refine callW_typ (es_ok W SE _ _ σ₁ h₁ A s₁ ρ₁ F a R₁ _ _ fun vs s₂ ρ₂ ps σ₂ x₂ hvs R₂ h₂=>?_)
          show wpAny _ _ (call (.type "range") vs) _ _ _
          have x₁₂:=x₁.trans x₂
          rcases ps with _ | ⟨p1,_ | ⟨p2,_ | ⟨p3,_ | ⟨p4,pr⟩⟩⟩⟩
          · exact h₂.elim
          · obtain ⟨b,rfl,⟨b1,b2⟩,h₂⟩:=numP_is h₂
            obtain ⟨v,rfl,t,rfl⟩:=AllR1 hvs
            refine call_range_1 ?_
            exact forRange_ok V hfr SL W hl (small_one (by (exact ar_8h8t)) (by (exact ar_wqu4)) (by (exact ar_aea8 b1)) (by (exact ar_k6ss b2))) (N:=rangeN _ _ 1) (size_one' _ _) h₂ a (R₂.keeps fun _ _ e=>Heap.get?_push_of_some _ e) (IsRange.new ..) (hq.up x₁₂) (he.up x₁₂)
          · obtain ⟨a',b,rfl,rfl,⟨b1,b2,b3,b4⟩,h₂⟩:=numPP_is h₂
            obtain ⟨v,u,rfl,⟨t,rfl⟩,⟨t',rfl⟩⟩:=AllR2 hvs
            refine call_range_2 ?_
            exact forRange_ok V hfr SL W hl (small_one (by (exact ar_aea8 b1)) (by (exact ar_k6ss b2)) (by (exact ar_aea8 b3)) (by (exact ar_k6ss b4))) (N:=rangeN _ _ 1) (size_one' _ _) h₂ a (R₂.keeps fun _ _ e=>Heap.get?_push_of_some _ e) (IsRange.new ..) (hq.up x₁₂) (he.up x₁₂)
          · obtain ⟨a',b,rfl,rfl,h₃⟩:=numPP_is h₂
            obtain ⟨c,rfl,⟨b1,b2,b3,b4,rfl⟩,h₄⟩:=numP_is h₃
            obtain ⟨v,u,u',rfl,⟨t,rfl⟩,⟨t',rfl⟩,⟨t'',rfl⟩⟩:=AllR3 hvs
            refine call_range_3 (by decide) ?_ (.inl (PyProof.noPylong_small (by decide)))
            exact forRange_ok V hfr SL W hl (small_neg b1 b2 b3 b4) (N:=rangeN _ _ (-1)) (rangeN_neg _ _) h₄ a (R₂.keeps fun _ _ e=>Heap.get?_push_of_some _ e) (IsRange.new ..) (hq.up x₁₂) (he.up x₁₂)
          · exact h₂.elim
        · exact h.elim
      · refine wpAny_For (SE base W _ _ σ h A s ρ F a R _ _ fun v s₁ ρ₁ pv σ₁ x₁ hv R₁ h₁=>?_)
        exact forList_ok V hfr SL W hl h₁ a R₁ hv (hq.up x₁) (he.up x₁)
    · exact h.elim
  · exact h.elim
theorem sRaise_ok (V:EnvOK env sc) (W:Facts prog w K base mg mb T) {e:Ex} {sp:Pos} {k:Ot→St→Prop} {σ:St} (h:sRaise T sc e k σ)
    {A:Around} {s:Shared} {ρ:Rho} {F:List Fm} (a:AOk A (env::F.map Fm.env) (2 * n+1)) (R:RR K base Gs Os ρ σ.S σ.g σ.H (⟨env,σ.l⟩::F) s) {Q:Flow→Shared→Prop} {E:Value→Shared→Prop} (he:PE K base Gs Os env ρ F k E) :
    wpAny (model prog w) A (exec (.Raise (some e) none sp) env) Q E s:=by
  unfold sRaise at h
  split at h
  · rename_i hc
    rw [asCall0_is hc]
    obtain ⟨pv,hk,hn⟩:=name_inv (Gs:=Gs) (Os:=Os) V W h
    cases pv<;>try exact hk.elim
    dsimp only at hk
    split at hk
    · rename_i hx _
      exact raise_ok W a R hx (fun Q E q=>hn A s ρ σ.S σ.g σ.H F _ Q E R fun v hv=>by obtain rfl:=hv;exact q) fun e s' R' X=>he e s' ρ _ σ (.refl _) R' X hk
    · exact hk.elim
  · exact h.elim
theorem asPassH_is {h:ExceptHandler} {y:Str} {np pp hp:Pos} (q:asPassH h=some (y,np,pp,hp)):h=.ExceptHandler (some (.Name y np)) none [.Pass pp] hp:=by
  obtain ⟨t,nm,b,p⟩:=h
  cases nm with
  | some _=>exact (Option.some_ne_none _ (Eq.symm q)).elim
  | none=>
    obtain ⟨u,h1,h2⟩:=Option.bind_eq_some_iff.mp (q:(t.bind asName).bind (fun q=>(asPass1 b).map fun pp=>(q.1,q.2,pp,p))=some (y,np,pp,hp))
    obtain ⟨e,rfl,h4⟩:=Option.bind_eq_some_iff.mp h1
    obtain ⟨v,h5,h6⟩:=Option.map_eq_some_iff.mp h2
    obtain ⟨e1,e2⟩:=Prod.mk.inj h6
    obtain ⟨e2,e3⟩:=Prod.mk.inj e2
    obtain ⟨e3,e4⟩:=Prod.mk.inj e3
    rw [asName_is (n:=u.1) (p:=u.2) h4,asPass1_is h5,e1,e2,e3,e4]
theorem sTry_ok (V:EnvOK env sc) (hfr:env.frame=some env.locals) (SL:SoundSs prog w K mg mb T Gs Os env n (pSs x)) (W:Facts prog w K base mg mb T) {body:List Stmt} {hd:ExceptHandler} {sp:Pos} {k:Ot→St→Prop} {σ:St} (h:sTry T sc x body hd k σ)
    {A:Around} {s:Shared} {ρ:Rho} {F:List Fm} (a:AOk A (env::F.map Fm.env) (2 * n+1)) (R:RR K base Gs Os ρ σ.S σ.g σ.H (⟨env,σ.l⟩::F) s) {Q:Flow→Shared→Prop} {E:Value→Shared→Prop} (hq:PQ K base Gs Os env ρ F k Q) :
    wpAny (model prog w) A (exec (.Try body [hd] [] [] sp) env) Q E s:=by
  unfold sTry at h
  split at h
  · rename_i hh
    rw [asPassH_is hh,arm_exec_Try]
    refine wpAny_bind (wpAny_standAt (wpAny_tryStmt_except (SL base W _ _ σ h A s ρ F a R _ _ (fun f s₁ ρ₁ o σ₁ x₁ hf R₁ h₁=>?_) fun e s₁ ρ₁ C σ₁ x₁ R₁ X h₁=>?_)))
    · cases o with
      | next=>obtain rfl:=hf;exact wpAny_execs_nil (hq _ s₁ ρ₁ .next σ₁ x₁ rfl R₁ h₁)
      | brk=>obtain rfl:=hf;exact hq _ s₁ ρ₁ .brk σ₁ x₁ rfl R₁ h₁
      | cont=>obtain rfl:=hf;exact hq _ s₁ ρ₁ .cont σ₁ x₁ rfl R₁ h₁
      | ret pv=>obtain ⟨v,rfl,hv⟩:=hf;exact hq _ s₁ ρ₁ (.ret pv) σ₁ x₁ ⟨v,rfl,hv⟩ R₁ h₁
      | exc C=>exact hf.elim
    · obtain ⟨pv,hk,hn⟩:=name_inv (Gs:=Gs) (Os:=Os) V W h₁
      cases pv<;>try exact hk.elim
      dsimp only at hk
      split at hk
      · rename_i hb hx _
        have e1:=Nat.eq_of_beq_eq_true hb
        exact catch_ok hfr W a R₁ hx X (fun A s' Q E R' q=>hn A s' ρ₁ _ _ _ F _ Q E R' fun v hv=>by obtain rfl:=hv;rw [← e1];exact q) fun s' R'=>hq _ s' ρ₁ .next σ₁ x₁ rfl R' hk
      · exact hk.elim
  · exact h.elim
theorem stepS_ok {xs:Scope→Px} (V:EnvOK env sc) (hfr:env.frame=some env.locals) (XS':∀ (env':Env) (sc':Scope),EnvOK env' sc'→SoundE prog w K mg mb T Gs Os env' n (xs sc').E) (SE:SoundE prog w K mg mb T Gs Os env n x.E) (ST:SoundT prog w K mg mb T Gs Os env n x.T) (SS:SoundS prog w K mg mb T Gs Os env n x.S):SoundS prog w K mg mb T Gs Os env n (stepS T sc x xs):=by
  have SL:=ss_ok SS
  intro base W st k σ h A s ρ F a R Q E hq he
  cases st with
  | Pass p=>exact wpAny_Pass (hq _ s ρ .next σ (.refl _) rfl R h)
  | Break p=>exact wpAny_Break (hq _ s ρ .brk σ (.refl _) rfl R h)
  | Continue p=>exact wpAny_Continue (hq _ s ρ .cont σ (.refl _) rfl R h)
  | Return o p=>
    cases o with
    | none=>exact wpAny_Return_none (hq _ s ρ (.ret .none) σ (.refl _) ⟨_,rfl,rfl⟩ R h)
    | some e=>exact wpAny_Return_some (SE base W _ _ σ h A s ρ F a R _ _ fun v s₁ ρ₁ pv σ₁ x₁ hv R₁ h₁=>hq _ s₁ ρ₁ (.ret pv) σ₁ x₁ ⟨v,rfl,hv⟩ R₁ h₁)
  | Expr e p=>
    unfold stepS at h
    dsimp only at h
    split at h
    · rename_i hc
      refine exprS (SE base W _ _ σ h A s ρ F a R _ _ fun v s₁ ρ₁ pv σ₁ x₁ hv R₁ h₁=>?_) (quiet_of V) (swaps_no hc)
      split at h₁
      · rename_i hn
        exact ⟨noRef_ref hv hn,hq _ s₁ ρ₁ .next σ₁ x₁ rfl R₁ h₁⟩
      · exact h₁.elim
    · exact h.elim
  | Assign ts e p=>
    rcases ts with _ | ⟨t,_ | ⟨_,_⟩⟩<;>try exact h.elim
    exact sAssign_ok V XS' SE W h a R hq
  | AugAssign t op e p=>exact sAug_ok V SE W h a R hq
  | If t b o p=>
    refine wpAny_If (ST base W _ _ σ h A s ρ F a R _ _ fun c s₁ ρ₁ σ₁ x₁ R₁ h₁=>?_)
    cases c with
    | true=>exact SL base W _ _ σ₁ h₁ A s₁ ρ₁ F a R₁ Q E (fun f s₂ ρ₂ o σ₂ x₂ hf R₂ h₂=>hq f s₂ ρ₂ o σ₂ (x₁.trans x₂) hf R₂ h₂) fun e s₂ ρ₂ C σ₂ x₂ R₂ X h₂=>he e s₂ ρ₂ C σ₂ (x₁.trans x₂) R₂ X h₂
    | false=>exact SL base W _ _ σ₁ h₁ A s₁ ρ₁ F a R₁ Q E (fun f s₂ ρ₂ o σ₂ x₂ hf R₂ h₂=>hq f s₂ ρ₂ o σ₂ (x₁.trans x₂) hf R₂ h₂) fun e s₂ ρ₂ C σ₂ x₂ R₂ X h₂=>he e s₂ ρ₂ C σ₂ (x₁.trans x₂) R₂ X h₂
  | While t b o p=>
    unfold stepS at h
    dsimp only at h
    split at h
    · exact while_ok hfr ST SL W h a R hq he
    · obtain ⟨m,h⟩:=h
      exact while_ok hfr ST SL W h a R hq he
  | For tg it body oe p=>
    cases oe<;>try exact h.elim
    exact sFor_ok V hfr SE SL W h a R hq he
  | Assert t m p=>
    cases m<;>try exact h.elim
    exact wpAny_Assert_holds (ST base W _ _ σ h A s ρ F a R _ _ fun b s₁ ρ₁ σ₁ x₁ R₁ h₁=>⟨h₁.1,hq _ s₁ ρ₁ .next σ₁ x₁ rfl R₁ h₁.2⟩)
  | Raise o c p=>
    cases o<;>try exact h.elim
    cases c<;>try exact h.elim
    exact sRaise_ok V W h a R he
  | Try body hs oe fb p=>
    rcases hs with _ | ⟨hd,_ | ⟨_,_⟩⟩<;>try exact h.elim
    cases oe<;>try exact h.elim
    cases fb<;>try exact h.elim
    exact sTry_ok V hfr SL W h a R hq
  | _=>exact h.elim
end
end Mine

open PySem PySem.W PyProof.Rows PySem.Calls PySem.Builtin PySem.Builtin.Str
set_option maxRecDepth 100000
set_option Elab.async false
set_option backward.match.sparseCases false
namespace Mine
section
variable {prog:Program} {w:World} {K:Frag} {mg mb:Str→Option Value} {T:Tabs} {Gs:Array GenState} {Os:OsState} {env:Env} {n:Nat} {sc:Scope} {C:CT}
theorem pxE_ok (CO:CallOK prog w K mg mb T Gs Os n C):∀ m,∀ (env:Env) (sc:Scope),EnvOK env sc→SoundE prog w K mg mb T Gs Os env n (pxA T C m sc).E∧SoundT prog w K mg mb T Gs Os env n (pxA T C m sc).T
  | 0,_,_,_=>⟨fun _ _ _ _ _ h=>h.elim,fun _ _ _ _ _ h=>h.elim⟩
  | m+1,env,sc,V=>let ⟨a,b⟩:=pxE_ok CO m env sc V;⟨stepE_ok V a b CO fun env' sc' V'=>(pxE_ok CO m env' sc' V').1,stepT_ok V a b⟩
theorem px_ok (V:EnvOK env sc) (hfr:env.frame=some env.locals) (CO:CallOK prog w K mg mb T Gs Os n C):∀ m,SoundE prog w K mg mb T Gs Os env n (px T C sc m).E∧SoundT prog w K mg mb T Gs Os env n (px T C sc m).T∧SoundS prog w K mg mb T Gs Os env n (px T C sc m).S
  | 0=>⟨fun _ _ _ _ _ h=>h.elim,fun _ _ _ _ _ h=>h.elim,fun _ _ _ _ _ h=>h.elim⟩
  | m+1=>let ⟨a,b,c⟩:=px_ok V hfr CO m;⟨(pxE_ok CO (m+1) env sc V).1,(pxE_ok CO (m+1) env sc V).2,stepS_ok V hfr (fun env' sc' V'=>(pxE_ok CO m env' sc' V').1) a b c⟩
theorem lookup_rev {l:List (Str × Value)} (h:(l.map (·.1)).Nodup) (x:Str):l.reverse.lookup x=l.lookup x:=by
  induction l with
  | nil=>rfl
  | cons p r ih=>
    obtain ⟨k,v⟩:=p
    have hk:=(List.nodup_cons.mp (by simpa using h:(k::r.map (·.1)).Nodup))
    rw [List.reverse_cons,List.lookup_append,ih hk.2,List.lookup_cons,List.lookup_cons,List.lookup_nil]
    cases q:(x==k) with
    | true=>
      have e:x=k:=beq_iff_eq.mp q
      subst e
      have:r.lookup x=none:=by
        rw [List.lookup_eq_none_iff]
        intro p hp
        by_cases h':x=p.1
        · exact absurd (h'▸List.mem_map.mpr ⟨p,hp,rfl⟩) hk.1
        · simp [h']
      rw [this];rfl
    | false=>cases r.lookup x<;>rfl
theorem zip_keys {α:Type}:∀ (ps:List Str) (vs:List α),vs.length=ps.length→(ps.zip vs).map (·.1)=ps
  | [],[],_=>rfl
  | p::ps,v::vs,h=>by simp [zip_keys ps vs (by simpa using h)]
  | [],_::_,h=>by simp at h
  | _::_,[],h=>by simp at h
theorem mapR_zip {ρ:Rho}:∀ (ps:List Str) (vs:List Value) (as:List PV),AllR K ρ vs as→as.length=ps.length→MapR K ρ (fun x=>(ps.zip vs).lookup x) (ps.zip as)
  | [],vs,as,_,h=>by
    intro x
    simp [List.lookup_nil]
  | p::ps,v::vs,a::as,⟨h1,h2⟩,h=>by
    intro x
    have ih:=mapR_zip ps vs as h2 (by simpa using h) x
    simp only [List.zip_cons_cons,List.lookup_cons]
    cases q:(x==p) with
    | true=>exact ⟨fun e=>(by cases e),fun pv e=>by cases e;exact ⟨v,rfl,h1⟩⟩
    | false=>exact ih
  | _::_,[],[],_,h=>by simp at h
  | _::_,_::_,[],h,_=>h.elim
  | _::_,[],_::_,h,_=>h.elim
theorem CallOK.deeper {C:CT} (h:CallOK prog w K mg mb T Gs Os n C):CallOK prog w K mg mb T Gs Os (n+1) C:=
  fun base W f args Q S g H hc A s ρ F vs a=>h base W f args Q S g H hc A s ρ F vs (a.down (by (exact ar_pd50)))
noncomputable def BodyOK (T:Tabs) (C:CT) (f:Addr) (args:List PV) (Q:PV→Option Fs→Nat→List AO→Prop) (S:Option Fs) (g:Nat) (H:List AO):Prop:=
  match T.fns f with
  | none=>False
  | some F=>args.length=F.params.length∧pSs (px T C F.scope 40) F.body (bodyK Q) ⟨F.params.zip args,S,g,H⟩
theorem lift {C C':CT} (ih:CallOK prog w K mg mb T Gs Os n C) (hb:∀ f args Q S g H,C' f args Q S g H→C f args Q S g H∨BodyOK T C f args Q S g H):CallOK prog w K mg mb T Gs Os (n+1) C':=by
    intro base W f args Q S g H h A s ρ F vs a R hv Rw hq
    rcases hb f args Q S g H h with h | h
    · exact ih.deeper base W f args Q S g H h A s ρ F vs a R hv Rw hq
    unfold BodyOK at h
    split at h
    · exact h.elim
    · rename_i Fn hF
      obtain ⟨hlen,h⟩:=h
      obtain ⟨o,fd,ho,hd,e1,e2,e3,e4,e5,hcode,hk,hco,hgen,hcell,hloc,hnd,hbind⟩:=W.fns f Fn hF
      have X:=R.hr.inK W
      have hvl:vs.length=Fn.params.length:=by rw [hv.len,hlen]
      have hroom:A.depth < recursionLimit:=by have:=a.depth;(exact ar_ke1s this)
      have hkeys:((Fn.params.zip vs).map (·.1)).Nodup:=by rw [zip_keys _ _ hvl];exact hnd
      refine (codeAny_call_def hroom (X _ _ ho) hd (W.lim.keeps R.hr.stays) (hcode _ X) e2 (.of_eq (hbind vs hvl)) hcell ?_ (fun h₀ hn hk₀=>?_) hco hgen hk)
      · intro x hx
        refine hloc x.1 ?_
        have:x.1∈(Fn.params.zip vs).map (·.1):=List.mem_map.mpr ⟨x,hx,rfl⟩
        rwa [zip_keys _ _ hvl] at this
      · have V:EnvOK (callEnv fd s.heap.objs.size f) Fn.scope:=⟨by rw [← e1];exact hk,e1,e3,e4⟩
        have HR':HR K base ρ S H (⟨callEnv fd s.heap.objs.size f,Fn.params.zip args⟩::F) h₀:=by
          refine R.hr.enter hk₀ (m:=fun x=>(Fn.params.zip vs).lookup x) ?_ (by rw [stor_none hcell];exact mapR_zip _ _ _ hv hlen) (Nat.le_refl _) (fun _=>by show fd.scope.kind≠_;rw [hk];intro q;cases q) (fun L e=>.inl (Option.some.inj e).symm)
          have:(fun x=>(Fn.params.zip vs).reverse.lookup x)=fun x=>(Fn.params.zip vs).lookup x:=funext fun x=>lookup_rev hkeys x
          rw [← this];exact hn
        have a':AOk (A.deeper (callEnv fd s.heap.objs.size f)) (callEnv fd s.heap.objs.size f::F.map Fm.env) (2 * n+1):=
          ⟨a.handled,by show A.frames.map _=_;rw [a.frames,frE_cons rfl];rfl,by show A.depth+1+(2 * n+1)≤_;have:=a.depth;(exact ar_qrib this),by show A.units+3+16 * (2 * n+1)+64 < _;have:=a.units;(exact ar_uj16 this)⟩
        obtain ⟨SE,ST,SS⟩:=px_ok (Gs:=Gs) (Os:=Os) (mg:=mg) (mb:=mb) V rfl ih 40
        refine ss_ok SS base W _ _ ⟨Fn.params.zip args,S,g,H⟩ h _ { s with heap:=h₀,toks:=s.toks+(Fn.params.zip vs).length } ρ F a' ⟨HR',R.g,R.gens,R.os⟩ _ _ (fun fl s' ρ' ot σ' x' hf R' hk'=>?_) fun e s' ρ' C σ' _ _ _ hk'=>hk'.elim
        have R'':RR K base Gs Os ρ' σ'.S σ'.g σ'.H F s':=⟨R'.hr.leave,R'.g,R'.gens,R'.os⟩
        cases ot with
        | next=>obtain rfl:=hf;exact hq .none s' ρ' .none _ _ _ x' rfl R'' hk'
        | brk=>exact hk'.elim
        | cont=>exact hk'.elim
        | ret pv=>obtain ⟨v,rfl,hvv⟩:=hf;exact hq v s' ρ' pv _ _ _ x' hvv R'' hk'
        | exc C=>exact hf.elim
end
end Mine

open PySem PySem.W PyProof.Rows PySem.Calls PySem.Builtin PySem.Builtin.Str
set_option maxRecDepth 100000
set_option Elab.async false
set_option backward.match.sparseCases false
namespace Mine
noncomputable def cellsH (bind:Fs):List (Str × NameKind)→List AO
  | []=>[]
  | (x,k)::r=>if k==.cell then .cell (bind.lookup x)::cellsH bind r else cellsH bind r
noncomputable def cellsL (i:Nat):List (Str × NameKind)→Fs
  | []=>[]
  | (x,k)::r=>if k==.cell then (x,.loc i)::cellsL (i+1) r else cellsL i r
noncomputable def cellsA (n:Nat):List (Str × NameKind)→List (Str × Addr)
  | []=>[]
  | (x,k)::r=>if k==.cell then (x,n)::cellsA (n+1) r else cellsA n r
theorem cellsA_keys (n:Nat) (x:Str):∀ (names:List (Str × NameKind)),x∉names.map (·.1)→(cellsA n names).lookup x=none
  | [],_=>rfl
  | (y,k)::r,h=>by
    rw [List.map_cons,List.mem_cons,not_or] at h
    unfold cellsA
    split
    · rw [List.lookup_cons]
      have:(x==y)=false:=by simpa using h.1
      rw [this]
      exact cellsA_keys (n+1) x r h.2
    · exact cellsA_keys n x r h.2
theorem cellsFrom_lookup:∀ (names:List (Str × NameKind)) (n:Nat) (acc:List (Str × Addr)) (x:Str),(names.map (·.1)).Nodup→(cellsFrom n names acc).lookup x=((cellsA n names).lookup x).or (acc.lookup x)
  | [],n,acc,x,_=>by simp [cellsFrom,cellsA]
  | (y,k)::r,n,acc,x,h=>by
    rw [List.map_cons,List.nodup_cons] at h
    unfold cellsFrom cellsA
    split
    · rw [cellsFrom_lookup r (n+1) ((y,n)::acc) x h.2,List.lookup_cons,List.lookup_cons]
      cases q:x==y with
      | true=>
        rw [beq_iff_eq.mp q,cellsA_keys (n+1) y r h.1]
        rfl
      | false=>rfl
    · exact cellsFrom_lookup r n acc x h.2
theorem cellsL_get:∀ (names:List (Str × NameKind)) (n i:Nat) (os:List Addr) (x:Str),os.length=i→(names.map (·.1)).Nodup →
    (∀ j,(cellsL i names).lookup x=some (.loc j)→∃ c,(cellsA n names).lookup x=some c∧(os++(cellsA n names).map (·.2))[j]?=some c)∧(∀ pv,(cellsL i names).lookup x=some pv→∃ j,pv=.loc j) ∧
      ((cellsL i names).lookup x=none→(cellsA n names).lookup x=none)
  | [],n,i,os,x,_,_=>⟨fun j h=>by simp [cellsL] at h,fun pv h=>by simp [cellsL] at h,fun _=>rfl⟩
  | (y,k)::r,n,i,os,x,hl,hn=>by
    rw [List.map_cons,List.nodup_cons] at hn
    unfold cellsL cellsA
    by_cases hk:(k==NameKind.cell)=true
    · rw [if_pos hk,if_pos hk]
      obtain ⟨h1,h2,h3⟩:=cellsL_get r (n+1) (i+1) (os++[n]) x (by simp [hl]) hn.2
      simp only [List.lookup_cons,List.map_cons]
      have e:os++[n]++(cellsA (n+1) r).map (·.2)=os++n::(cellsA (n+1) r).map (·.2):=by simp
      rw [e] at h1
      cases q:x==y with
      | true=>
        refine ⟨fun j hj=>?_,fun pv hj=>by cases hj;exact ⟨i,rfl⟩,fun hj=>by cases hj⟩
        cases hj
        exact ⟨n,rfl,by rw [← hl];simp⟩
      | false=>exact ⟨h1,h2,h3⟩
    · rw [if_neg hk,if_neg hk]
      exact cellsL_get r n i os x hl hn.2
theorem bindL_is {ko:Str→Option NameKind}:∀ (bs:List (Str × Value)) (m:Str→Option Value) (x:Str),(bs.map (·.1)).Nodup→bindL ko bs m x=if ko x=some .local then (bs.lookup x).or (m x) else m x
  | [],m,x,_=>by simp [bindL]
  | (y,v)::r,m,x,h=>by
    rw [List.map_cons,List.nodup_cons] at h
    unfold bindL
    rw [bindL_is r _ x h.2,List.lookup_cons]
    cases q:x==y with
    | true=>
      have e:=beq_iff_eq.mp q
      subst e
      have:r.lookup x=none:=by
        rw [List.lookup_eq_none_iff]
        intro p hp
        have:x≠p.1:=fun e=>h.1 (e▸List.mem_map.mpr ⟨p,hp,rfl⟩)
        simpa using this
      rw [this]
      by_cases hl:ko x=some .local
      · simp [hl]
      · simp [hl]
    | false=>
      have hx:x≠y:=by intro e;rw [e] at q;simp at q
      by_cases hl:ko y=some .local
      · simp [hl,hx]
      · simp [hl]
theorem bindC_is {ko:Str→Option NameKind}:∀ (bs:List (Str × Value)) (m:Str→Option Value) (x:Str),(bs.map (·.1)).Nodup→bindC ko bs m x=if ko x=some .local then m x else (bs.lookup x).or (m x)
  | [],m,x,_=>by simp [bindC]
  | (y,v)::r,m,x,h=>by
    rw [List.map_cons,List.nodup_cons] at h
    unfold bindC
    rw [bindC_is r _ x h.2,List.lookup_cons]
    cases q:x==y with
    | true=>
      have e:=beq_iff_eq.mp q
      subst e
      have:r.lookup x=none:=by
        rw [List.lookup_eq_none_iff]
        intro p hp
        have:x≠p.1:=fun e=>h.1 (e▸List.mem_map.mpr ⟨p,hp,rfl⟩)
        simpa using this
      rw [this]
      by_cases hl:ko x=some .local
      · simp [hl]
      · simp [hl]
    | false=>
      have hx:x≠y:=by intro e;rw [e] at q;simp at q
      by_cases hl:ko y=some .local
      · simp [hl]
      · simp [hl,hx]
section
variable {K:Frag} {base:Heap} {S:Option Fs} {F:List Fm} {h:Heap}
theorem HR.addAll:∀ (as:List Addr) (aos:List AO) (ρ:Rho) (H:List AO),HR K base ρ S H F h→as.length=aos.length→as.Nodup→(∀ a∈as,base.get? a=none∧a∉soft ρ S F) →
    (∀ (i:Nat) (a:Addr) (ao:AO),as[i]?=some a→aos[i]?=some ao→OR K ρ h a ao)→HR K base { ρ with os:=ρ.os++as } S (H++aos) F h
  | [],[],ρ,H,R,_,_,_,_=>by
    have:({ ρ with os:=ρ.os++[] }:Rho)=ρ:=by simp
    rw [this,List.append_nil];exact R
  | a::as,ao::aos,ρ,H,R,hl,hn,hb,ho=>by
    rw [List.nodup_cons] at hn
    obtain ⟨b1,b2⟩:=hb a (.head _)
    have R1:=R.add b1 b2 (ho 0 a ao rfl rfl)
    have x:=HR.mkExt ρ a
    have R2:=HR.addAll as aos { ρ with os:=ρ.os++[a] } (H++[ao]) R1 (by simpa using hl) hn.2 (fun c hc=>⟨(hb c (.tail _ hc)).1,fun q=>by
      have z:=(hb c (.tail _ hc)).2
      unfold soft at q z
      rcases List.mem_append.mp q with q | q
      · exact z (List.mem_append_left _ q)
      · have q':c∈ρ.os++[a]:=q
        rcases List.mem_append.mp q' with q | q
        · exact z (List.mem_append_right _ q)
        · have e:c=a:=by simpa using q
          exact hn.1 (e▸hc)⟩) fun i c co h1 h2=>(ho (i+1) c co h1 h2).ext x
    have e1:ρ.os++a::as=ρ.os++[a]++as:=by simp
    have e2:H++ao::aos=H++[ao]++aos:=by simp
    rw [e1,e2];exact R2
  | [],_::_,_,_,_,h,_,_,_=>by simp at h
  | _::_,[],_,_,_,h,_,_,_=>by simp at h
theorem Ext.more (ρ:Rho) (as:List Addr):Ext ρ { ρ with os:=ρ.os++as }:=
  ⟨Nat.le_refl _,fun _=>⟨rfl,rfl⟩,fun i b e=>by
    have hi:=(List.getElem?_eq_some_iff.mp e).1
    show (ρ.os++as)[i]?=some b
    rw [List.getElem?_append_left hi];exact e,rfl⟩
theorem HR.push {ρ:Rho} {H:List AO} {env:Env} {l:Fs} {m:Str→Option Value} (R:HR K base ρ S H F h) (nb:base.get? env.locals=none) (ns:env.locals∉soft ρ S F) (hn:h.Ns env.locals m) (hr:MapR K ρ (stor env m) l)
    (hmod:isFr env=true→env.scope.kind≠.module) (hfs:∀ L,env.frame=some L→L=env.locals∨L∈F.map (·.env.locals)):HR K base ρ S H (⟨env,l⟩::F) h:=by
  have n1:env.locals∉F.map (·.env.locals):=fun q=>ns (List.mem_append_left _ (List.mem_append_left _ q))
  have n2:env.locals∉ρ.os:=fun q=>ns (List.mem_append_right _ q)
  refine ⟨R.stays,?_,?_,?_,R.len,R.objs,⟨?_,R.apart.2.1,?_⟩,R.new,?_,R.so,⟨by rw [List.map_map];exact hfs,R.frs⟩⟩
  · show h.FunFrames base (frE (env::F.map Fm.env))
    unfold frE
    rw [List.filter_cons]
    split
    · rename_i hi
      obtain ⟨o,es,ep,e1,e2,_⟩:=hn
      exact ⟨hmod hi,⟨_,o,isFr_is hi,nb,e1,fun vs q=>by rw [e2] at q;cases q⟩,R.funs⟩
    · exact R.funs
  · intro g hg
    rcases List.mem_cons.mp hg with rfl | hg
    · exact ⟨m,hn,hr⟩
    · exact R.frames g hg
  · intro fs e
    subst e
    obtain ⟨a,b1,b2,b3,b4⟩:=R.stem fs rfl
    refine ⟨a,b1,b2,fun q=>?_,b4⟩
    rw [List.map_cons] at q
    rcases List.mem_cons.mp q with q | q
    · exact ns (List.mem_append_left _ (List.mem_append_right _ (by rw [← show ρ.sd=env.locals from q];exact .head _)))
    · exact b3 q
  · rw [List.map_cons,List.nodup_cons]
    exact ⟨n1,R.apart.1⟩
  · intro a ha q
    rw [List.map_cons] at q
    rcases List.mem_cons.mp q with q | q
    · exact n2 (q▸ha)
    · exact R.apart.2.2 a ha q
  · intro g hg
    rcases List.mem_cons.mp hg with rfl | hg
    · exact nb
    · exact R.newF g hg
end
noncomputable def BodyOKC (T:Tabs) (C:CT) (f:Addr) (args:List PV) (Q:PV→Option Fs→Nat→List AO→Prop) (S:Option Fs) (g:Nat) (H:List AO):Prop:=
  match T.cfn f with
  | none=>False
  | some F=>args.length=F.params.length ∧
      pSs (px T C F.scope 40) F.body (bodyK Q) ⟨(F.params.zip args).filter (fun p=>decide (F.scope.names.lookup p.1=some .local))++cellsL H.length F.scope.names,S,g,H++cellsH (F.params.zip args) F.scope.names⟩
theorem lookup_filter {β:Type} (p:Str→Bool):∀ (l:List (Str × β)) (x:Str),(l.filter fun q=>p q.1).lookup x=if p x=true then l.lookup x else none
  | [],x=>by simp
  | (y,v)::r,x=>by
    rw [List.filter_cons,List.lookup_cons]
    cases q:x==y with
    | true=>
      have e:=beq_iff_eq.mp q
      subst e
      by_cases h:p x=true
      · simp [h]
      · simp only [h]
        have:=lookup_filter p r x
        rw [if_neg h] at this
        simpa using this
    | false=>
      split
      · rw [List.lookup_cons,q];exact lookup_filter p r x
      · exact lookup_filter p r x
theorem cellsA_mem:∀ (names:List (Str × NameKind)) (n:Nat) (i:Nat) (p:Str × Addr),(cellsA n names)[i]?=some p→p.2=n+i∧(p.1,NameKind.cell)∈names
  | [],n,i,p,h=>by simp [cellsA] at h
  | (y,k)::r,n,i,p,h=>by
    unfold cellsA at h
    split at h
    · rename_i hk
      cases i with
      | zero=>cases h;exact ⟨rfl,by rw [beq_iff_eq.mp hk];exact .head _⟩
      | succ i=>
        obtain ⟨a,b⟩:=cellsA_mem r (n+1) i p (by simpa using h)
        exact ⟨by rw [a];exact Nat.add_right_comm n 1 i,.tail _ b⟩
    · obtain ⟨a,b⟩:=cellsA_mem r n i p h
      exact ⟨a,.tail _ b⟩
theorem cellsA_nodup:∀ (names:List (Str × NameKind)) (n:Nat),((cellsA n names).map (·.2)).Nodup
  | [],_=>by simp [cellsA]
  | (y,k)::r,n=>by
    unfold cellsA
    split
    · rw [List.map_cons,List.nodup_cons]
      refine ⟨fun h=>?_,cellsA_nodup r (n+1)⟩
      obtain ⟨p,hp,e⟩:=List.mem_map.mp h
      obtain ⟨i,hi⟩:=List.mem_iff_getElem?.mp hp
      have:=(cellsA_mem _ _ _ _ hi).1
      have e':p.2=n:=e
      rw [e'] at this
      exact absurd this (Nat.ne_of_lt (by (exact ar_vqrv)))
    · exact cellsA_nodup r n
theorem cellsH_get (bind:Fs):∀ (names:List (Str × NameKind)) (n i:Nat),(cellsH bind names)[i]?=((cellsA n names)[i]?).map fun p=>AO.cell (bind.lookup p.1)
  | [],n,i=>by simp [cellsH,cellsA]
  | (y,k)::r,n,i=>by
    unfold cellsH cellsA
    split
    · cases i with
      | zero=>rfl
      | succ i=>simpa using cellsH_get bind r (n+1) i
    · exact cellsH_get bind r n i
theorem lookup_memN {α:Type} {x:Str} {v:α}:∀ {l:List (Str × α)},(l.map (·.1)).Nodup→(x,v)∈l→l.lookup x=some v
  | [],_,h=>by cases h
  | (y,k)::r,hn,hm=>by
    rw [List.map_cons,List.nodup_cons] at hn
    rw [List.lookup_cons]
    rcases List.mem_cons.mp hm with e | hm
    · obtain ⟨e1,e2⟩:=Prod.mk.inj e
      rw [e1,e2,beq_self_eq_true]
    · rw [show (x==y)=false from beq_eq_false_iff_ne.mpr fun e=>hn.1 (e▸List.mem_map.mpr ⟨_,hm,rfl⟩)]
      exact lookup_memN hn.2 hm
theorem cellsA_sub:∀ (names:List (Str × NameKind)) (n:Nat),((cellsA n names).map (·.1)).Sublist (names.map (·.1))
  | [],_=>.slnil
  | (y,k)::r,n=>by
    unfold cellsA
    split
    · exact (cellsA_sub r (n+1)).cons₂ y
    · exact (cellsA_sub r n).cons y
theorem cellsA_isC {x:Str}:∀ (names:List (Str × NameKind)) (n:Nat),names.lookup x=some .cell→((cellsA n names).lookup x).isSome=true
  | [],_,h=>(Option.some_ne_none _ h.symm).elim
  | (y,k)::r,n,h=>by
    rw [List.lookup_cons] at h
    unfold cellsA
    cases q:x==y with
    | true=>
      rw [q] at h
      rw [show k=.cell from Option.some.inj h,if_pos (show (NameKind.cell==NameKind.cell)=true by decide),List.lookup_cons,q];rfl
    | false=>
      rw [q] at h
      split
      · rw [List.lookup_cons,q];exact cellsA_isC r _ h
      · exact cellsA_isC r _ h
theorem cellsA_len {l:Fs}:∀ (names:List (Str × NameKind)) (n:Nat),(cellsA n names).length=(cellsH l names).length
  | [],_=>rfl
  | (y,k)::r,n=>by
    unfold cellsA cellsH
    split
    · exact congrArg (·+1) (cellsA_len r _)
    · exact cellsA_len r _
theorem cellsA_look {names:List (Str × NameKind)} {n:Nat} {p:Str × Addr} (hn:(names.map (·.1)).Nodup) (h:p∈cellsA n names):names.lookup p.1=some .cell∧(cellsA n names).lookup p.1=some p.2:=by
  obtain ⟨i,hi⟩:=List.mem_iff_getElem?.mp h
  exact ⟨lookup_memN hn (cellsA_mem _ _ _ _ hi).2,lookup_memN ((cellsA_sub names n).nodup hn) h⟩
theorem cellsA_at {names:List (Str × NameKind)} {n i:Nat} {c:Addr} (h:((cellsA n names).map (·.2))[i]?=some c):c=n+i:=by
  rw [List.getElem?_map] at h
  obtain ⟨p,hp,rfl⟩:=Option.map_eq_some_iff.mp h
  exact (cellsA_mem _ _ _ _ hp).1
theorem storC {K:Frag} {ρ:Rho} {env:Env} {names:List (Str × NameKind)} (hk:∀ x,env.kindOf x=names.lookup x) {sz:Nat} (hc:∀ x,env.cells.lookup x=(cellsA sz names).lookup x) (hn:(names.map (·.1)).Nodup) {bs:List (Str × Value)} {l:Fs} {os:List Addr} {i:Nat} (hl:os.length=i)
    (hos:ρ.os=os++(cellsA sz names).map (·.2)) (hv:MapR K ρ (fun x=>bs.lookup x) l) {m:Str→Option Value} (hm:∀ x,m x=if names.lookup x=some .local then (bs.lookup x).or none else none) :
    MapR K ρ (stor env m) (l.filter (fun p=>decide (names.lookup p.1=some .local))++cellsL i names):=by
  intro x
  obtain ⟨c1,c2,c3⟩:=cellsL_get names sz i os x hl hn
  have lf:=lookup_filter (fun y=>decide (names.lookup y=some .local)) l x
  rw [List.lookup_append,lf]
  unfold stor
  rw [hk,hc,hm,Option.or_none]
  by_cases hx:names.lookup x=some .cell
  · rw [if_neg (show ¬ decide (names.lookup x=some .local)=true from by rw [hx];decide),Option.none_or,if_pos hx]
    refine ⟨fun q=>by rw [c3 q];rfl,fun pv q=>?_⟩
    obtain ⟨j,rfl⟩:=c2 pv q
    obtain ⟨c,h1,h2⟩:=c1 j q
    exact ⟨.ref c,by rw [h1];rfl,c,by rw [hos];exact h2,rfl⟩
  · have hcl:(cellsL i names).lookup x=none:=by
      cases q:(cellsL i names).lookup x with
      | none=>rfl
      | some pv=>
        obtain ⟨j,rfl⟩:=c2 pv q
        obtain ⟨c,h1,_⟩:=c1 j q
        exact absurd (cellsA_look hn (mem_of_lookup h1)).1 hx
    rw [hcl,Option.or_none,if_neg hx]
    by_cases hlx:names.lookup x=some .local
    · rw [if_pos (decide_eq_true hlx),if_pos hlx];exact hv x
    · rw [if_neg (fun q=>hlx (of_decide_eq_true q)),if_neg hlx]
      exact ⟨fun _=>rfl,fun pv q=>(Option.some_ne_none _ q.symm).elim⟩
theorem cellOf {K:Frag} {ρ:Rho} {h:Heap} {c:Addr} {ov:Option Value} {opv:Option PV} {oc:Obj} (h1:h.get? c=some oc) (h2:oc.data=.cell ov) (mz:(opv=none→ov=none)∧∀ pv,opv=some pv→∃ v,ov=some v∧VR K ρ v pv):OR K ρ h c (.cell opv):=by
  cases opv with
  | none=>rw [mz.1 rfl] at h2;exact ⟨oc,h1,h2⟩
  | some pv=>
    obtain ⟨v,z1,z2⟩:=mz.2 pv rfl
    rw [z1] at h2
    exact ⟨oc,v,h1,h2,z2⟩
section
variable {prog:Program} {w:World} {K:Frag} {mg mb:Str→Option Value} {T:Tabs} {Gs:Array GenState} {Os:OsState} {env:Env} {n:Nat} {sc:Scope} {C:CT}
theorem liftC {C C':CT} (ih:CallOK prog w K mg mb T Gs Os n C) (hb:∀ f args Q S g H,C' f args Q S g H→C f args Q S g H∨BodyOKC T C f args Q S g H):CallOK prog w K mg mb T Gs Os (n+1) C':=by
  intro base W f args Q S g H h A s ρ F vs a R hv Rw hq
  rcases hb f args Q S g H h with h | h
  · exact ih.deeper base W f args Q S g H h A s ρ F vs a R hv Rw hq
  unfold BodyOKC at h
  split at h
  · exact h.elim
  rename_i Fn hF
  obtain ⟨hlen,h⟩:=h
  obtain ⟨o,fd,ho,hd,e1,e2,e3,e4,e5,hcode,hk,hco,hgen,hnames,hloc,hnd,hbind⟩:=W.cfns f Fn hF
  have X:=R.hr.inK W
  have hvl:vs.length=Fn.params.length:=by rw [hv.len,hlen]
  have hkeys:((Fn.params.zip vs).map (·.1)).Nodup:=by rw [zip_keys _ _ hvl];exact hnd
  rw [← e1] at h
  have hfrom:∀ x,(cellsFrom (s.heap.objs.size+1) fd.scope.names []).lookup x=(cellsA (s.heap.objs.size+1) fd.scope.names).lookup x:=fun x=>(cellsFrom_lookup _ _ _ _ hnames).trans (Option.or_none)
  refine codeAny_call_cells (Nat.lt_of_lt_of_le (Nat.lt_add_of_pos_right (Nat.succ_pos _)) a.depth) (X _ _ ho) hd (W.lim.keeps R.hr.stays) (hcode _ X) e2 (hbind vs hvl) e5 ?_ (fun s₁ Y=>?_) hco hgen hk
  · intro x hx
    have:x.1∈(Fn.params.zip vs).map (·.1):=List.mem_map.mpr ⟨x,hx,rfl⟩
    rw [zip_keys _ _ hvl] at this
    exact (hloc x.1 this).imp id fun h=>⟨h,by rw [hfrom];exact cellsA_isC _ _ h⟩
  · obtain ⟨h₁,tk,rfl,kp⟩:=Y.done
    have R1:=R.hr.keeps kp
    have hle:∀ {i:Nat} {c:Addr},((cellsA (s.heap.objs.size+1) fd.scope.names).map (·.2))[i]?=some c→s.heap.objs.size < c:=fun h=>by rw [cellsA_at h];exact Nat.lt_of_lt_of_le (Nat.lt_succ_self _) (Nat.le_add_right _ _)
    have R2:=HR.addAll ((cellsA (s.heap.objs.size+1) fd.scope.names).map (·.2)) (cellsH (Fn.params.zip args) fd.scope.names) ρ H R1 (by rw [List.length_map];exact cellsA_len _ _) (cellsA_nodup _ _) (fun c hc=>?_) (fun i c ao h1 h2=>?_)
    · have x2:Ext ρ { ρ with os:=ρ.os++(cellsA (s.heap.objs.size+1) fd.scope.names).map (·.2) }:=Ext.more ρ _
      have R3:=R2.push (env:=callEnvC fd s.heap.objs.size f) (l:=(Fn.params.zip args).filter (fun p=>decide (fd.scope.names.lookup p.1=some .local))++cellsL H.length fd.scope.names) (m:=_)
        (fresh_base R.hr.stays (Nat.le_refl _)) (fun q=>?_) Y.toInCall.ns (storC (fun _=>rfl) hfrom hnames R.hr.len rfl (mapR_zip _ _ _ (hv.ext x2) hlen) fun x=>bindL_is _ _ x hkeys) (fun _=>by show fd.scope.kind≠_;rw [hk];intro q;cases q) (fun L e=>.inl (Option.some.inj e).symm)
      · have a':AOk (A.deeper (callEnvC fd s.heap.objs.size f)) (callEnvC fd s.heap.objs.size f::F.map Fm.env) (2 * n+1):=
          ⟨a.handled,by show A.frames.map _=_;rw [a.frames,frE_cons rfl];rfl,by show A.depth+1+(2 * n+1)≤_;have:=a.depth;(exact ar_qrib this),by show A.units+3+16 * (2 * n+1)+64 < _;have:=a.units;(exact ar_uj16 this)⟩
        obtain ⟨SE,ST,SS⟩:=px_ok (Gs:=Gs) (Os:=Os) (mg:=mg) (mb:=mb) (env:=callEnvC fd s.heap.objs.size f) ⟨hk,rfl,e3,e4⟩ rfl ih 40
        refine ss_ok SS base W _ _ _ h _ { s with heap:=h₁,toks:=tk } _ F a' ⟨R3,R.g,R.gens,R.os⟩ _ _ (fun fl s' ρ' ot σ' x' hf R' hk'=>?_) fun e s' ρ' C σ' _ _ _ hk'=>hk'.elim
        have R'':RR K base Gs Os ρ' σ'.S σ'.g σ'.H F s':=⟨R'.hr.leave,R'.g,R'.gens,R'.os⟩
        cases ot with
        | next=>obtain rfl:=hf;exact hq .none s' ρ' .none _ _ _ (x2.trans x') rfl R'' hk'
        | brk=>exact hk'.elim
        | cont=>exact hk'.elim
        | ret pv=>obtain ⟨v,rfl,hvv⟩:=hf;exact hq v s' ρ' pv _ _ _ (x2.trans x') hvv R'' hk'
        | exc C=>exact hf.elim
      · unfold soft at q
        rcases List.mem_append.mp q with q | q
        · exact Nat.lt_irrefl _ (R.hr.soft_lt _ (List.mem_append_left _ q))
        · rcases List.mem_append.mp (q:s.heap.objs.size∈ρ.os++(cellsA (s.heap.objs.size+1) fd.scope.names).map (·.2)) with q | q
          · exact Nat.lt_irrefl _ (R.hr.osLt q)
          · obtain ⟨i,hi⟩:=List.mem_iff_getElem?.mp q
            exact Nat.lt_irrefl _ (hle hi)
    · obtain ⟨i,hi⟩:=List.mem_iff_getElem?.mp hc
      have hle:=Nat.le_of_lt (hle hi)
      exact ⟨fresh_base R.hr.stays hle,fun q=>absurd (R.hr.soft_lt _ q) (Nat.not_lt.mpr hle)⟩
    · rw [cellsH_get _ _ (s.heap.objs.size+1)] at h2
      obtain ⟨p,hp,rfl⟩:=Option.map_eq_some_iff.mp h2
      rw [List.getElem?_map,hp] at h1
      obtain rfl:p.2=c:=Option.some.inj h1
      obtain ⟨g1,g2⟩:=cellsA_look hnames (List.mem_iff_getElem?.mpr ⟨i,hp⟩)
      obtain ⟨oc,oc1,oc2⟩:=Y.cell p.1 p.2 (by show (cellsFrom _ _ _).lookup _=_;rw [hfrom];exact g2)
      rw [bindC_is _ _ _ hkeys,if_neg (by show ¬ fd.scope.names.lookup p.1=some .local;rw [g1];decide),Option.or_none] at oc2
      exact cellOf oc1 oc2 (mapR_zip (K:=K) (ρ:=ρ) Fn.params vs args hv hlen p.1)
end
end Mine

open PySem PySem.W PyProof.Rows PySem.Calls PySem.Builtin PySem.Builtin.Str
set_option maxRecDepth 100000
set_option Elab.async false
set_option backward.match.sparseCases false
namespace Mine
noncomputable def isOld (n:Nat):PV→Prop
  | .loc i=>i < n
  | _=>True
noncomputable def oldO (n:Nat):AO→Prop
  | .lst xs=>∀ p∈xs,isOld n p
  | .tup xs=>∀ p∈xs,isOld n p
  | .cell none=>True
  | .cell (some p)=>isOld n p
noncomputable def oldS (n:Nat) (S:Option Fs):Prop:=∀ l,S=some l→∀ p∈l,isOld n p.2
noncomputable def cut (ρ:Rho) (n:Nat):Rho:={ ρ with os:=ρ.os.take n }
section
variable {K:Frag} {ρ:Rho}
theorem VR.old {v:Value} {pv:PV} (h:VR K ρ v pv):isOld ρ.os.length pv:=by
  cases pv<;>try trivial
  obtain ⟨a,h1,_⟩:=h
  exact (List.getElem?_eq_some_iff.mp h1).1
theorem VR.cut {n:Nat} {v:Value} {pv:PV} (h:VR K ρ v pv) (o:isOld n pv):VR K (Mine.cut ρ n) v pv:=by
  cases pv<;>try exact h
  obtain ⟨a,h1,h2⟩:=h
  refine ⟨a,?_,h2⟩
  show (ρ.os.take n)[_]?=_
  rw [List.getElem?_take_of_lt o];exact h1
theorem AllR.cut {n:Nat}:∀ {vs:List Value} {ps:List PV},AllR K ρ vs ps→(∀ p∈ps,isOld n p)→AllR K (Mine.cut ρ n) vs ps
  | [],[],_,_=>trivial
  | _::_,_::_,⟨a,b⟩,h=>⟨a.cut (h _ (.head _)),b.cut fun p hp=>h p (.tail _ hp)⟩
  | [],_::_,h,_=>h.elim
  | _::_,[],h,_=>h.elim
theorem OR.cut {n:Nat} {h:Heap} {a:Addr} {ao:AO} (z:OR K ρ h a ao) (o:oldO n ao):OR K (Mine.cut ρ n) h a ao:=by
  rcases ao with xs | xs | _ | pv
  · obtain ⟨ob,vs,k,h1,h2,h3,h4⟩:=z;exact ⟨ob,vs,k,h1,h2,h3,h4.cut o⟩
  · obtain ⟨ob,vs,k,h1,h2,h3,h4⟩:=z;exact ⟨ob,vs,k,h1,h2,h3,h4.cut o⟩
  · exact z
  · obtain ⟨ob,v,h1,h2,h3⟩:=z;exact ⟨ob,v,h1,h2,h3.cut o⟩
theorem MapR.cut {n:Nat} {m:Str→Option Value} {fs:Fs} (h:MapR K ρ m fs) (o:∀ x pv,fs.lookup x=some pv→isOld n pv):MapR K (Mine.cut ρ n) m fs:=
  fun x=>⟨(h x).1,fun pv e=>let ⟨v,a,b⟩:=(h x).2 pv e;⟨v,a,b.cut (o x pv e)⟩⟩
theorem HR.cut {base:Heap} {S:Option Fs} {H:List AO} {F:List Fm} {h:Heap} (R:HR K base ρ S H F h) (n:Nat) (oS:oldS n S) (oH:∀ ao∈H.take n,oldO n ao) (oF:∀ f∈F,∀ x pv,f.l.lookup x=some pv→isOld n pv) :
    HR K base (Mine.cut ρ n) S (H.take n) F h:=by
  refine ⟨R.stays,R.funs,?_,?_,?_,?_,⟨R.apart.1,?_,fun a ha=>R.apart.2.2 a (List.mem_of_mem_take ha)⟩,fun a ha=>R.new a (List.mem_of_mem_take ha),R.newF,R.so,R.frs⟩
  · intro f hf
    obtain ⟨m,n1,r1⟩:=R.frames f hf
    exact ⟨m,n1,r1.cut (oF f hf)⟩
  · intro fs e
    obtain ⟨⟨o,m1,h1,h2,h4,h5,h6,h7⟩,b1,b2,b3,b4⟩:=R.stem fs e
    exact ⟨⟨o,m1,h1,h2,h4,h5,h6,h7.cut fun x pv e'=>oS fs e (x,pv) (mem_of_lookup e')⟩,b1,b2,b3,fun q=>b4 (List.mem_of_mem_take q)⟩
  · show (ρ.os.take n).length=(H.take n).length
    rw [List.length_take,List.length_take,R.len]
  · intro i a ao e1 e2
    have e1':(ρ.os.take n)[i]?=some a:=e1
    rw [List.getElem?_take] at e1' e2
    split at e1'
    · rename_i hlt
      rw [if_pos hlt] at e2
      refine (R.objs i a ao e1' e2).cut (oH ao ?_)
      exact List.mem_iff_getElem?.mpr ⟨i,by rw [List.getElem?_take_of_lt hlt];exact e2⟩
    · cases e1'
  · exact R.apart.2.1.sublist (List.take_sublist _ _)
end
noncomputable def gcC (C:CT):CT:=fun f args Q S g H=>C f args (fun v S' g' H'=>isOld H.length v∧oldS H.length S'∧(∀ ao∈H'.take H.length,oldO H.length ao)∧Q v S' g' (H'.take H.length)) S g H
noncomputable def orC (C D:CT):CT:=fun f args Q S g H=>C f args Q S g H∨D f args Q S g H
section
variable {prog:Program} {w:World} {K:Frag} {mg mb:Str→Option Value} {T:Tabs} {Gs:Array GenState} {Os:OsState} {n:Nat} {C D:CT}
theorem gc_ok (CO:CallOK prog w K mg mb T Gs Os n C):CallOK prog w K mg mb T Gs Os n (gcC C):=by
  intro base W f args Q S g H h A s ρ F vs a R hv Rw hq
  refine CO base W f args _ S g H h A s ρ F vs a R hv Rw fun v s' ρ' pv S' g' H' x' hv' R' hk=>?_
  obtain ⟨k1,k2,k3,k4⟩:=hk
  have x'':Ext ρ (cut ρ' H.length):=⟨x'.le,x'.self,fun i b e=>by
    have hi:i < H.length:=by rw [← R.hr.len];exact (List.getElem?_eq_some_iff.mp e).1
    show (ρ'.os.take H.length)[i]?=_
    rw [List.getElem?_take_of_lt hi];exact x'.os i b e,x'.so⟩
  refine hq v s' (cut ρ' H.length) pv S' g' (H'.take H.length) x'' (hv'.cut k1) ⟨R'.hr.cut H.length k2 k3 fun f hf x pv e=>?_,R'.g,R'.gens,R'.os⟩ k4
  obtain ⟨m,_,r1⟩:=R.hr.frames f hf
  obtain ⟨v,_,hv⟩:=(r1 x).2 pv e
  have:=hv.old
  rwa [R.hr.len] at this
theorem or_ok (CO:CallOK prog w K mg mb T Gs Os n C) (DO:CallOK prog w K mg mb T Gs Os n D):CallOK prog w K mg mb T Gs Os n (orC C D):=by
  intro base W f args Q S g H h
  rcases h with h | h
  · exact CO base W f args Q S g H h
  · exact DO base W f args Q S g H h
theorem CallOK.up {m:Nat} (CO:CallOK prog w K mg mb T Gs Os n C) (h:n≤m):CallOK prog w K mg mb T Gs Os m C:=by
  induction h with
  | refl=>exact CO
  | step _ ih=>exact ih.deeper
theorem call_bot:CallOK prog w K mg mb T Gs Os 0 (fun _ _ _ _ _ _=>False):=fun _ _ _ _ _ _ _ _ h=>h.elim
end
end Mine

open PySem PySem.W PyProof.Rows PySem.Calls PySem.Builtin PySem.Builtin.Str
set_option maxRecDepth 100000
set_option Elab.async false
set_option backward.match.sparseCases false
namespace Mine
theorem runs_toks {M:Model} {Γ:PySem.Ctx} {p:Pos} {t:Sem Fin} {fs:List Frame} {s s':Shared} {e:End} (h:Runs M Γ p t fs s e s'):s.toks≤s'.toks:=by
  induction h with
  | done | raise | yield=>exact Nat.le_refl _
  | fresh _ ih=>have ih':_+1≤_:=ih;exact Nat.le_of_succ_le ih'
  | call _ _ i1 i2=>exact Nat.le_trans i1 i2
  | callSusp _ ih=>exact ih
  | resumeFresh _ _ _ _ i1 i2=>exact Nat.le_trans i1 i2
  | resumeSuspended _ _ _ _ i1 i2=>exact Nat.le_trans i1 i2
  | segRet _ _ i1 i2=>exact Nat.le_trans i1 i2
  | segGen _ _ i1 i2=>exact Nat.le_trans i1 i2
  | segSuspOut _ _ ih=>exact ih
  | segSuspGen _ _ _ _ i1 i2=>exact Nat.le_trans i1 i2
  | _=>assumption
theorem wakes_toks {M:Model} {Γ:PySem.Ctx} {p:Pos} {g:Nat} {r:Resume} {s s':Shared} {res:GenResult} (h:Wakes M Γ p g r s res s'):s.toks≤s'.toks:=by
  unfold Wakes at h
  split at h
  · exact h.elim
  · split at h
    · obtain ⟨e,s₁,h1,_,_,rfl⟩:=h
      have q:=runs_toks h1
      exact q
    · obtain ⟨_,rfl⟩:=h;exact Nat.le_refl _
    · obtain ⟨_,rfl⟩:=h;exact Nat.le_refl _
  · obtain ⟨e,s₁,h1,_,_,rfl⟩:=h
    have q:=runs_toks h1
    exact q
  · obtain ⟨_,rfl⟩:=h;exact Nat.le_refl _
  · obtain ⟨_,rfl⟩:=h;exact Nat.le_refl _
theorem wp_toks {M:Model} {Γ:PySem.Ctx} {α:Type} {Q:α→Pos→Shared→Prop} {E:Value→Pos→Shared→Prop} {n:Nat} (t:Sem α):∀ (p:Pos) (s:Shared),n≤s.toks→Sem.wp M Γ t Q E p s →
    Sem.wp M Γ t (fun a p' s'=>Q a p' s'∧n≤s'.toks) (fun e p' s'=>E e p' s'∧n≤s'.toks) p s:=by
  induction t with
  | pure a=>exact fun p s hn h=>⟨h,hn⟩
  | raise e=>exact fun p s hn h=>⟨h,hn⟩
  | unsupported | finish | yield | fork | await | register=>exact fun p s hn h=>h.elim
  | rule _ k ih | «at» _ k ih | alloc _ k ih | loadIfAlive _ k ih | point _ k ih | ask k ih | os _ _ k ih | handled _ k ih | newGen _ k ih | stack k ih | thread k ih=>exact fun p s hn h=>ih _ _ _ hn h
  | fresh k ih=>exact fun p s hn h=>ih _ _ _ (Nat.le_succ_of_le hn) h
  | load a _ k ih | genState a k ih=>exact fun p s hn ⟨o,ho,h⟩=>⟨o,ho,ih _ _ _ hn h⟩
  | update a _ f k ih | choose _ _ k ih=>exact fun p s hn ⟨ho,h⟩=>⟨ho,ih _ _ _ hn h⟩
  | call c h g l k ih=>exact fun p s hn ⟨r,s₁,hr,h⟩=>⟨r,s₁,hr,ih _ _ _ (Nat.le_trans hn (runs_toks hr)) h⟩
  | resume g r l k ih=>exact fun p s hn ⟨res,s₁,hr,h⟩=>⟨res,s₁,hr,ih _ _ _ (Nat.le_trans hn (wakes_toks hr)) h⟩
theorem wpAny_grow {M:Model} {A:Around} {α:Type} {t:Sem α} {Q:α→Shared→Prop} {E:Value→Shared→Prop} {s:Shared} (h:wpAny M A t (fun v s'=>s.toks≤s'.toks→Q v s') E s):wpAny M A t Q E s:=
  fun Γ p hΓ=>Sem.wp_mono M Γ t (fun a _ s' q=>q.1 q.2) (fun e _ s' q=>q.1) p s (wp_toks t p s (Nat.le_refl _) (h Γ p hΓ))
section
variable {prog:Program} {w:World} {K:Frag} {mg mb:Str→Option Value} {T:Tabs} {Gs:Array GenState} {Os:OsState} {env:Env} {n:Nat} {x:Px} {sc:Scope} {base:Heap}
theorem letOwned_tupleiter {A:Around} {E:Value→Shared→Prop} {s:Shared} {elts:List PySem.Expr} {x1:Nat} {pos:Pos} {I l T:Addr} {i:Nat} {Q:Unit→Shared→Prop} (hit:s.heap.IsTupleIter I l i) (hQ:Q () s) :
    wpAny (model prog w) A (letOwnedTupleGo (.Tuple elts x1 pos) (.ref I) (.ref T)) Q E s:=by
  obtain ⟨o,ho,hc,hd⟩:=hit
  unfold letOwnedTupleGo
  refine wpAny_bind (wpAny_load ho ?_)
  rw [hc,hd]
  show wpAny _ A (if (["enumerate","zip","dict_itemiterator","dict_reverseitemiterator","odict_iterator","itertools.zip_longest","itertools.pairwise"].contains "tuple_iterator" &&
      (#[.ref l,.int i 0]:Array Value)[0]?==some (rawInt T))=true then _ else _) Q E s
  rw [if_neg (by
    intro h
    rw [show (["enumerate","zip","dict_itemiterator","dict_reverseitemiterator","odict_iterator","itertools.zip_longest","itertools.pairwise"].contains "tuple_iterator")=false from by decide,Bool.false_and] at h
    cases h)]
  exact wpAny_pure hQ
inductive PInv (K:Frag) (base:Heap) (Gs:Array GenState) (Os:OsState) (env:Env) (F:List Fm) (x:Px) (y z:Str) (b:List Stmt) (k:Ot→St→Prop) (prs:List (List Nat × List Nat)) (I tt:Addr) (ρ:Rho) (m:Nat) (s:Shared):Prop
  | mk (ρ':Rho) (σ':St) (j:Nat) (x₁:Ext ρ ρ') (R:RR K base Gs Os ρ' σ'.S σ'.g σ'.H (⟨env,σ'.l⟩::F) s) (it:s.heap.IsTupleIter I tt j) (nI:I∉soft ρ' σ'.S (⟨env,σ'.l⟩::F)) (h:pForP x y z b k (prs.drop j) σ') (hj:j≤prs.length) (hm:m=prs.length+1 - j) :
    PInv K base Gs Os env F x y z b k prs I tt ρ m s
theorem forPairs_ok (V:EnvOK env sc) (hfr:env.frame=some env.locals) (SS:SoundSs prog w K mg mb T Gs Os env n (pSs x)) (W:Facts prog w K base mg mb T) {y z:Str} {py pz tp:Pos} {ti:Nat} {b:List Stmt} {k:Ot→St→Prop} {I tt:Addr} {items:Array Value} {prs:List (List Nat × List Nat)}
    {A:Around} {ρ:Rho} (ht:base.IsTuple tt items) (hp:PairsAt base items.toList prs) (hl:isLocal sc y=true) (hm:isLocal sc z=true) {σ:St} (h:pForP x y z b k prs σ) {s:Shared} {F:List Fm} (a:AOk A (env::F.map Fm.env) (2 * n+1)) (R:RR K base Gs Os ρ σ.S σ.g σ.H (⟨env,σ.l⟩::F) s)
    (hI:s.heap.IsTupleIter I tt 0) (nI:I∉soft ρ σ.S (⟨env,σ.l⟩::F)) (bI:base.get? I=none) {Q:Flow→Shared→Prop} {E:Value→Shared→Prop} (hq:PQ K base Gs Os env ρ F k Q) (he:PE K base Gs Os env ρ F k E) :
    codeAny (model prog w) A (.forLoop (.Tuple [.Name y py,.Name z pz] ti tp) (.ref I) b [] env) (fun r s'=>match r with | .ok f=>Q f s' | .error e=>cameBackBy (model prog w) A env E e s') s:=by
  refine codeAny_forLoop_any (PInv K base Gs Os env F x y z b k prs I tt ρ) ?_ (prs.length+1) ⟨ρ,σ,0,.refl _,R,hI,nI,h,Nat.zero_le _,rfl⟩
  rintro m s₁ ⟨ρ₁,σ₁,j,x₁,R₁,it₁,nI₁,h₁,hj,rfl⟩
  have ht₁:s₁.heap.IsTuple tt items:=let ⟨o,e,r⟩:=ht;⟨o,R₁.hr.stays _ _ e,r⟩
  have hp₁:PairsAt s₁.heap items.toList prs:=hp.keep R₁.hr.stays
  have hsz:items.size=prs.length:=by have:=hp.len;simpa using this
  cases hd:prs.drop j with
  | nil=>
    rw [hd] at h₁
    refine wpAny_pyNext_tuple_end a.handled it₁ ht₁ (by rw [Array.getElem?_eq_none_iff,hsz];exact List.drop_eq_nil_iff.mp hd) fun h₂ k₂=>?_
    exact wpAny_execs_nil (hq _ _ ρ₁ .next σ₁ x₁ rfl ⟨R₁.hr.other bI nI₁ k₂,R₁.g,R₁.gens,R₁.os⟩ h₁)
  | cons v r=>
    rw [hd] at h₁
    have hlt:j < prs.length:=drop_lt hd
    have hv:prs[j]?=some v:=drop_at hd
    obtain ⟨q,t,u,hvs,hq',t0,u0,tu⟩:=hp₁.get hv
    refine wpAny_pyNext_tuple_item it₁ ht₁ (x:=.ref q) (by simpa using hvs) fun h₂ it₂ sb₂=>?_
    have R₂:RR K base Gs Os ρ₁ σ₁.S σ₁.g σ₁.H (⟨env,σ₁.l⟩::F) { s₁ with heap:=h₂ }:=⟨R₁.hr.other bI nI₁ sb₂.extBut,R₁.g,R₁.gens,R₁.os⟩
    have hqI:q≠I:=hp.notAt hv hvs bI
    have hq₂:h₂.IsTuple q #[.str (strL v.1) t,.str (strL v.2) u]:=let ⟨o,e,r⟩:=hq';⟨o,(sb₂.2 q hqI).trans e,r⟩
    refine letOwned_tupleiter it₂ ?_
    refine wpAny_assign_Tuple a.handled hq₂ rfl rfl fun h₃ eb=>?_
    have k₃:∀ b o,h₂.get? b=some o→h₃.get? b=some o:=fun b o eo=>eb b o (Nat.ne_of_lt (Heap.lt_size eo)) eo
    have R₃:RR K base Gs Os ρ₁ σ₁.S σ₁.g σ₁.H (⟨env,σ₁.l⟩::F) { s₁ with heap:=h₃ }:=⟨R₂.hr.keeps k₃,R₁.g,R₁.gens,R₁.os⟩
    have it₃:h₃.IsTupleIter I tt (j+1):=let ⟨o,e,r⟩:=it₂;⟨o,k₃ _ _ e,r⟩
    refine wpAny_bind (wpAny_holding (wpAny_assign_Name ?_))
    obtain ⟨mL,nL,rL⟩:=R₃.hr.frames _ (.head _)
    have hne:I≠env.locals:=fun q=>nI₁ (q▸List.mem_append_left _ (List.mem_append_left _ (.head _)))
    refine wpAny_storeName_local (isLocal_of V hl) nL (fun h₄ hn₄ sb₄=>?_) (by rw [show env.scope.kind=.function by rw [V.sc];exact V.kind];rfl)
    have HR₄:=R₃.hr.setLocal (f:=⟨env,σ₁.l⟩) (x:=y) (pv:=.strT v.1 t) (isLocal_of V hl) nL rL rfl hn₄ sb₄
    have it₄:h₄.IsTupleIter I tt (j+1):=let ⟨o,e,r⟩:=it₃;⟨o,(sb₄.2 I hne).trans e,r⟩
    refine wpAny_bind (wpAny_holding (wpAny_assign_Name ?_))
    obtain ⟨mM,nM,rM⟩:=HR₄.frames _ (.head _)
    refine wpAny_storeName_local (isLocal_of V hm) nM (fun h₅ hn₅ sb₅=>?_) (by rw [show env.scope.kind=.function by rw [V.sc];exact V.kind];rfl)
    have HR₅:=HR₄.setLocal (f:=⟨env,put y (.strT v.1 t) σ₁.l⟩) (x:=z) (pv:=.strT v.2 u) (isLocal_of V hm) nM rM rfl hn₅ sb₅
    have it₅:h₅.IsTupleIter I tt (j+1):=let ⟨o,e,r⟩:=it₄;⟨o,(sb₅.2 I hne).trans e,r⟩
    refine wpAny_pure ?_
    obtain ⟨oI,eI,rI⟩:=id it₅
    have itb:(hideAll h₅ (soft ρ₁ σ₁.S (⟨env,put z (.strT v.2 u) (put y (.strT v.1 t) σ₁.l)⟩::F))).get? I=some oI:=hideAll_get _ eI nI₁
    have hb:pSs x b (turnK (pForP x y z b k r) k) { σ₁ with l:=put z (.strT v.2 u) (put y (.strT v.1 t) σ₁.l) }:=h₁ t u t0 u0 tu
    refine SS _ (W.keeps HR₅.base_in) _ _ { σ₁ with l:=put z (.strT v.2 u) (put y (.strT v.1 t) σ₁.l) } hb A { s₁ with heap:=h₅,toks:=_ } ρ₁ F a ⟨HR₅.rebase,R₁.g,R₁.gens,R₁.os⟩ _ _
      (turn_end (A:=A) (E:=E) (fun s₄ ρ₄ σ₄ x₄ R₄ h₄=>?_) HR₅.base_in HR₅.so (hq.up x₁)) (turn_exc hfr a HR₅.base_in HR₅.so (he.up x₁))
    refine ⟨prs.length+1 - (j+1),by (exact ar_6ket hlt),ρ₄,σ₄,j+1,x₁.trans x₄,⟨R₄.hr.back HR₅.base_in (x₄.so▸HR₅.so),R₄.g,R₄.gens,R₄.os⟩,⟨oI,R₄.hr.stays _ _ itb,rI⟩,fun q=>?_,drop_next hd▸h₄,hlt,rfl⟩
    have:=R₄.hr.soft_new I q
    rw [itb] at this;cases this
end
end Mine

open PySem PySem.W PyProof.Rows PySem.Calls PySem.Builtin PySem.Builtin.Str
set_option maxRecDepth 100000
set_option Elab.async false
set_option backward.match.sparseCases false
namespace Mine
theorem asTxt_is {e:Ex} {l:List Nat} (h:asTxt e=some l):∃ k p,e=.Constant (.str (strL l)) k p:=by
  obtain ⟨x,h1,rfl⟩:=Option.map_eq_some_iff.mp h
  obtain ⟨k,p,rfl⟩:=strOf_is h1
  exact ⟨k,p,by unfold strL;rw [Array.toArray_toList]⟩
theorem asTxt2_is {e:Ex} {q:List Nat × List Nat} (h:asTxt2 e=some q):∃ a b i p,e=.Tuple [a,b] i p∧asTxt a=some q.1∧asTxt b=some q.2:=by
  obtain ⟨es,h1,h2⟩:=Option.bind_eq_some_iff.mp h
  obtain ⟨i,p,rfl⟩:=asTupV_is h1
  rcases es with _ | ⟨a,_ | ⟨b,_ | ⟨_,_⟩⟩⟩
  · exact (Option.some_ne_none _ h2.symm).elim
  · exact (Option.some_ne_none _ h2.symm).elim
  · obtain ⟨u,h3,h4⟩:=Option.bind_eq_some_iff.mp (h2:(asTxt a).bind (fun q=>(asTxt b).map fun r=>(q,r))=some q)
    obtain ⟨v,h5,rfl⟩:=Option.map_eq_some_iff.mp h4
    exact ⟨a,b,i,p,rfl,h3,h5⟩
  · exact (Option.some_ne_none _ h2.symm).elim
noncomputable def PairsFrom (n:Nat) (h:Heap):List Value→List (List Nat × List Nat)→Prop
  | [],[]=>True
  | v::vs,p::ps=>(∃ a t u,n≤a∧v=.ref a∧h.IsTuple a #[.str (strL p.1) t,.str (strL p.2) u]∧t≠0∧u≠0∧t≠u)∧PairsFrom n h vs ps
  | _,_=>False
theorem PairsFrom.hide {n:Nat} {h:Heap} {l:List Addr} (hl:∀ a∈l,a < n):∀ {vs:List Value} {ps:List (List Nat × List Nat)},PairsFrom n h vs ps→PairsAt (hideAll h l) vs ps
  | [],[],_=>trivial
  | _::_,_::_,⟨⟨a,t,u,hn,e,⟨o,h1,r⟩,q⟩,y⟩=>⟨⟨a,t,u,e,⟨o,hideAll_get _ h1 (fun hm=>Nat.lt_irrefl _ (Nat.lt_of_lt_of_le (hl a hm) hn)),r⟩,q⟩,y.hide hl⟩
  | [],_::_,h=>h.elim
  | _::_,[],h=>h.elim
theorem PairsFrom.keep {n:Nat} {h h':Heap} (k:∀ b o,h.get? b=some o→h'.get? b=some o):∀ {vs:List Value} {ps:List (List Nat × List Nat)},PairsFrom n h vs ps→PairsFrom n h' vs ps
  | [],[],_=>trivial
  | _::_,_::_,⟨⟨a,t,u,hn,e,⟨o,h1,r⟩,q⟩,y⟩=>⟨⟨a,t,u,hn,e,⟨o,k _ _ h1,r⟩,q⟩,y.keep k⟩
  | [],_::_,h=>h.elim
  | _::_,[],h=>h.elim
section
variable {prog:Program} {w:World} {A:Around} {E:Value→Shared→Prop} {env:Env}
theorem txt_eval {e:Ex} {l:List Nat} (h:asTxt e=some l) {s:Shared} {Q:Value→Shared→Prop} (hq:Q (.str (strL l) s.toks) { s with toks:=s.toks+1 }):wpAny (model prog w) A (eval e env) Q E s:=by
  obtain ⟨k,p,rfl⟩:=asTxt_is h
  rw [arm_eval_Constant]
  show wpAny _ _ (mkText _) _ _ _
  exact wpAny_mkText hq
theorem asTxt_star {e:Ex} {l:List Nat} (h:asTxt e=some l):isStar e=false:=by
  obtain ⟨k,p,rfl⟩:=asTxt_is h;rfl
theorem pair_eval {e:Ex} {q:List Nat × List Nat} (h:asTxt2 e=some q) {s:Shared} (h0:0 < s.toks) {Q:Value→Shared→Prop}
    (hq:∀ h' tk a t u,0 < tk→s.heap.objs.size≤a→(∀ b o,s.heap.get? b=some o→h'.get? b=some o)→s.heap.objs.size≤h'.objs.size→h'.IsTuple a #[.str (strL q.1) t,.str (strL q.2) u]→t≠0→u≠0→t≠u→Q (.ref a) { s with heap:=h',toks:=tk }) :
    wpAny (model prog w) A (eval e env) Q E s:=by
  obtain ⟨a,b,i,p,rfl,ha,hb⟩:=asTxt2_is h
  refine wpAny_Tuple_spliced ?_
  rw [starEach_plain (by unfold noStar;simp [asTxt_star ha,asTxt_star hb]),backTo_plain]
  refine spliced_cons (txt_eval ha (spliced_cons (txt_eval hb (spliced_nil ?_))))
  refine ⟨by rw [sizeLine_eq];simp,?_⟩
  exact hq _ (s.toks+1+1) _ s.toks (s.toks+1) (by (exact ar_pmov)) (Nat.le_refl _) (fun b o e=>Heap.get?_push_of_some _ e) (by show _≤(s.heap.push _).objs.size;rw [Heap.size_push];exact Nat.le_succ _) ⟨_,Heap.get?_push_size _ rfl,rfl,_,rfl⟩ (Nat.ne_of_gt h0) (Nat.succ_ne_zero _) (Nat.ne_of_lt (Nat.lt_succ_self _))
theorem asTxt2_star {e:Ex} {l:List Nat × List Nat} (h:asTxt2 e=some l):isStar e=false:=by
  obtain ⟨a,b,i,p,rfl,_⟩:=asTxt2_is h;rfl
theorem asTxts_cons {e:Ex} {r:List Ex} {ps:List (List Nat × List Nat)} (h:asTxts (e::r)=some ps):∃ p l,ps=p::l∧asTxt2 e=some p∧asTxts r=some l:=by
  obtain ⟨p,h1,h2⟩:=Option.bind_eq_some_iff.mp (h:(asTxt2 e).bind (fun p=>(asTxts r).map (p::·))=some ps)
  obtain ⟨l,h3,rfl⟩:=Option.map_eq_some_iff.mp h2
  exact ⟨p,l,rfl,h1,h3⟩
theorem asTxts_star:∀ {es:List Ex} {ps:List (List Nat × List Nat)},asTxts es=some ps→noStar es=true
  | [],_,_=>rfl
  | e::r,ps,h=>by
    obtain ⟨p,l,rfl,h1,h2⟩:=asTxts_cons h
    have:=asTxts_star h2
    unfold noStar at this ⊢
    rw [List.all_cons,this,asTxt2_star h1];rfl
theorem pairs_eval {n:Nat}:∀ {es:List Ex} {ps:List (List Nat × List Nat)},asTxts es=some ps→∀ {s:Shared},0 < s.toks→n≤s.heap.objs.size→∀ {Q:List Value→Shared→Prop},
    (∀ vs h' tk,0 < tk→vs.length=ps.length→(∀ b o,s.heap.get? b=some o→h'.get? b=some o)→n≤h'.objs.size→PairsFrom n h' vs ps→Q vs { s with heap:=h',toks:=tk })→wpAny (model prog w) A (spliced (argsOf es env)) Q E s
  | [],ps,h,s,h0,hn,Q,hq=>by
    cases h
    exact spliced_nil (hq [] s.heap s.toks h0 rfl (fun _ _ e=>e) hn trivial)
  | e::r,ps,h,s,h0,hn,Q,hq=>by
    obtain ⟨p,l,rfl,h1,h2⟩:=asTxts_cons h
    refine spliced_cons (pair_eval h1 h0 fun h' tk a t u tk0 ha hk hsz ht t0 u0 tu=>?_)
    refine pairs_eval h2 tk0 (Nat.le_trans hn hsz) fun vs h₂ tk₂ tk0' hlen hk₂ hn₂ hp=>?_
    refine hq (.ref a::vs) h₂ tk₂ tk0' (by rw [List.length_cons,List.length_cons,hlen]) (fun b o e=>hk₂ b o (hk b o e)) hn₂ ⟨⟨a,t,u,Nat.le_trans hn ha,rfl,?_,t0,u0,tu⟩,hp⟩
    obtain ⟨o,ho,rr⟩:=ht
    exact ⟨o,hk₂ _ _ ho,rr⟩
end
section
variable {prog:Program} {w:World} {K:Frag} {mg mb:Str→Option Value} {T:Tabs} {Gs:Array GenState} {Os:OsState} {env:Env} {n:Nat} {x:Px} {sc:Scope} {base:Heap}
theorem sForP_ok (V:EnvOK env sc) (hfr:env.frame=some env.locals) (SL:SoundSs prog w K mg mb T Gs Os env n (pSs x)) (W:Facts prog w K base mg mb T) {tg it:Ex} {body:List Stmt} {sp:Pos} {k:Ot→St→Prop} {σ:St} (h:sForP sc x tg it body k σ)
    {A:Around} {s:Shared} (h0:0 < s.toks) {ρ:Rho} {F:List Fm} (a:AOk A (env::F.map Fm.env) (2 * n+1)) (R:RR K base Gs Os ρ σ.S σ.g σ.H (⟨env,σ.l⟩::F) s) {Q:Flow→Shared→Prop} {E:Value→Shared→Prop} (hq:PQ K base Gs Os env ρ F k Q) (he:PE K base Gs Os env ρ F k E) :
    wpAny (model prog w) A (exec (.For tg it body [] sp) env) Q E s:=by
  unfold sForP at h
  split at h
  · rename_i y py z pz prs hp1 hp2
    split at h
    · rename_i hl
      rw [Bool.and_eq_true] at hl
      obtain ⟨tes,ht1,ht2⟩:=Option.bind_eq_some_iff.mp hp1
      obtain ⟨ti,tp,rfl⟩:=asTupV_is ht1
      obtain rfl:=pairOfN_is ht2
      clear hp1 ht1 ht2
      obtain ⟨es,hp3,hp4⟩:=Option.bind_eq_some_iff.mp hp2
      obtain ⟨i,p,rfl⟩:=asTupV_is hp3
      clear hp2 hp3
      cases hle:Nat.ble es.length 3000 with
      | false=>rw [hle] at hp4;exact (Option.some_ne_none _ hp4.symm).elim
      | true=>
        have hp2:asTxts es=some prs:=by rw [hle] at hp4;exact hp4
        clear hp4
        have hle':=Nat.le_of_ble_eq_true hle
        refine wpAny_For (wpAny_Tuple_spliced ?_)
        rw [starEach_plain (asTxts_star hp2),backTo_plain]
        refine pairs_eval (n:=s.heap.objs.size) hp2 h0 (Nat.le_refl _) fun vs h₁ tk₁ _ hlen hk₁ hn₁ hps=>?_
        have hesl:es.length=prs.length:=by
          clear h hle hle' hps hlen
          induction es generalizing prs with
          | nil=>cases hp2;rfl
          | cons e r ih=>obtain ⟨p,l,rfl,_,h2⟩:=asTxts_cons hp2;rw [List.length_cons,List.length_cons,ih _ h2]
        refine ⟨by rw [sizeLine_eq];(exact ar_29vo hle' hlen hesl),?_⟩
        have hslt:=R.hr.soft_lt
        have R₁:HR K base ρ σ.S σ.H (⟨env,σ.l⟩::F) h₁:=R.hr.keeps hk₁
        have R₂:=R₁.keeps (h':=h₁.push { cls:=.type "tuple",data:=.seq vs.toArray }) fun _ _ e=>Heap.get?_push_of_some _ e
        have hl':∀ b∈soft ρ σ.S (⟨env,σ.l⟩::F),b < s.heap.objs.size:=fun b hb=>hslt b hb
        have tIs:(h₁.push { cls:=.type "tuple",data:=.seq vs.toArray }).IsTuple h₁.objs.size vs.toArray:=⟨_,Heap.get?_push_size _ rfl,rfl,_,rfl⟩
        refine wpAny_pyIter_tuple tIs ?_
        have R₃:=R₂.rebase.keeps (h':=(h₁.push { cls:=.type "tuple",data:=.seq vs.toArray }).push { cls:=.type "tuple_iterator",data:=.fields #[.ref h₁.objs.size,.int 0 0] }) fun _ _ e=>Heap.get?_push_of_some _ e
        have st:=R₂.base_in
        have ht:(hideAll (h₁.push { cls:=.type "tuple",data:=.seq vs.toArray }) (soft ρ σ.S (⟨env,σ.l⟩::F))).IsTuple h₁.objs.size vs.toArray:=by
          obtain ⟨o,ho,r⟩:=tIs
          exact ⟨o,hideAll_get _ ho (fun hm=>Nat.lt_irrefl _ (Nat.lt_of_lt_of_le (hl' _ hm) hn₁)),r⟩
        have hpa:PairsAt (hideAll (h₁.push { cls:=.type "tuple",data:=.seq vs.toArray }) (soft ρ σ.S (⟨env,σ.l⟩::F))) vs.toArray.toList prs:=by
          have:=(hps.keep (h':=h₁.push { cls:=.type "tuple",data:=.seq vs.toArray }) fun _ _ e=>Heap.get?_push_of_some _ e).hide hl'
          simpa using this
        refine forPairs_ok (s:={ s with heap:=(h₁.push { cls:=.type "tuple",data:=.seq vs.toArray }).push { cls:=.type "tuple_iterator",data:=.fields #[.ref h₁.objs.size,.int 0 0] },toks:=tk₁ }) V hfr SL (W.keeps st) ht hpa hl.1 hl.2 h a ⟨R₃,R.g,R.gens,R.os⟩ ⟨_,Heap.get?_push_size _ rfl,rfl,rfl⟩ (fun hm=>by have q:=hl' _ hm;rw [Heap.size_push] at q;exact Nat.lt_irrefl _ (Nat.lt_of_lt_of_le q (Nat.le_succ_of_le hn₁))) (fresh_base R₂.rebase.stays (Nat.le_refl _))
          (fun f s' ρ' o σ' x' hf R' h'=>hq f s' ρ' o σ' x' hf ⟨R'.hr.back st (x'.so▸R.hr.so),R'.g,R'.gens,R'.os⟩ h') (fun e s' ρ' C σ' x' R' X h'=>he e s' ρ' C σ' x' ⟨R'.hr.back st (x'.so▸R.hr.so),R'.g,R'.gens,R'.os⟩ (X.back st) h')
    · exact h.elim
  · exact h.elim
end
end Mine

open PySem PySem.W PyProof.Rows PySem.Calls PySem.Builtin PySem.Builtin.Str
set_option maxRecDepth 100000
set_option Elab.async false
set_option backward.match.sparseCases true
namespace Mine
section
variable {prog:Program} {w:World} {K:Frag} {mg mb:Str→Option Value} {T:Tabs} {Gs:Array GenState} {Os:OsState} {env:Env} {n:Nat} {x:Px} {sc:Scope} {base:Heap} {C:CT}
theorem pre_ok (SS:SoundS prog w K mg mb T Gs Os env n x.S) (W:Facts prog w K base mg mb T) {tail:List Stmt}:∀ (pre:List Stmt) (k:Ot→St→Prop) (σ:St),pSs x pre k σ→∀ (A:Around) (s:Shared) (ρ:Rho) (F:List Fm),0 < s.toks →
    AOk A (env::F.map Fm.env) (2 * n+1)→RR K base Gs Os ρ σ.S σ.g σ.H (⟨env,σ.l⟩::F) s→∀ (Q:Flow→Shared→Prop) (E:Value→Shared→Prop),
    (∀ s' ρ' σ',0 < s'.toks→Ext ρ ρ'→RR K base Gs Os ρ' σ'.S σ'.g σ'.H (⟨env,σ'.l⟩::F) s'→k .next σ'→wpAny (model prog w) A (execs tail env) Q E s') →
    (∀ f s' ρ' o σ',o≠.next→Ext ρ ρ'→FR K ρ' f o→RR K base Gs Os ρ' σ'.S σ'.g σ'.H (⟨env,σ'.l⟩::F) s'→k o σ'→Q f s')→PE K base Gs Os env ρ F k E →
    wpAny (model prog w) A (execs (pre++tail) env) Q E s
  | [],k,σ,h,A,s,ρ,F,h0,a,R,Q,E,hn,hq,he=>hn s ρ σ h0 (.refl _) R h
  | st::r,k,σ,h,A,s,ρ,F,h0,a,R,Q,E,hn,hq,he=>by
    show wpAny _ _ (execs (st::(r++tail)) env) _ _ _
    refine wpAny_execs_cons (wpAny_grow (SS base W st _ σ h A s ρ F a R _ _ (fun f s₁ ρ₁ o σ₁ x₁ hf R₁ h₁ hle=>?_) fun e s₁ ρ₁ C σ₁ x₁ R₁ X h₁=>he e s₁ ρ₁ C σ₁ x₁ R₁ X h₁))
    cases o with
    | next=>
      obtain rfl:=hf
      exact pre_ok SS W r k σ₁ h₁ A s₁ ρ₁ F (Nat.lt_of_lt_of_le h0 hle) a R₁ Q E (fun s₂ ρ₂ σ₂ t0 x₂ R₂ h₂=>hn s₂ ρ₂ σ₂ t0 (x₁.trans x₂) R₂ h₂)
        (fun f s₂ ρ₂ o σ₂ ho x₂ hf R₂ h₂=>hq f s₂ ρ₂ o σ₂ ho (x₁.trans x₂) hf R₂ h₂) fun e s₂ ρ₂ C σ₂ x₂ R₂ X h₂=>he e s₂ ρ₂ C σ₂ (x₁.trans x₂) R₂ X h₂
    | brk=>obtain rfl:=hf;exact hq _ s₁ ρ₁ .brk σ₁ (by intro q;cases q) x₁ rfl R₁ h₁
    | cont=>obtain rfl:=hf;exact hq _ s₁ ρ₁ .cont σ₁ (by intro q;cases q) x₁ rfl R₁ h₁
    | ret pv=>obtain ⟨v,rfl,hv⟩:=hf;exact hq _ s₁ ρ₁ (.ret pv) σ₁ (by intro q;cases q) x₁ ⟨v,rfl,hv⟩ R₁ h₁
    | exc C=>exact hf.elim
noncomputable def thenK (x:Px) (rest:List Stmt) (k:Ot→St→Prop):Ot→St→Prop:=fun o σ₁=>match o with | .next=>pSs x rest k σ₁ | o=>k o σ₁
noncomputable def preK (sc:Scope) (x:Px) (tg it:Ex) (body post:List Stmt) (k:Ot→St→Prop):Ot→St→Prop:=fun o σ=>match o with | .next=>sForP sc x tg it body (thenK x post k) σ | o=>k o σ
noncomputable def asFor:Stmt→Option (Ex × Ex × List Stmt × Pos)
  | .For tg it body oe p=>(match oe with | []=>some (tg,it,body,p) | _=>none)
  | _=>none
theorem asFor_is {st:Stmt} {tg it:Ex} {body:List Stmt} {p:Pos} (h:asFor st=some (tg,it,body,p)):st=.For tg it body [] p:=by
  cases st<;>try (cases h;done)
  rename_i a b c d e
  cases d<;>first | (cases h;rfl) | cases h
noncomputable def BodyOKT (T:Tabs) (C:CT) (i:Nat) (f:Addr) (args:List PV) (Q:PV→Option Fs→Nat→List AO→Prop) (S:Option Fs) (g:Nat) (H:List AO):Prop:=
  match T.fns f with
  | none=>False
  | some F=>args.length=F.params.length∧0 < F.params.length∧(match F.body.drop i with
    | st::post=>(match asFor st with
      | some (tg,it,body,_)=>pSs (px T C F.scope 40) (F.body.take i) (preK F.scope (px T C F.scope 40) tg it body post (bodyK Q)) ⟨F.params.zip args,S,g,H⟩
      | none=>False)
    | []=>False)
theorem liftT {C':CT} (i:Nat) (ih:CallOK prog w K mg mb T Gs Os n C) (hb:∀ f args Q S g H,C' f args Q S g H→BodyOKT T C i f args Q S g H):CallOK prog w K mg mb T Gs Os (n+1) C':=by
    intro base W f args Q S g H h A s ρ F vs a R hv Rw hq
    have h:=hb f args Q S g H h
    unfold BodyOKT at h
    split at h
    · exact h.elim
    · rename_i Fn hF
      obtain ⟨hlen,hpos,h⟩:=h
      split at h
      · rename_i st post hdrop
        split at h
        · rename_i tg it body fp hfor
          obtain ⟨o,fd,ho,hd,e1,e2,e3,e4,e5,hcode,hk,hco,hgen,hcell,hloc,hnd,hbind⟩:=W.fns f Fn hF
          have X:=R.hr.inK W
          have hvl:vs.length=Fn.params.length:=by rw [hv.len,hlen]
          have hroom:A.depth < recursionLimit:=by have:=a.depth;(exact ar_ke1s this)
          have hkeys:((Fn.params.zip vs).map (·.1)).Nodup:=by rw [zip_keys _ _ hvl];exact hnd
          refine (codeAny_call_def hroom (X _ _ ho) hd (W.lim.keeps R.hr.stays) (hcode _ X) e2 (.of_eq (hbind vs hvl)) hcell ?_ (fun h₀ hn hk₀=>?_) hco hgen hk)
          · intro x hx
            refine hloc x.1 ?_
            have:x.1∈(Fn.params.zip vs).map (·.1):=List.mem_map.mpr ⟨x,hx,rfl⟩
            rwa [zip_keys _ _ hvl] at this
          · have V:EnvOK (callEnv fd s.heap.objs.size f) Fn.scope:=⟨by rw [← e1];exact hk,e1,e3,e4⟩
            have HR':HR K base ρ S H (⟨callEnv fd s.heap.objs.size f,Fn.params.zip args⟩::F) h₀:=by
              refine R.hr.enter hk₀ (m:=fun x=>(Fn.params.zip vs).lookup x) ?_ (by rw [stor_none hcell];exact mapR_zip _ _ _ hv hlen) (Nat.le_refl _) (fun _=>by show fd.scope.kind≠_;rw [hk];intro q;cases q) (fun L e=>.inl (Option.some.inj e).symm)
              have:(fun x=>(Fn.params.zip vs).reverse.lookup x)=fun x=>(Fn.params.zip vs).lookup x:=funext fun x=>lookup_rev hkeys x
              rw [← this];exact hn
            have a':AOk (A.deeper (callEnv fd s.heap.objs.size f)) (callEnv fd s.heap.objs.size f::F.map Fm.env) (2 * n+1):=
              ⟨a.handled,by show A.frames.map _=_;rw [a.frames,frE_cons rfl];rfl,by show A.depth+1+(2 * n+1)≤_;have:=a.depth;(exact ar_qrib this),by show A.units+3+16 * (2 * n+1)+64 < _;have:=a.units;(exact ar_uj16 this)⟩
            obtain ⟨SE,ST,SS⟩:=px_ok (Gs:=Gs) (Os:=Os) (mg:=mg) (mb:=mb) V rfl ih 40
            have hzl:(Fn.params.zip vs).length=Fn.params.length:=by rw [List.length_zip,hvl,Nat.min_self]
            have hbody:Fn.body=Fn.body.take i++(.For tg it body [] fp::post):=by rw [← asFor_is hfor,← hdrop,List.take_append_drop]
            have fin:∀ fl s' ρ' ot σ',Ext ρ ρ'→FR K ρ' fl ot→RR K base Gs Os ρ' σ'.S σ'.g σ'.H (⟨callEnv fd s.heap.objs.size f,σ'.l⟩::F) s'→bodyK Q ot σ'→Rw (.ok (.ret (match fl with | .ret v=>v | _=>.none))) s':=by
              intro fl s' ρ' ot σ' x' hf R' hk'
              have R'':RR K base Gs Os ρ' σ'.S σ'.g σ'.H F s':=⟨R'.hr.leave,R'.g,R'.gens,R'.os⟩
              cases ot with
              | next=>obtain rfl:=hf;exact hq .none s' ρ' .none _ _ _ x' rfl R'' hk'
              | brk=>exact hk'.elim
              | cont=>exact hk'.elim
              | ret pv=>obtain ⟨v,rfl,hvv⟩:=hf;exact hq v s' ρ' pv _ _ _ x' hvv R'' hk'
              | exc C=>exact hf.elim
            rw [hbody]
            refine pre_ok SS W _ _ ⟨Fn.params.zip args,S,g,H⟩ h _ { s with heap:=h₀,toks:=s.toks+(Fn.params.zip vs).length } ρ F (by show 0 < s.toks+_;rw [hzl];(exact ar_jp47 hpos)) a' ⟨HR',R.g,R.gens,R.os⟩ _ _ (fun s₁ ρ₁ σ₁ t0 x₁ R₁ h₁=>?_) (fun fl s' ρ' ot σ' hne x' hf R' hk'=>?_) fun e s' ρ' C σ' _ _ _ hk'=>hk'.elim
            · refine wpAny_execs_cons (sForP_ok V rfl (ss_ok SS) W h₁ t0 a' R₁ (fun fl s₂ ρ₂ ot σ₂ x₂ hf R₂ hk₂=>?_) fun e s' ρ' C σ' _ _ _ hk'=>hk'.elim)
              cases ot with
              | next=>
                obtain rfl:=hf
                exact ss_ok SS base W _ _ σ₂ hk₂ _ s₂ ρ₂ F a' R₂ _ _ (fun fl s₃ ρ₃ ot σ₃ x₃ hf R₃ hk₃=>fin fl s₃ ρ₃ ot σ₃ ((x₁.trans x₂).trans x₃) hf R₃ hk₃) fun e s' ρ' C σ' _ _ _ hk'=>hk'.elim
              | brk=>exact hk₂.elim
              | cont=>exact hk₂.elim
              | ret pv=>obtain ⟨v,rfl,hvv⟩:=hf;exact fin _ s₂ ρ₂ (.ret pv) σ₂ (x₁.trans x₂) ⟨v,rfl,hvv⟩ R₂ hk₂
              | exc C=>exact hf.elim
            · cases ot with
              | next=>exact absurd rfl hne
              | brk=>exact hk'.elim
              | cont=>exact hk'.elim
              | ret pv=>exact fin fl s' ρ' (.ret pv) σ' x' hf R' hk'
              | exc C=>exact hk'.elim
        · exact h.elim
      · exact h.elim
end
end Mine

open PySem PySem.W PyProof.Rows PySem.Calls
set_option maxRecDepth 100000
set_option Elab.async false
set_option backward.match.sparseCases false
namespace Mine
noncomputable def fnOfStmt:Stmt→Option (Str × Fn)
  | .FunctionDef name args body _ _ _ scope _ _ _=>some (name,⟨args.args.map (·.arg),scope,body⟩)
  | _=>none
noncomputable def defIn (l:List Stmt) (m:Str):Option Fn:=(l.filterMap fnOfStmt).lookup m
noncomputable def clsBody (p:Program) (c:Str):List Stmt:=(p.main.body.findSome? fun st=>match st with
  | .ClassDef name _ _ body _ _ _ _ _ _ _=>bif name==c then some body else none
  | _=>none).getD []
noncomputable def fnP (p:Program) (c m:Str):Option Fn:=match c=="" with
  | true=>defIn p.main.body m
  | false=>defIn (clsBody p c) m
noncomputable def fnAddrsA:List (Addr × Str × Str):=[(35,"BaseStemmer","__init__"),(42,"BaseStemmer","set_current"),(49,"BaseStemmer","get_current"),(63,"BaseStemmer","in_grouping"),(70,"BaseStemmer","go_in_grouping"),
  (91,"BaseStemmer","out_grouping"),(98,"BaseStemmer","go_out_grouping"),(126,"BaseStemmer","eq_s_b"),(133,"BaseStemmer","find_among"),(140,"BaseStemmer","find_among_b"),(147,"BaseStemmer","replace_s"),
  (154,"BaseStemmer","slice_from"),(161,"BaseStemmer","slice_del"),(189,"BaseStemmer","stemWord"),
  (237,"SpanishStemmer","r_mark_regions"),(244,"SpanishStemmer","r_postlude"),(251,"SpanishStemmer","r_RV"),(258,"SpanishStemmer","r_R2"),(265,"SpanishStemmer","r_attached_pronoun"),(272,"SpanishStemmer","r_standard_suffix"),
  (279,"SpanishStemmer","r_y_verb_suffix"),(286,"SpanishStemmer","r_verb_suffix"),(293,"SpanishStemmer","r_residual_suffix"),(300,"SpanishStemmer","_stem")]
noncomputable def fnAddrsB:List (Addr × Str × Str):=[(973,"","_law_vowels"),(980,"","_law_letters"),(987,"","_law_parts"),(996,"","_law_plain"),(1003,"","_law_nouns"),(1013,"","_law_ends"),(1020,"","_law_word"),(1027,"","_law_end"),(1034,"","_law_cut"),
  (1041,"","_law_less"),(1048,"","_law_behind"),(1055,"","_law_first"),(1062,"","_law_pronoun"),(1069,"","_law_noun"),(1076,"","_law_verb"),(1083,"","_law_stem")]
noncomputable def fnAddrs:List (Addr × Str × Str):=fnAddrsA++fnAddrsB
noncomputable def cfnAddrs:List (Addr × Str × Str):=[(194,"BaseStemmer","stemWords"),(1088,"","law")]
noncomputable def fns1 (a:Addr):Option Fn:=match fnAddrs.lookup a with
  | some (c,m)=>fnP pw c m
  | none=>none
noncomputable def cfn1 (a:Addr):Option Fn:=match cfnAddrs.lookup a with
  | some (c,m)=>fnP pw c m
  | none=>none
noncomputable def meth1 (m:Str):Option Addr:=((fnAddrs++cfnAddrs).find? fun q=>!(q.2.1==("":Str))&&q.2.2==m).map (·.1)
noncomputable def cS:PySem.Expr→List Nat
  | .Constant (.str s) _ _=>s.cps.toList
  | _=>[]
noncomputable def strsP (p:Program) (n:Str):List (List Nat):=(p.main.body.findSome? fun st=>match st with
  | .Assign [.Name x _] (.List es _) _=>bif x==n then some (es.map cS) else none
  | _=>none).getD []
noncomputable def fieldNames:List Str:=["current","cursor","limit","limit_backward","bra","ket","I_pV","I_p1","I_p2"]
noncomputable def fld1 (x:Str):Bool:=fieldNames.contains x
noncomputable def amOf:Ex→Option Am
  | .Call _ [.Constant (.str s) _ _,i,r] _ _=>(match cInt i,cInt r with | some a,some b=>some ⟨s.cps.toList,a,b⟩ | _,_=>none)
  | _=>none
where cInt:Ex→Option Int
  | .Constant (.int i) _ _=>some i
  | .UnaryOp .USub (.Constant (.int i) _ _) _=>some (-i)
  | _=>none
noncomputable def tabP (p:Program) (n:Str):List Am:=((clsBody p "SpanishStemmer").findSome? fun st=>match st with
  | .Assign [.Name x _] (.List es _) _=>bif x==n then some (es.filterMap amOf) else none
  | _=>none).getD []
noncomputable def tabNames:List Str:=["a_0","a_1","a_2","a_3","a_4","a_5","a_6","a_7","a_8","a_9"]
noncomputable def cat1 (C:Addr) (x:Str):Option PV:=match Nat.beq C 925 with
  | true=>(bif x=="g_v" then some .vset else bif tabNames.contains x then some (.tab (tabP pw x)) else none)
  | false=>none
noncomputable def gl1 (x:Str):Option PV:=[(("SpanishStemmer":Str),PV.cls 925),("lab0",.cls 937),("lab1",.cls 950),("lab2",.cls 963),("len",.blt .len),("ord",.blt .ord),("min",.blt .min),("range",.typ .range),("list",.typ .list),
  ("_law_vowels",.fn 973),("_law_letters",.fn 980),("_law_parts",.fn 987),("_law_plain",.fn 996),("_law_nouns",.fn 1003),("_law_ends",.fn 1013),("_law_word",.fn 1020),("_law_end",.fn 1027),("_law_cut",.fn 1034),
  ("_law_less",.fn 1041),("_law_behind",.fn 1048),("_law_first",.fn 1055),("_law_pronoun",.fn 1062),("_law_noun",.fn 1069),("_law_verb",.fn 1076),("_law_stem",.fn 1083),
  ("_law_pronouns",.strs (strsP pw "_law_pronouns")),("_law_before",.strs (strsP pw "_law_before")),("_law_ys",.strs (strsP pw "_law_ys")),("_law_verbs",.strs (strsP pw "_law_verbs")),("_law_last",.strs (strsP pw "_law_last"))].lookup x
noncomputable def exc1 (C:Addr):Bool:=Nat.beq C 937||Nat.beq C 950||Nat.beq C 963
noncomputable def T1:Tabs:={ gl:=gl1,cat:=cat1,fld:=fld1,meth:=meth1,fns:=fns1,exc:=exc1,cfn:=cfn1,ini:=true }
structure R9 where
  w:List Nat
  c:Int
  l:Int
  lb:Int
  bra:Int
  ket:Int
  pV:Int
  p1:Int
  p2:Int
noncomputable def fsR (r:R9):Fs:=[("current",.str r.w),("cursor",.int r.c),("limit",.int r.l),("limit_backward",.int r.lb),("bra",.int r.bra),("ket",.int r.ket),("I_pV",.int r.pV),("I_p1",.int r.p1),("I_p2",.int r.p2)]
noncomputable def intO (v:PV):Option Int:=match v with | .int i=>some i | _=>none
noncomputable def strO (v:PV):Option (List Nat):=match v with | .str x=>some x | _=>none
theorem intO_is {v:PV} {i:Int} (h:intO v=some i):v=.int i:=by
  cases v<;>first | exact congrArg PV.int (Option.some.inj h) | exact (Option.some_ne_none _ h.symm).elim
theorem strO_is {v:PV} {x:List Nat} (h:strO v=some x):v=.str x:=by
  cases v<;>first | exact congrArg PV.str (Option.some.inj h) | exact (Option.some_ne_none _ h.symm).elim
theorem bindE {α β:Type} {x:Option α} {f:α→Option β} {b:β} (h:x.bind f=some b):∃ a,x=some a∧f a=some b:=Option.bind_eq_some_iff.mp h
theorem bifE {α:Type} {b:Bool} {x:Option α} {a:α} (h:(bif b then x else none)=some a):b=true∧x=some a:=by
  cases b
  · exact (Option.some_ne_none _ h.symm).elim
  · exact ⟨rfl,h⟩
noncomputable def decS (n:Str) (fs:Fs):Option (List Nat × Fs):=match fs with
  | []=>none
  | p::r=>bif p.1==n then (strO p.2).bind fun w=>some (w,r) else none
noncomputable def readI (ns:List Str) (fs:Fs):Option (List Int):=match ns with
  | []=>(match fs with | []=>some [] | _::_=>none)
  | n::ns=>(match fs with | []=>none | p::r=>bif p.1==n then (intO p.2).bind fun i=>(readI ns r).bind fun is=>some (i::is) else none)
noncomputable def zipG (ns:List Str) (is:List Int):Fs:=match ns with
  | []=>[]
  | n::ns=>(n,.int (is.headD 0))::zipG ns is.tail
theorem decS_is {n:Str} {fs r:Fs} {w:List Nat} (h:decS n fs=some (w,r)):fs=(n,.str w)::r:=by
  cases fs with
  | nil=>exact (Option.some_ne_none _ h.symm).elim
  | cons p r'=>
    obtain ⟨q,h⟩:=bifE h
    obtain ⟨x,e,h⟩:=bindE h
    obtain ⟨e1,e2⟩:=Prod.mk.inj (Option.some.inj h)
    rw [← e2,← e1,← strO_is e,← beq_iff_eq.mp q]
theorem readI_is {ns:List Str}:∀ {fs:Fs} {is:List Int},readI ns fs=some is→fs=zipG ns is:=by
  induction ns with
  | nil=>
    intro fs is h
    cases fs with
    | nil=>rfl
    | cons=>exact (Option.some_ne_none _ h.symm).elim
  | cons n ns ih=>
    intro fs is h
    cases fs with
    | nil=>exact (Option.some_ne_none _ h.symm).elim
    | cons p r=>
      obtain ⟨q,h⟩:=bifE h
      obtain ⟨i,e,h⟩:=bindE h
      obtain ⟨js,e2,h⟩:=bindE h
      rw [← Option.some.inj h,ih e2]
      show (p.1,p.2)::_=_
      rw [intO_is e,beq_iff_eq.mp q]
      rfl
noncomputable def dec (S:Option Fs):Option R9:=S.bind fun fs=>(decS "current" fs).bind fun a=>(readI ["cursor","limit","limit_backward","bra","ket","I_pV","I_p1","I_p2"] a.2).bind fun is=>
  some ⟨a.1,is.headD 0,is.tail.headD 0,is.tail.tail.headD 0,is.tail.tail.tail.headD 0,is.tail.tail.tail.tail.headD 0,is.tail.tail.tail.tail.tail.headD 0,is.tail.tail.tail.tail.tail.tail.headD 0,is.tail.tail.tail.tail.tail.tail.tail.headD 0⟩
theorem dec_is {S:Option Fs} {r:R9} (h:dec S=some r):S=some (fsR r):=by
  obtain ⟨fs,e0,h⟩:=bindE h
  obtain ⟨a,e1,h⟩:=bindE h
  obtain ⟨is,e2,h⟩:=bindE h
  rw [e0,decS_is (n:="current") (w:=a.1) (r:=a.2) e1,readI_is e2,← Option.some.inj h]
  rfl
noncomputable def gOk (g:Nat):Bool:=Nat.beq g 1||Nat.beq g 2
theorem gOk_is {g:Nat} (h:gOk g=true):g=1∨g=2:=by
  unfold gOk at h
  rcases Bool.or_eq_true_iff.mp h with h | h
  · exact .inl (Nat.eq_of_beq_eq_true h)
  · exact .inr (Nat.eq_of_beq_eq_true h)
noncomputable abbrev SPK:=Addr→List PV→R9→(PV→R9→Prop)→Prop
noncomputable def headG (args:List PV) (g:Nat) (k:List PV→Prop):Prop:=match args with
  | []=>False
  | p::rest=>match p with
    | .self g'=>bif Nat.beq g' g&&gOk g then k rest else False
    | _=>False
theorem headG_is {args:List PV} {g:Nat} {k:List PV→Prop} (h:headG args g k):∃ rest,args=.self g::rest∧(g=1∨g=2)∧k rest:=by
  cases args with
  | nil=>exact h.elim
  | cons p rest=>
    cases p<;>try exact h.elim
    rename_i g'
    change (bif Nat.beq g' g&&gOk g then k rest else False) at h
    cases q:Nat.beq g' g&&gOk g
    · rw [q] at h;exact h.elim
    · rw [q] at h
      obtain ⟨q1,q2⟩:=Bool.and_eq_true_iff.mp q
      exact ⟨rest,congrArg (fun g=>PV.self g::rest) (Nat.eq_of_beq_eq_true q1),gOk_is q2,h⟩
noncomputable def onR (o:Option R9) (k:R9→Prop):Prop:=match o with | some r=>k r | none=>False
theorem onR_is {o:Option R9} {k:R9→Prop} (h:onR o k):∃ r,o=some r∧k r:=by
  cases o
  · exact h.elim
  · exact ⟨_,rfl,h⟩
noncomputable def spC (sp:SPK):CT:=fun f args Q S g H=>headG args g fun rest=>onR (dec S) fun r=>sp f rest r (fun v r'=>Q v (some (fsR r')) g H)
theorem spC_is {sp:SPK} {f:Addr} {args:List PV} {Q:PV→Option Fs→Nat→List AO→Prop} {S:Option Fs} {g:Nat} {H:List AO} (h:spC sp f args Q S g H) :
    ∃ rest r,args=.self g::rest∧(g=1∨g=2)∧S=some (fsR r)∧sp f rest r (fun v r'=>Q v (some (fsR r')) g H):=by
  obtain ⟨rest,e,hg,h⟩:=headG_is h
  obtain ⟨r,hd,h⟩:=onR_is h
  exact ⟨rest,r,e,hg,dec_is hd,h⟩
end Mine

set_option Elab.async false
set_option backward.match.sparseCases false
namespace Mine
noncomputable def lcp:List Nat→List Nat→Nat
  | x::xs,y::ys=>if x=y then lcp xs ys+1 else 0
  | _,_=>0
noncomputable def cmpL:List Nat→List Nat→Int
  | _,[]=>0
  | [],_::_=>-1
  | x::xs,y::ys=>if x=y then cmpL xs ys else (x:Int) - y
noncomputable def lexLt:List Nat→List Nat→Bool
  | _,[]=>false
  | [],_::_=>true
  | x::xs,y::ys=>if x=y then lexLt xs ys else decide (x < y)
theorem cmpL_neg:∀ t k:List Nat,(cmpL t k < 0)↔lexLt t k=true
  | t,[]=>by cases t<;>simp [cmpL,lexLt]
  | [],y::ys=>by simp [cmpL,lexLt]
  | x::xs,y::ys=>by
    unfold cmpL lexLt
    by_cases h:x=y
    · rw [if_pos h,if_pos h];exact cmpL_neg xs ys
    · rw [if_neg h,if_neg h,decide_eq_true_iff];(exact ar_35sz)
theorem lcp_le:∀ t k:List Nat,lcp t k≤t.length∧lcp t k≤k.length
  | [],k=>by simp [lcp]
  | x::xs,[]=>by simp [lcp]
  | x::xs,y::ys=>by
    unfold lcp
    by_cases h:x=y
    · rw [if_pos h];have:=lcp_le xs ys;simp;(exact ar_aig4 this.1 this.2)
    · rw [if_neg h];simp
theorem scan_at:∀ (t k:List Nat) (cm:Nat),cm≤lcp t k→cm < k.length →
    (t.length=cm→cmpL t k=-1∧lcp t k=cm) ∧
    ∀ a b,t[cm]?=some a→k[cm]?=some b→(a≠b→cmpL t k=(a:Int) - b∧lcp t k=cm)∧(a=b→cm+1≤lcp t k)
  | t,[],cm,_,h=>by simp at h
  | [],y::ys,cm,h1,h2=>by
    have:cm=0:=by simp [lcp] at h1;exact h1
    subst this
    exact ⟨fun _=>⟨by simp [cmpL],by simp [lcp]⟩,fun a b ha _=>by simp at ha⟩
  | x::xs,y::ys,0,h1,h2=>by
    refine ⟨fun h=>by simp at h,fun a b ha hb=>?_⟩
    simp at ha hb
    subst ha hb
    refine ⟨fun h=>?_,fun h=>?_⟩
    · unfold cmpL lcp;rw [if_neg h,if_neg h];exact ⟨rfl,rfl⟩
    · unfold lcp;rw [if_pos h];(exact ar_05d3)
  | x::xs,y::ys,cm+1,h1,h2=>by
    unfold lcp at h1
    by_cases h:x=y
    · rw [if_pos h] at h1
      obtain ⟨A,B⟩:=scan_at xs ys cm (by (exact ar_peyo h1)) (by simpa using h2)
      unfold cmpL lcp
      rw [if_pos h,if_pos h]
      refine ⟨fun q=>?_,fun a b ha hb=>?_⟩
      · obtain ⟨e1,e2⟩:=A (by simpa using q);exact ⟨e1,by (exact ar_mhsz e2)⟩
      · obtain ⟨B1,B2⟩:=B a b (by simpa using ha) (by simpa using hb)
        exact ⟨fun q=>let ⟨e1,e2⟩:=B1 q;⟨e1,by (exact ar_mhsz e2)⟩,fun q=>by have:=B2 q;(exact ar_7idg this)⟩
    · rw [if_neg h] at h1;(exact ar_p4e7 h1)
theorem scan_end:∀ (t k:List Nat),k.length≤lcp t k→cmpL t k=0∧lcp t k=k.length
  | t,[],_=>by cases t<;>simp [cmpL,lcp]
  | [],y::ys,h=>by simp [lcp] at h
  | x::xs,y::ys,h=>by
    unfold lcp at h
    by_cases e:x=y
    · rw [if_pos e] at h
      obtain ⟨a,b⟩:=scan_end xs ys (by simpa using h)
      unfold cmpL lcp
      rw [if_pos e,if_pos e]
      exact ⟨a,by simp [b]⟩
    · rw [if_neg e] at h;simp at h
theorem lcp_squeeze:∀ (t a b c:List Nat),lexLt b a=false→lexLt c b=false→min (lcp t a) (lcp t c)≤lcp t b
  | [],a,b,c,_,_=>by simp [lcp]
  | x::xs,[],b,c,_,_=>by simp [lcp]
  | x::xs,a::as,b,[],_,_=>by simp [lcp]
  | x::xs,a::as,[],c::cs,h1,_=>by simp [lexLt] at h1
  | x::xs,a::as,b::bs,c::cs,h1,h2=>by
    unfold lcp
    unfold lexLt at h1 h2
    by_cases xa:x=a
    · by_cases xc:x=c
      · subst xa xc
        by_cases ba:b=x
        · subst ba
          rw [if_pos rfl] at h1 h2
          simp only [if_true]
          have:=lcp_squeeze xs as bs cs h1 h2
          (exact ar_zbo7 this)
        · rw [if_neg ba] at h1
          rw [if_neg (Ne.symm ba)] at h2
          have q1:=of_decide_eq_false h1
          have q2:=of_decide_eq_false h2
          (exact ar_qz53 ba q1 q2)
      · rw [if_neg xc];simp
    · rw [if_neg xa];simp
theorem lex_irr:∀ a:List Nat,lexLt a a=false
  | []=>rfl
  | x::xs=>by unfold lexLt;rw [if_pos rfl];exact lex_irr xs
theorem lex_asymm:∀ a b:List Nat,lexLt a b=true→lexLt b a=false
  | _,[],h=>by simp [lexLt] at h
  | [],y::ys,_=>by simp [lexLt]
  | x::xs,y::ys,h=>by
    unfold lexLt at h ⊢
    by_cases e:x=y
    · rw [if_pos e] at h;rw [if_pos e.symm];exact lex_asymm xs ys h
    · rw [if_neg e] at h;rw [if_neg (Ne.symm e)]
      have:=of_decide_eq_true h
      exact decide_eq_false (by (exact ar_238p this))
theorem prefix_mid:∀ (t a b:List Nat),lexLt b a=false→lexLt t b=false→a <+: t→a <+: b
  | t,[],b,_,_,_=>List.nil_prefix
  | [],a::as,b,_,_,h=>by simp at h
  | x::xs,a::as,[],h,_,_=>by simp [lexLt] at h
  | x::xs,a::as,b::bs,h1,h2,h=>by
    rw [List.cons_prefix_cons] at h
    obtain ⟨rfl,h⟩:=h
    unfold lexLt at h1 h2
    by_cases e:a=b
    · subst e
      rw [if_pos rfl] at h1 h2
      rw [List.cons_prefix_cons]
      exact ⟨rfl,prefix_mid xs as bs h1 h2 h⟩
    · rw [if_neg (Ne.symm e)] at h1
      rw [if_neg e] at h2
      have q1:=of_decide_eq_false h1
      have q2:=of_decide_eq_false h2
      (exact (ar_1a36 e q1 q2).elim)
theorem prefix_le:∀ (t a:List Nat),a <+: t→lexLt t a=false
  | t,[],_=>by cases t<;>rfl
  | [],a::as,h=>by simp at h
  | x::xs,a::as,h=>by
    rw [List.cons_prefix_cons] at h
    obtain ⟨rfl,h⟩:=h
    unfold lexLt
    rw [if_pos rfl]
    exact prefix_le xs as h
theorem prefix_lcp:∀ (t k p:List Nat),p <+: k→(p.length≤lcp t k↔p <+: t)
  | t,k,[],_=>by simp
  | t,[],p::ps,h=>by simp at h
  | [],y::ys,p::ps,h=>by simp [lcp]
  | x::xs,y::ys,p::ps,h=>by
    rw [List.cons_prefix_cons] at h
    obtain ⟨rfl,h⟩:=h
    unfold lcp
    rw [List.cons_prefix_cons]
    by_cases e:x=p
    · subst e
      rw [if_pos rfl]
      have:=prefix_lcp xs ys ps h
      simp [this]
    · rw [if_neg e]
      simp [Ne.symm e]
noncomputable def best (kf:Am→List Nat) (t:List Nat):List Am→Option Am
  | []=>none
  | e::r=>match best kf t r with
    | some b=>bif (kf e).isPrefixOf t&&decide ((kf b).length < (kf e).length) then some e else some b
    | none=>bif (kf e).isPrefixOf t then some e else none
noncomputable def IsBest (kf:Am→List Nat) (t:List Nat) (rs:List Am):Option Am→Prop
  | none=>∀ e∈rs,¬ kf e <+: t
  | some b=>b∈rs∧kf b <+: t∧∀ e∈rs,kf e <+: t→(kf e).length≤(kf b).length
theorem best_is (kf:Am→List Nat) (t:List Nat):∀ rs,IsBest kf t rs (best kf t rs)
  | []=>by intro e he;cases he
  | e::r=>by
    have ih:=best_is kf t r
    unfold best
    cases hb:best kf t r with
    | none=>
      rw [hb] at ih
      cases q:(kf e).isPrefixOf t with
      | true=>
        refine ⟨.head _,List.isPrefixOf_iff_prefix.mp q,fun e' he' hp=>?_⟩
        rcases List.mem_cons.mp he' with rfl | he'
        · exact Nat.le_refl _
        · exact absurd hp (ih e' he')
      | false=>
        intro e' he' hp
        rcases List.mem_cons.mp he' with rfl | he'
        · rw [List.isPrefixOf_iff_prefix.mpr hp] at q;cases q
        · exact ih e' he' hp
    | some b=>
      rw [hb] at ih
      obtain ⟨h1,h2,h3⟩:=ih
      show IsBest kf t (e::r) (bif (kf e).isPrefixOf t&&decide ((kf b).length < (kf e).length) then some e else some b)
      cases q:((kf e).isPrefixOf t&&decide ((kf b).length < (kf e).length)) with
      | true=>
        rw [Bool.and_eq_true,decide_eq_true_iff] at q
        refine ⟨.head _,List.isPrefixOf_iff_prefix.mp q.1,fun e' he' hp=>?_⟩
        rcases List.mem_cons.mp he' with rfl | he'
        · exact Nat.le_refl _
        · have:=h3 e' he' hp;(exact ar_zhzg q.2 this)
      | false=>
        refine ⟨.tail _ h1,h2,fun e' he' hp=>?_⟩
        rcases List.mem_cons.mp he' with rfl | he'
        · rw [List.isPrefixOf_iff_prefix.mpr hp,Bool.true_and] at q
          have:=of_decide_eq_false q
          (exact ar_n3le this)
        · exact h3 e' he' hp
noncomputable def pairB (ks:List (List Nat)):Bool:=match ks with
  | []=>true
  | a::r=>r.all (lexLt a)&&pairB r
theorem pairB_get:∀ {ks:List (List Nat)},pairB ks=true→∀ {i j:Nat} {a b},i < j→ks[i]?=some a→ks[j]?=some b→lexLt a b=true
  | [],_,i,j,a,b,_,ha,_=>by simp at ha
  | k::r,h,0,j+1,a,b,_,ha,hb=>by
    unfold pairB at h
    rw [Bool.and_eq_true] at h
    simp at ha
    subst ha
    exact List.all_eq_true.mp h.1 b (List.mem_of_getElem? (by simpa using hb))
  | k::r,h,i+1,j+1,a,b,hij,ha,hb=>by
    unfold pairB at h
    rw [Bool.and_eq_true] at h
    exact pairB_get (i:=i) (j:=j) h.2 (by (exact ar_t115 hij)) (by simpa using ha) (by simpa using hb)
noncomputable def linkB (kf:Am→List Nat) (rs:List Am) (i:Nat) (e:Am):Bool:=match e.sub with
  | .ofNat s=>(match rs[s]? with
    | some b=>decide (s < i)&&(kf b).isPrefixOf (kf e)&&decide ((kf b).length < (kf e).length)&&rs.all fun m=>!((kf m).isPrefixOf (kf e)&&decide ((kf m).length < (kf e).length))||(kf m).isPrefixOf (kf b)
    | none=>false)
  | .negSucc _=>rs.all fun m=>!((kf m).isPrefixOf (kf e)&&decide ((kf m).length < (kf e).length))
noncomputable def linksB (kf:Am→List Nat) (rs:List Am):Nat→List Am→Bool
  | _,[]=>true
  | i,e::r=>linkB kf rs i e&&linksB kf rs (i+1) r
theorem linksB_get {kf:Am→List Nat} {rs:List Am}:∀ {l:List Am} {i j:Nat} {e:Am},linksB kf rs i l=true→l[j]?=some e→linkB kf rs (i+j) e=true
  | [],i,j,e,_,h=>by simp at h
  | a::r,i,0,e,h,he=>by
    unfold linksB at h;rw [Bool.and_eq_true] at h
    simp at he;subst he;exact h.1
  | a::r,i,j+1,e,h,he=>by
    unfold linksB at h;rw [Bool.and_eq_true] at h
    have:=linksB_get (j:=j) h.2 (by simpa using he)
    rwa [show i+1+j=i+(j+1) by (exact ar_xh1x)] at this
noncomputable def goodTab (kf:Am→List Nat) (rs:List Am):Bool:=decide (0 < rs.length)&&decide (rs.length≤1000)&&pairB (rs.map kf)&&linksB kf rs 0 rs&&rs.all fun e=>decide (e.s.length≤100)
end Mine

open PySem PySem.W PyProof.Rows PySem.Calls
set_option maxRecDepth 100000
set_option Elab.async false
set_option backward.match.sparseCases false
namespace Mine
noncomputable abbrev QT:=PV→Option Fs→Nat→List AO→Prop
noncomputable abbrev KT:=PV→R9→Prop
noncomputable def inR (r:R9):Prop:=0≤r.c∧r.c≤r.l∧r.l=r.w.length∧r.l≤3000
noncomputable def isAt (b:Bool) (w:List Nat) (c:Int):Bool:=match w[c.toNat]? with
  | some a=>isV a==b
  | none=>false
noncomputable def S63 (b:Bool) (r:R9) (k:KT):Prop:=inR r∧k (.bool (isAt b r.w r.c)) { r with c:=bif isAt b r.w r.c then r.c+1 else r.c }
noncomputable def S126 (x:List Nat) (r:R9) (k:KT):Prop:=(r.w.length≤3000∧x.length≤100)∧k (.bool (x.isSuffixOf (slc r.w (some r.lb) (some r.c)))) { r with c:=bif x.isSuffixOf (slc r.w (some r.lb) (some r.c)) then r.c - x.length else r.c }
noncomputable def S147 (a b:Int) (x:List Nat) (r:R9) (k:KT):Prop:=(0≤a∧a≤b∧b≤r.l∧r.l=r.w.length∧r.l≤3000∧x.length≤100) ∧
  k (.int (x.length - (b - a))) { r with w:=r.w.take a.toNat++x++r.w.drop b.toNat,c:=bif decide (b≤r.c) then r.c+(x.length - (b - a)) else bif decide (a < r.c) then a else r.c,l:=r.l+(x.length - (b - a)) }
noncomputable def S251 (r:R9) (k:KT):Prop:=k (.bool (decide (r.pV≤r.c))) r
noncomputable def S258 (r:R9) (k:KT):Prop:=k (.bool (decide (r.p2≤r.c))) r
section
variable {sp:SPK} {r:R9} {H:List AO} {Q:QT} {g:Nat}
noncomputable abbrev back (Q:QT) (g:Nat) (H:List AO):KT:=fun v r'=>Q v (some (fsR r')) g H
theorem e63 (hg:g=1∨g=2):BodyOK T1 (spC sp) 63 [.self g,.vset] Q (some (fsR r)) g H=((2:Nat)=2∧(match decide (r.l≤r.c) with
    | true=>back Q g H (.bool false) r
    | false=>0≤r.c∧r.c < 4000∧∃ a,r.w[r.c.toNat]?=some a∧∃ a',[a]=[a']∧(match !isV a' with
      | true=>back Q g H (.bool false) r
      | false=>back Q g H (.bool true) { r with c:=r.c+1 }))):=by rcases hg with rfl | rfl<;>kernel_rfl
theorem e91 (hg:g=1∨g=2):BodyOK T1 (spC sp) 91 [.self g,.vset] Q (some (fsR r)) g H=((2:Nat)=2∧(match decide (r.l≤r.c) with
    | true=>back Q g H (.bool false) r
    | false=>0≤r.c∧r.c < 4000∧∃ a,r.w[r.c.toNat]?=some a∧∃ a',[a]=[a']∧(match !isV a' with
      | true=>back Q g H (.bool true) { r with c:=r.c+1 }
      | false=>back Q g H (.bool false) r))):=by rcases hg with rfl | rfl<;>kernel_rfl
theorem at_in (h:inR r) (hc:¬ r.l≤r.c):∃ a,r.w[r.c.toNat]?=some a:=by
  obtain ⟨h1,h2,h3,h4⟩:=h
  exact ⟨_,List.getElem?_eq_getElem (show r.c.toNat < r.w.length by (exact ar_7a1s hc h1 h3))⟩
theorem at_out (h:inR r) (hc:r.l≤r.c):r.w[r.c.toNat]?=none:=by
  obtain ⟨h1,h2,h3,h4⟩:=h
  exact List.getElem?_eq_none (by (exact ar_313w hc h3))
theorem b63 (hg:g=1∨g=2) (h:S63 true r (back Q g H)):BodyOK T1 (spC sp) 63 [.self g,.vset] Q (some (fsR r)) g H:=by
  rw [e63 hg]
  obtain ⟨hr,h⟩:=h
  refine ⟨rfl,?_⟩
  by_cases hc:r.l≤r.c
  · rw [decide_eq_true hc]
    have:isAt true r.w r.c=false:=by unfold isAt;rw [at_out hr hc]
    rw [this] at h;exact h
  · rw [decide_eq_false hc]
    obtain ⟨a,ha⟩:=at_in hr hc
    have hat:isAt true r.w r.c=isV a:=by unfold isAt;rw [ha];simp
    rw [hat] at h
    refine ⟨hr.1,by have:=hr.2.2;(exact ar_41w1 hc this.2),a,ha,a,rfl,?_⟩
    cases q:isV a<;>(rw [q] at h;exact h)
theorem b91 (hg:g=1∨g=2) (h:S63 false r (back Q g H)):BodyOK T1 (spC sp) 91 [.self g,.vset] Q (some (fsR r)) g H:=by
  rw [e91 hg]
  obtain ⟨hr,h⟩:=h
  refine ⟨rfl,?_⟩
  by_cases hc:r.l≤r.c
  · rw [decide_eq_true hc]
    have:isAt false r.w r.c=false:=by unfold isAt;rw [at_out hr hc]
    rw [this] at h;exact h
  · rw [decide_eq_false hc]
    obtain ⟨a,ha⟩:=at_in hr hc
    have hat:isAt false r.w r.c=!isV a:=by unfold isAt;rw [ha];show (isV a==false)=_;cases isV a<;>rfl
    rw [hat] at h
    refine ⟨hr.1,by have:=hr.2.2;(exact ar_41w1 hc this.2),a,ha,a,rfl,?_⟩
    cases q:isV a<;>(rw [q] at h;exact h)
theorem e126 {x:List Nat} (hg:g=1∨g=2):BodyOK T1 (spC sp) 126 [.self g,.str x] Q (some (fsR r)) g H=((2:Nat)=2∧r.w.length≤4000∧(match x.isSuffixOf (slc r.w (some r.lb) (some r.c)) with
    | true=>x.length≤4000∧back Q g H (.bool true) { r with c:=r.c - x.length }
    | false=>back Q g H (.bool false) r)):=by rcases hg with rfl | rfl<;>kernel_rfl
theorem b126 {x:List Nat} (hg:g=1∨g=2) (h:S126 x r (back Q g H)):BodyOK T1 (spC sp) 126 [.self g,.str x] Q (some (fsR r)) g H:=by
  rw [e126 hg]
  obtain ⟨⟨h1,h2⟩,h⟩:=h
  refine ⟨rfl,by (exact ar_1mx0 h1),?_⟩
  cases q:x.isSuffixOf (slc r.w (some r.lb) (some r.c))<;>rw [q] at h
  · exact h
  · exact ⟨by (exact ar_qpkv h2),h⟩
theorem slc_take {w:List Nat} {a:Int} (h0:0≤a):slc w (some 0) (some a)=w.take a.toNat:=by
  show (w.take (clip w.length a)).drop (clip w.length 0)=_
  unfold clip
  rw [if_neg (by (exact ar_h9j9)),if_neg (by (exact ar_kilx h0))]
  simp only [Int.toNat_zero,Nat.zero_min,List.drop_zero]
  rcases Nat.le_total a.toNat w.length with h | h
  · rw [Nat.min_eq_left h]
  · rw [Nat.min_eq_right h,List.take_of_length_le (Nat.le_refl _),List.take_of_length_le h]
theorem slc_drop {w:List Nat} {b:Int} (h0:0≤b):slc w (some b) none=w.drop b.toNat:=by
  show (w.take w.length).drop (clip w.length b)=_
  unfold clip
  rw [if_neg (by (exact ar_kilx h0))]
  rw [List.take_of_length_le (Nat.le_refl _)]
  rcases Nat.le_total b.toNat w.length with h | h
  · rw [Nat.min_eq_left h]
  · rw [Nat.min_eq_right h,List.drop_eq_nil_of_le (Nat.le_refl _),List.drop_eq_nil_of_le h]
theorem e147 {x:List Nat} {a b:Int} (hg:g=1∨g=2):BodyOK T1 (spC sp) 147 [.self g,.int a,.int b,.str x] Q (some (fsR r)) g H=((4:Nat)=4∧x.length≤4000∧r.w.length≤4000∧(slc r.w (some 0) (some a)).length+x.length≤4000∧r.w.length≤4000 ∧
    (slc r.w (some 0) (some a)++x).length+(slc r.w (some b) none).length≤4000∧(match decide (b≤r.c) with
      | true=>back Q g H (.int (x.length - (b - a))) { r with w:=slc r.w (some 0) (some a)++x++slc r.w (some b) none,c:=r.c+(x.length - (b - a)),l:=r.l+(x.length - (b - a)) }
      | false=>(match decide (a < r.c) with
        | true=>back Q g H (.int (x.length - (b - a))) { r with w:=slc r.w (some 0) (some a)++x++slc r.w (some b) none,c:=a,l:=r.l+(x.length - (b - a)) }
        | false=>back Q g H (.int (x.length - (b - a))) { r with w:=slc r.w (some 0) (some a)++x++slc r.w (some b) none,l:=r.l+(x.length - (b - a)) }))):=by rcases hg with rfl | rfl<;>kernel_rfl
theorem b147 {x:List Nat} {a b:Int} (hg:g=1∨g=2) (h:S147 a b x r (back Q g H)):BodyOK T1 (spC sp) 147 [.self g,.int a,.int b,.str x] Q (some (fsR r)) g H:=by
  rw [e147 hg]
  obtain ⟨⟨h1,h2,h3,h4,h5,h6⟩,h⟩:=h
  rw [slc_take h1,slc_drop (by (exact ar_zu20 h1 h2))]
  refine ⟨rfl,by (exact ar_qpkv h6),by (exact ar_93kk h4 h5),by simp;(exact ar_ib5k h4 h5 h6),by (exact ar_93kk h4 h5),by simp;(exact ar_nh85 h2 h4 h5 h6),?_⟩
  cases q:decide (b≤r.c)<;>rw [q] at h
  · cases q2:decide (a < r.c)<;>rw [q2] at h<;>exact h
  · exact h
theorem b251 (hg:g=1∨g=2) (h:S251 r (back Q g H)):BodyOK T1 (spC sp) 251 [.self g] Q (some (fsR r)) g H:=by
  have e:BodyOK T1 (spC sp) 251 [.self g] Q (some (fsR r)) g H=((1:Nat)=1∧S251 r (back Q g H)):=by rcases hg with rfl | rfl<;>kernel_rfl
  rw [e];exact ⟨rfl,h⟩
theorem b258 (hg:g=1∨g=2) (h:S258 r (back Q g H)):BodyOK T1 (spC sp) 258 [.self g] Q (some (fsR r)) g H:=by
  have e:BodyOK T1 (spC sp) 258 [.self g] Q (some (fsR r)) g H=((1:Nat)=1∧S258 r (back Q g H)):=by rcases hg with rfl | rfl<;>kernel_rfl
  rw [e];exact ⟨rfl,h⟩
end
end Mine

open PySem PySem.W PyProof.Rows PySem.Calls
set_option maxRecDepth 100000
set_option Elab.async false
set_option backward.match.sparseCases false
namespace Mine
noncomputable def FnB (f:Addr):Fn:=(fns1 f).getD ⟨[],⟨.function,[],false,false,[]⟩,[]⟩
noncomputable def stm (f:Addr) (i:Nat):Stmt:=(FnB f).body.getD i (.Pass default)
noncomputable def whT:Stmt→Ex
  | .While t _ _ _=>t
  | _=>.Constant .none 0 default
noncomputable def whB:Stmt→List Stmt
  | .While _ b _ _=>b
  | .For _ _ b _ _=>b
  | _=>[]
noncomputable def afterK (x:Px) (rest:List Stmt) (k:Ot→St→Prop):Ot→St→Prop:=fun o σ₁=>match o with | .next=>pSs x rest k σ₁ | o=>k o σ₁
section
variable (sp:SPK) (H:List AO) (Q:QT) (g:Nat)
noncomputable abbrev xp (f:Addr) (m:Nat):Px:=px T1 (spC sp) (FnB f).scope m
noncomputable def Lp (f:Addr) (i:Nat) (n:Nat) (σ:St):Prop:=pWh (xp sp f 39) (whT (stm f i)) (whB (stm f i)) [] (afterK (xp sp f 40) ((FnB f).body.drop (i+1)) (bodyK Q)) n σ
end
section
variable {sp:SPK} {r:R9} {H:List AO} {Q:QT} {g:Nat}
noncomputable abbrev l2 (g:Nat):Fs:=[("self",.self g),("s",.vset)]
noncomputable def skipV (b:Bool) (w:List Nat) (c:Int):Int:=c+((w.drop c.toNat).takeWhile (fun a=>isV a==b)).length
noncomputable def S70 (b:Bool) (r:R9) (k:KT):Prop:=inR r∧k (.bool (decide (skipV b r.w r.c < r.l))) { r with c:=skipV b r.w r.c }
theorem e70 (hg:g=1∨g=2):BodyOK T1 (spC sp) 70 [.self g,.vset] Q (some (fsR r)) g H=((2:Nat)=2∧∃ n,Lp sp Q 70 0 n ⟨l2 g,some (fsR r),g,H⟩):=by rcases hg with rfl | rfl<;>kernel_rfl
theorem l70 (hg:g=1∨g=2) (n:Nat):Lp sp Q 70 0 (n+1) ⟨l2 g,some (fsR r),g,H⟩=(match decide (r.c < r.l) with
    | true=>0≤r.c∧r.c < 4000∧∃ a,r.w[r.c.toNat]?=some a∧∃ a',[a]=[a']∧(match !isV a' with
      | true=>back Q g H (.bool true) r
      | false=>Lp sp Q 70 0 n ⟨l2 g,some (fsR { r with c:=r.c+1 }),g,H⟩)
    | false=>back Q g H (.bool false) r):=by rcases hg with rfl | rfl<;>kernel_rfl
theorem e98 (hg:g=1∨g=2):BodyOK T1 (spC sp) 98 [.self g,.vset] Q (some (fsR r)) g H=((2:Nat)=2∧∃ n,Lp sp Q 98 0 n ⟨l2 g,some (fsR r),g,H⟩):=by rcases hg with rfl | rfl<;>kernel_rfl
theorem l98 (hg:g=1∨g=2) (n:Nat):Lp sp Q 98 0 (n+1) ⟨l2 g,some (fsR r),g,H⟩=(match decide (r.c < r.l) with
    | true=>0≤r.c∧r.c < 4000∧∃ a,r.w[r.c.toNat]?=some a∧∃ a',[a]=[a']∧(match isV a' with
      | true=>back Q g H (.bool true) r
      | false=>Lp sp Q 98 0 n ⟨l2 g,some (fsR { r with c:=r.c+1 }),g,H⟩)
    | false=>back Q g H (.bool false) r):=by rcases hg with rfl | rfl<;>kernel_rfl
theorem skipV_step {b:Bool} {w:List Nat} {c:Int} {a:Nat} (h0:0≤c) (ha:w[c.toNat]?=some a):skipV b w c=if isV a==b then skipV b w (c+1) else c:=by
  unfold skipV
  have hlt:=(List.getElem?_eq_some_iff.mp ha).1
  have e:w.drop c.toNat=a::w.drop (c.toNat+1):=by
    rw [List.drop_eq_getElem_cons hlt]
    congr 1
    exact (List.getElem?_eq_some_iff.mp ha).2
  have e1:(c+1).toNat=c.toNat+1:=by (exact ar_ud7b h0)
  rw [e,e1,List.takeWhile_cons]
  by_cases q:(isV a==b)=true
  · rw [if_pos q,if_pos q,List.length_cons];push_cast;(exact ar_62va)
  · rw [if_neg q,if_neg q];simp
theorem skipV_end {b:Bool} {w:List Nat} {c:Int} (h:(w.length:Int)≤c):skipV b w c=c:=by
  unfold skipV
  rw [List.drop_eq_nil_of_le (by (exact ar_3f5g h))];simp
theorem skipV_le {b:Bool} {w:List Nat} {c:Int} (h0:0≤c) (h:c≤w.length):c≤skipV b w c∧skipV b w c≤w.length:=by
  unfold skipV
  have:=(List.takeWhile_sublist (l:=w.drop c.toNat) (fun a=>isV a==b)).length_le
  rw [List.length_drop] at this
  constructor<;>(first | exact ar_x67q | exact ar_loj8 h this)
theorem b70 (hg:g=1∨g=2) (h:S70 true r (back Q g H)):BodyOK T1 (spC sp) 70 [.self g,.vset] Q (some (fsR r)) g H:=by
  rw [e70 hg]
  obtain ⟨hr,h⟩:=h
  refine ⟨rfl,(r.l - r.c).toNat+1,?_⟩
  generalize hm:(r.l - r.c).toNat=m
  induction m generalizing r with
  | zero=>
    rw [l70 hg]
    have hc:r.c=r.l:=by have:=hr.2.1;(exact ar_eznq hm this)
    rw [decide_eq_false (by (exact ar_a3rb hc))]
    rw [skipV_end (by have:=hr.2.2.1;(exact ar_n8v1 hc this))] at h
    rw [decide_eq_false (by (exact ar_a3rb hc))] at h
    exact h
  | succ m ih=>
    rw [l70 hg]
    rw [decide_eq_true (by (exact ar_g92o hm))]
    obtain ⟨a,ha⟩:=at_in hr (by (exact ar_s9ca hm))
    refine ⟨hr.1,by have:=hr.2.2;(exact ar_aylx hm this.2),a,ha,a,rfl,?_⟩
    rw [skipV_step hr.1 ha] at h
    cases q:isV a
    · rw [q,if_neg (by decide),decide_eq_true (by (exact ar_g92o hm))] at h
      exact h
    · rw [q,if_pos (by decide)] at h
      exact ih (r:={ r with c:=r.c+1 }) ⟨by have:=hr.1;show 0≤r.c+1;(exact ar_khmm this),by show r.c+1≤r.l;(exact ar_q80b hm),hr.2.2.1,hr.2.2.2⟩ h (by show (r.l - (r.c+1)).toNat=m;(exact ar_lnxo hm))
theorem b98 (hg:g=1∨g=2) (h:S70 false r (back Q g H)):BodyOK T1 (spC sp) 98 [.self g,.vset] Q (some (fsR r)) g H:=by
  rw [e98 hg]
  obtain ⟨hr,h⟩:=h
  refine ⟨rfl,(r.l - r.c).toNat+1,?_⟩
  generalize hm:(r.l - r.c).toNat=m
  induction m generalizing r with
  | zero=>
    rw [l98 hg]
    have hc:r.c=r.l:=by have:=hr.2.1;(exact ar_eznq hm this)
    rw [decide_eq_false (by (exact ar_a3rb hc))]
    rw [skipV_end (by have:=hr.2.2.1;(exact ar_n8v1 hc this))] at h
    rw [decide_eq_false (by (exact ar_a3rb hc))] at h
    exact h
  | succ m ih=>
    rw [l98 hg]
    rw [decide_eq_true (by (exact ar_g92o hm))]
    obtain ⟨a,ha⟩:=at_in hr (by (exact ar_s9ca hm))
    refine ⟨hr.1,by have:=hr.2.2;(exact ar_aylx hm this.2),a,ha,a,rfl,?_⟩
    rw [skipV_step hr.1 ha] at h
    cases q:isV a
    · rw [q,if_pos (by decide)] at h
      exact ih (r:={ r with c:=r.c+1 }) ⟨by have:=hr.1;show 0≤r.c+1;(exact ar_khmm this),by show r.c+1≤r.l;(exact ar_q80b hm),hr.2.2.1,hr.2.2.2⟩ h (by show (r.l - (r.c+1)).toNat=m;(exact ar_lnxo hm))
    · rw [q,if_neg (by decide),decide_eq_true (by (exact ar_g92o hm))] at h
      exact h
end
end Mine

open PySem PySem.W PyProof.Rows PySem.Calls
set_option maxRecDepth 100000
set_option Elab.async false
set_option backward.match.sparseCases false
namespace Mine
noncomputable def kb (e:Am):List Nat:=e.s.reverse
noncomputable def hdB:Stmt:=(whB (stm 140 7)).getD 4 (.Pass default)
noncomputable def rsB:List Stmt:=(whB (stm 140 7)).drop 5
noncomputable abbrev LT (g:Nat) (rs:List Am) (i j c lb ci cj:Int) (fk:Bool) (tl:Fs):Fs:=
  ([("self",.self g),("v",.tab rs),("i",.int i),("j",.int j),("c",.int c),("lb",.int lb),("common_i",.int ci),("common_j",.int cj),("first_key_inspected",.bool fk)]:Fs)++tl
noncomputable abbrev tlE (k d cm:Int) (e:Am) (o:Option PV):Fs:=([("k",.int k),("diff",.int d),("common",.int cm),("w",.am e)]:Fs)++(match o with | none=>[] | some v=>[("i2",v)])
section
variable {sp:SPK} {r:R9} {H:List AO} {Q:QT} {g:Nat} {rs:List Am} {i j c lb ci cj:Int} {fk:Bool} {k d cm:Int} {e:Am} {o:Option PV}
noncomputable def KL (sp:SPK) (Q:QT) (n:Nat):Ot→St→Prop:=fun q σ₂=>match q with
  | .next=>Lp sp Q 140 7 n σ₂
  | .cont=>Lp sp Q 140 7 n σ₂
  | .brk=>afterK (xp sp 140 40) ((FnB 140).body.drop 8) (bodyK Q) .next σ₂
  | q=>afterK (xp sp 140 40) ((FnB 140).body.drop 8) (bodyK Q) q σ₂
theorem e140 (hg:g=1∨g=2):BodyOK T1 (spC sp) 140 [.self g,.tab rs] Q (some (fsR r)) g H=((2:Nat)=2∧rs.length≤4000∧∃ n,Lp sp Q 140 7 n ⟨LT g rs 0 rs.length r.c r.lb 0 0 false [],some (fsR r),g,H⟩):=by
  rcases hg with rfl | rfl<;>kernel_rfl
noncomputable abbrev mid (i j:Int):Int:=i+(j - i) / 2
noncomputable abbrev mn (a b:Int):Int:=if b < a then b else a
theorem l7n (hg:g=1∨g=2) (n:Nat):Lp sp Q 140 7 (n+1) ⟨LT g rs i j c lb ci cj fk [],some (fsR r),g,H⟩=((1:Int)=1∧0≤j - i∧0≤mid i j∧mid i j < 4000∧∃ e,rs[(mid i j).toNat]?=some e∧e.s.length≤4000 ∧
    (-4000≤(e.s.length:Int) - 1 - mn ci cj∧(e.s.length:Int) - 1 - mn ci cj≤4000∧-4000≤(-1:Int)∧(-1:Int)≤4000∧(-1:Int)=-1) ∧
    pFor (xp sp 140 38) "i2" (whB hdB) (afterK (xp sp 140 39) rsB (KL sp Q n)) (rangeL ((e.s.length:Int) - 1 - mn ci cj) (-1) (rangeN ((e.s.length:Int) - 1 - mn ci cj) (-1) (-1)))
      ⟨LT g rs i j c lb ci cj fk (tlE (mid i j) 0 (mn ci cj) e none),some (fsR r),g,H⟩):=by rcases hg with rfl | rfl<;>kernel_rfl
theorem l7s (hg:g=1∨g=2) (n:Nat):Lp sp Q 140 7 (n+1) ⟨LT g rs i j c lb ci cj fk (tlE k d cm e o),some (fsR r),g,H⟩=((1:Int)=1∧0≤j - i∧0≤mid i j∧mid i j < 4000∧∃ e,rs[(mid i j).toNat]?=some e∧e.s.length≤4000 ∧
    (-4000≤(e.s.length:Int) - 1 - mn ci cj∧(e.s.length:Int) - 1 - mn ci cj≤4000∧-4000≤(-1:Int)∧(-1:Int)≤4000∧(-1:Int)=-1) ∧
    pFor (xp sp 140 38) "i2" (whB hdB) (afterK (xp sp 140 39) rsB (KL sp Q n)) (rangeL ((e.s.length:Int) - 1 - mn ci cj) (-1) (rangeN ((e.s.length:Int) - 1 - mn ci cj) (-1) (-1)))
      ⟨LT g rs i j c lb ci cj fk (tlE (mid i j) 0 (mn ci cj) e o),some (fsR r),g,H⟩):=by rcases hg with rfl | rfl<;>cases o<;>kernel_rfl
noncomputable def tailF (i j ci cj:Int) (fk:Bool) (K:Ot→St→Prop) (mk:Int→Int→Int→Int→Bool→St):Prop:=match decide (j - i≤1) with
  | true=>(match decide (0 < i) with
    | true=>K .brk (mk i j ci cj fk)
    | false=>(match decide (j=i) with
      | true=>K .brk (mk i j ci cj fk)
      | false=>(match fk with
        | true=>K .brk (mk i j ci cj fk)
        | false=>K .next (mk i j ci cj true))))
  | false=>K .next (mk i j ci cj fk)
theorem l5 (hg:g=1∨g=2) (K:Ot→St→Prop):pSs (xp sp 140 39) rsB K ⟨LT g rs i j c lb ci cj fk (tlE k d cm e o),some (fsR r),g,H⟩=(match decide (d < 0) with
    | true=>tailF i k ci cm fk K (fun i j ci cj fk=>⟨LT g rs i j c lb ci cj fk (tlE k d cm e o),some (fsR r),g,H⟩)
    | false=>tailF k j cm cj fk K (fun i j ci cj fk=>⟨LT g rs i j c lb ci cj fk (tlE k d cm e o),some (fsR r),g,H⟩)):=by rcases hg with rfl | rfl<;>cases o<;>kernel_rfl
theorem l4 (hg:g=1∨g=2) (K:Ot→St→Prop) (v:Int) (rest:List PV):pFor (xp sp 140 38) "i2" (whB hdB) K (.int v::rest) ⟨LT g rs i j c lb ci cj fk (tlE k d cm e o),some (fsR r),g,H⟩=(match decide (c - cm=lb) with
    | true=>K .next ⟨LT g rs i j c lb ci cj fk (tlE k (-1) cm e (some (.int v))),some (fsR r),g,H⟩
    | false=>0≤c - 1 - cm∧c - 1 - cm < 4000∧∃ a,r.w[(c - 1 - cm).toNat]?=some a∧∃ a',[a]=[a']∧0≤v∧v < 4000∧∃ b,e.s[v.toNat]?=some b∧∃ b',[b]=[b']∧(match !decide ((a':Int) - b'=0) with
      | true=>K .next ⟨LT g rs i j c lb ci cj fk (tlE k (a' - b') cm e (some (.int v))),some (fsR r),g,H⟩
      | false=>pFor (xp sp 140 38) "i2" (whB hdB) K rest ⟨LT g rs i j c lb ci cj fk (tlE k (a' - b') (cm+1) e (some (.int v))),some (fsR r),g,H⟩)):=by rcases hg with rfl | rfl<;>cases o<;>kernel_rfl
theorem l8 (hg:g=1∨g=2) (n:Nat) (tl:Fs):Lp sp Q 140 8 (n+1) ⟨LT g rs i j c lb ci cj fk (tlE k d cm e o),some (fsR r),g,H⟩=(0≤i∧i < 4000∧∃ e',rs[i.toNat]?=some e'∧e'.s.length≤4000∧(match decide ((e'.s.length:Int)≤ci) with
    | true=>e'.s.length≤4000∧back Q g H (.int e'.res) { r with c:=c - e'.s.length }
    | false=>(match decide (e'.sub < 0) with
      | true=>back Q g H (.int 0) r
      | false=>Lp sp Q 140 8 n ⟨LT g rs e'.sub j c lb ci cj fk (tlE k d cm e' o),some (fsR r),g,H⟩))):=by rcases hg with rfl | rfl<;>cases o<;>kernel_rfl
end
end Mine

open PySem PySem.W PyProof.Rows PySem.Calls
set_option maxRecDepth 100000
set_option Elab.async false
set_option backward.match.sparseCases false
namespace Mine
noncomputable def tsB (r:R9):List Nat:=((r.w.take r.c.toNat).drop r.lb.toNat).reverse
noncomputable def preB (r:R9):Prop:=0≤r.lb∧r.lb≤r.c∧r.c≤r.w.length∧r.w.length≤3000
theorem tsB_len {r:R9} (h:preB r):((tsB r).length:Int)=r.c - r.lb:=by
  obtain ⟨h1,h2,h3,h4⟩:=h
  unfold tsB;simp;(exact ar_pks5 h1 h2 h3)
theorem tsB_get {r:R9} (h:preB r) {cm:Nat} (hc:(cm:Int) < r.c - r.lb):(tsB r)[cm]?=r.w[(r.c - 1 - cm).toNat]?:=by
  obtain ⟨h1,h2,h3,h4⟩:=h
  unfold tsB
  have hl:((r.w.take r.c.toNat).drop r.lb.toNat).length=r.c.toNat - r.lb.toNat:=by simp;(exact ar_qsgs h3)
  rw [List.getElem?_reverse (by rw [hl];(exact ar_d6cx hc h1)),hl,List.getElem?_drop,List.getElem?_take]
  rw [if_pos (by (exact ar_ri80 hc h1))]
  congr 1
  (exact ar_g0ng hc)
theorem kb_get {e:Am} {cm:Nat} (h:cm < e.s.length):(kb e)[cm]?=e.s[((e.s.length:Int) - 1 - cm).toNat]?:=by
  unfold kb
  rw [List.getElem?_reverse h]
  congr 1
  (exact ar_79wm)
theorem kb_len (e:Am):(kb e).length=e.s.length:=by unfold kb;simp
noncomputable def resOf:Option Am→Int
  | some e=>e.res
  | none=>0
noncomputable def lenOf:Option Am→Int
  | some e=>e.s.length
  | none=>0
section
variable {sp:SPK} {r:R9} {H:List AO} {Q:QT} {g:Nat} {rs:List Am} {i j ci cj:Int} {fk:Bool} {k d:Int} {e:Am} {o:Option PV}
theorem scanB (hg:g=1∨g=2) (hp:preB r) (he:e.s.length≤100) (K:Ot→St→Prop)
    (hK:∀ o',K .next ⟨LT g rs i j r.c r.lb ci cj fk (tlE k (cmpL (tsB r) (kb e)) (lcp (tsB r) (kb e)) e o'),some (fsR r),g,H⟩) :
    ∀ (N cm:Nat) (o:Option PV),cm≤lcp (tsB r) (kb e)→cm+N=e.s.length →
      pFor (xp sp 140 38) "i2" (whB hdB) K (rangeL ((e.s.length:Int) - 1 - cm) (-1) N) ⟨LT g rs i j r.c r.lb ci cj fk (tlE k 0 cm e o),some (fsR r),g,H⟩
  | 0,cm,o,h1,h2=>by
    obtain ⟨e1,e2⟩:=scan_end (tsB r) (kb e) (by rw [kb_len];(exact ar_0b2i h1 h2))
    have:=hK o
    rw [e1,e2,kb_len,← h2,Nat.add_zero] at this
    exact this
  | N+1,cm,o,h1,h2=>by
    obtain ⟨A,B⟩:=scan_at (tsB r) (kb e) cm h1 (by rw [kb_len];(exact ar_arti h2))
    have tl:=tsB_len hp
    show pFor (xp sp 140 38) "i2" (whB hdB) K (.int ((e.s.length:Int) - 1 - cm)::rangeL ((e.s.length:Int) - 1 - cm+-1) (-1) N) _
    rw [l4 hg]
    obtain ⟨p1,p2,p3,p4⟩:=id hp
    by_cases hc:r.c - cm=r.lb
    · rw [decide_eq_true hc]
      obtain ⟨e1,e2⟩:=A (by (exact ar_8rhs tl hc))
      have:=hK (some (.int ((e.s.length:Int) - 1 - cm)))
      rw [e1,e2] at this
      exact this
    · rw [decide_eq_false hc]
      have hcm:cm≤(tsB r).length:=Nat.le_trans h1 (lcp_le _ _).1
      have hlt:(cm:Int) < r.c - r.lb:=by (exact ar_7oj2 tl hc hcm)
      have hw:(r.c - 1 - cm).toNat < r.w.length:=by (exact ar_hq4w p1 p3 hlt)
      have hs:((e.s.length:Int) - 1 - cm).toNat < e.s.length:=by (exact ar_ev8h h2)
      refine ⟨by (exact ar_zhdj p1 hlt),by (exact ar_doqx p3 p4),_,List.getElem?_eq_getElem hw,_,rfl,by (exact ar_petm h2),by (exact ar_i2jy he),_,List.getElem?_eq_getElem hs,_,rfl,?_⟩
      obtain ⟨B1,B2⟩:=B r.w[(r.c - 1 - cm).toNat] e.s[((e.s.length:Int) - 1 - cm).toNat] (by rw [tsB_get hp hlt];exact List.getElem?_eq_getElem hw) (by rw [kb_get (by (exact ar_arti h2))];exact List.getElem?_eq_getElem hs)
      by_cases q:r.w[(r.c - 1 - cm).toNat]=e.s[((e.s.length:Int) - 1 - cm).toNat]
      · have q':((r.w[(r.c - 1 - cm).toNat]:Nat):Int) - (e.s[((e.s.length:Int) - 1 - cm).toNat]:Nat)=0:=by (exact ar_a44d q)
        rw [q',decide_eq_true rfl]
        have ih:=scanB hg hp he K hK N (cm+1) (some (.int ((e.s.length:Int) - 1 - cm))) (B2 q) (by (exact ar_vjh6 h2))
        have e1:(e.s.length:Int) - 1 - ((cm+1:Nat):Int)=(e.s.length:Int) - 1 - cm+-1:=by (exact ar_1avy)
        have e2:((cm+1:Nat):Int)=(cm:Int)+1:=by (exact ar_g8t1)
        rw [e1,e2] at ih
        exact ih
      · obtain ⟨e1,e2⟩:=B1 q
        rw [decide_eq_false (by (exact ar_gqpf q))]
        have:=hK (some (.int ((e.s.length:Int) - 1 - cm)))
        rw [e1,e2] at this
        exact this
theorem tab_uniq {kf:Am→List Nat} (hp:pairB (rs.map kf)=true) {a b:Nat} {x y:Am} (ha:rs[a]?=some x) (hb:rs[b]?=some y) (h:kf x=kf y):x=y:=by
  have ha':(rs.map kf)[a]?=some (kf x):=by simp [ha]
  have hb':(rs.map kf)[b]?=some (kf y):=by simp [hb]
  rcases Nat.lt_trichotomy a b with q | q | q
  · have:=pairB_get hp q ha' hb';rw [h,lex_irr] at this;cases this
  · subst q;rw [ha] at hb;cases hb;rfl
  · have:=pairB_get hp q hb' ha';rw [h,lex_irr] at this;cases this
theorem prefix_eq {a b:List Nat} (h:a <+: b) (hl:b.length≤a.length):a=b:=h.eq_of_length (Nat.le_antisymm h.length_le hl)
theorem fin8 (hg:g=1∨g=2) (hT:goodTab kb rs=true) {cm:Int} {ts:List Nat} (h:back Q g H (.int (resOf (best kb ts rs))) { r with c:=r.c - lenOf (best kb ts rs) }) :
    ∀ (i:Nat) (e₀:Am) (e:Am),rs[i]?=some e₀→(∀ m∈rs,kb m <+: ts→kb m <+: kb e₀)→(∀ m∈rs,kb m <+: kb e₀→((m.s.length:Int)≤ci↔kb m <+: ts)) →
      ∃ n,Lp sp Q 140 8 n ⟨LT g rs i j r.c r.lb ci cj fk (tlE k d cm e o),some (fsR r),g,H⟩:=by
  unfold goodTab at hT
  simp only [Bool.and_eq_true,decide_eq_true_eq] at hT
  obtain ⟨⟨⟨⟨t1,t2⟩,t3⟩,t4⟩,t5⟩:=hT
  intro i
  induction i using Nat.strongRecOn with
  | ind i ih=>
    intro e₀ e h₀ hA hB
    have hm₀:e₀∈rs:=List.mem_of_getElem? h₀
    have hi:i < rs.length:=(List.getElem?_eq_some_iff.mp h₀).1
    have hl₀:e₀.s.length≤100:=of_decide_eq_true (List.all_eq_true.mp t5 e₀ hm₀)
    have hbest:=best_is kb ts rs
    have hlink:=linksB_get t4 h₀
    rw [Nat.zero_add] at hlink
    have fill:∀ n,(match decide ((e₀.s.length:Int)≤ci) with
      | true=>e₀.s.length≤4000∧back Q g H (.int e₀.res) { r with c:=r.c - e₀.s.length }
      | false=>(match decide (e₀.sub < 0) with
        | true=>back Q g H (.int 0) r
        | false=>Lp sp Q 140 8 n ⟨LT g rs e₀.sub j r.c r.lb ci cj fk (tlE k d cm e₀ o),some (fsR r),g,H⟩))→∃ n,Lp sp Q 140 8 n ⟨LT g rs i j r.c r.lb ci cj fk (tlE k d cm e o),some (fsR r),g,H⟩:=fun n hn=>by
      refine ⟨n+1,?_⟩
      rw [l8 hg n []]
      exact ⟨by (exact ar_fpix),by (exact ar_kmh3 t2 hi),e₀,by rw [Int.toNat_natCast];exact h₀,by (exact ar_qpkv hl₀),hn⟩
    by_cases q:(e₀.s.length:Int)≤ci
    · refine fill 0 ?_
      rw [decide_eq_true q]
      refine ⟨by (exact ar_qpkv hl₀),?_⟩
      have hpre:kb e₀ <+: ts:=(hB e₀ hm₀ (List.prefix_refl _)).mp q
      cases hb:best kb ts rs with
      | none=>rw [hb] at hbest;exact absurd hpre (hbest e₀ hm₀)
      | some b=>
        rw [hb] at hbest h
        obtain ⟨b1,b2,b3⟩:=hbest
        obtain ⟨ib,hib⟩:=List.mem_iff_getElem?.mp b1
        have:b=e₀:=tab_uniq t3 hib h₀ (prefix_eq (hA b b1 b2) (b3 e₀ hm₀ hpre))
        subst this
        exact h
    · have hno:¬ kb e₀ <+: ts:=fun z=>q ((hB e₀ hm₀ (List.prefix_refl _)).mpr z)
      have proper:∀ m∈rs,kb m <+: ts→(kb m).length < (kb e₀).length:=fun m hm z=>by
        have:=(hA m hm z).length_le
        rcases Nat.lt_or_ge (kb m).length (kb e₀).length with y | y
        · exact y
        · exact absurd (prefix_eq (hA m hm z) y▸z) hno
      by_cases q2:e₀.sub < 0
      · refine fill 0 ?_
        rw [decide_eq_false q,decide_eq_true q2]
        cases hb:best kb ts rs with
        | none=>
          rw [hb] at h
          have e:r.c - lenOf none=r.c:=by show r.c - 0=_;(exact ar_gszt)
          rw [e] at h
          exact h
        | some b=>
          rw [hb] at hbest
          obtain ⟨b1,b2,b3⟩:=hbest
          unfold linkB at hlink
          split at hlink
          · rename_i s hs;rw [hs] at q2;exact absurd q2 (by simp)
          · have:=List.all_eq_true.mp hlink b b1
            rw [List.isPrefixOf_iff_prefix.mpr (hA b b1 b2),decide_eq_true (proper b b1 b2)] at this
            cases this
      · unfold linkB at hlink
        split at hlink
        · rename_i s hs
          split at hlink
          · rename_i b hb
            simp only [Bool.and_eq_true,decide_eq_true_eq] at hlink
            obtain ⟨⟨⟨l1,l2⟩,l3⟩,l4⟩:=hlink
            have l2':=List.isPrefixOf_iff_prefix.mp l2
            obtain ⟨n,hn⟩:=ih s l1 b e₀ hb (fun m hm z=>by
              have:=List.all_eq_true.mp l4 m hm
              rw [List.isPrefixOf_iff_prefix.mpr (hA m hm z),decide_eq_true (proper m hm z)] at this
              exact List.isPrefixOf_iff_prefix.mp (by simpa using this)) (fun m hm z=>hB m hm (z.trans l2'))
            refine fill n ?_
            rw [decide_eq_false q,decide_eq_false q2]
            have:e₀.sub=(s:Int):=hs
            rw [this]
            exact hn
          · cases hlink
        · rename_i s hs;rw [hs] at q2;exact absurd (Int.negSucc_lt_zero s) q2
end
end Mine

open PySem PySem.W PyProof.Rows PySem.Calls
set_option maxRecDepth 100000
set_option Elab.async false
set_option backward.match.sparseCases false
namespace Mine
section
variable {sp:SPK} {r:R9} {H:List AO} {Q:QT} {g:Nat} {rs:List Am} {kf:Am→List Nat} {ts:List Nat}
noncomputable def LowOK (kf:Am→List Nat) (ts:List Nat) (rs:List Am) (i ci:Nat):Prop:=(i=0∧ci=0)∨∃ e,rs[i]?=some e∧lexLt ts (kf e)=false∧ci=lcp ts (kf e)
noncomputable def UpOK (kf:Am→List Nat) (ts:List Nat) (rs:List Am) (j cj:Nat):Prop:=(j=rs.length∧cj=0)∨∃ e,rs[j]?=some e∧lexLt ts (kf e)=true∧cj=lcp ts (kf e)
theorem lex_trans_le (hp:pairB (rs.map kf)=true) {a b:Nat} {x y:Am} (hab:a≤b) (ha:rs[a]?=some x) (hb:rs[b]?=some y):lexLt (kf y) (kf x)=false:=by
  rcases Nat.lt_or_ge a b with q | q
  · exact lex_asymm _ _ (pairB_get hp q (by simp [ha]) (by simp [hb]))
  · have:a=b:=by (exact ar_0vco hab q)
    subst this;rw [ha] at hb;cases hb;exact lex_irr _
theorem common_le (hp:pairB (rs.map kf)=true) {i j ci cj m:Nat} {e:Am} (hL:LowOK kf ts rs i ci) (hU:UpOK kf ts rs j cj) (him:i≤m) (hmj:m < j) (he:rs[m]?=some e):min ci cj≤lcp ts (kf e):=by
  rcases hL with ⟨_,rfl⟩ | ⟨x,hx,hx2,rfl⟩
  · simp
  · rcases hU with ⟨_,rfl⟩ | ⟨y,hy,hy2,rfl⟩
    · simp
    · exact lcp_squeeze ts (kf x) (kf e) (kf y) (lex_trans_le hp him hx he) (lex_trans_le hp (Nat.le_of_lt hmj) he hy)
theorem up_all (hp:pairB (rs.map kf)=true) {j cj m:Nat} {e:Am} (hU:UpOK kf ts rs j cj) (hjm:j≤m) (he:rs[m]?=some e) (hpre:kf e <+: ts):False:=by
  rcases hU with ⟨rfl,_⟩ | ⟨y,hy,hy2,_⟩
  · have:=(List.getElem?_eq_some_iff.mp he).1;(exact ar_eh58 hjm this)
  · have h1:=prefix_le ts (kf e) hpre
    rcases Nat.lt_or_ge j m with q | q
    · have h2:lexLt (kf y) (kf e)=true:=pairB_get hp q (by simp [hy]) (by simp [he])
      have:lexLt ts (kf e)=true:=lex_trans ts (kf y) (kf e) hy2 h2
      rw [this] at h1;cases h1
    · have:j=m:=by (exact ar_0vco hjm q)
      subst this;rw [hy] at he;cases he;rw [hy2] at h1;cases h1
where lex_trans:∀ a b c:List Nat,lexLt a b=true→lexLt b c=true→lexLt a c=true
  | _,[],_,h,_=>by simp [lexLt] at h
  | _,_::_,[],_,h=>by simp [lexLt] at h
  | [],_::_,_::_,_,_=>by simp [lexLt]
  | x::xs,y::ys,z::zs,h1,h2=>by
    unfold lexLt at h1 h2 ⊢
    by_cases a:x=y
    · subst a
      rw [if_pos rfl] at h1
      by_cases b:x=z
      · subst b
        rw [if_pos rfl] at h2 ⊢
        exact lex_trans xs ys zs h1 h2
      · rw [if_neg b] at h2 ⊢;exact h2
    · rw [if_neg a] at h1
      have q1:=of_decide_eq_true h1
      by_cases b:y=z
      · subst b
        rw [if_neg a];exact h1
      · rw [if_neg b] at h2
        have q2:=of_decide_eq_true h2
        rw [if_neg (by (exact ar_6t0p q1 q2))]
        exact decide_eq_true (by (exact ar_m3ox q1 q2))
theorem ends_A (hp:pairB (rs.map kf)=true) {i j cj:Nat} {e:Am} (hU:UpOK kf ts rs j cj) (hj:j≤i+1) (he:rs[i]?=some e) (h1:lexLt ts (kf e)=false):∀ m∈rs,kf m <+: ts→kf m <+: kf e:=by
  intro m hm z
  obtain ⟨im,him⟩:=List.mem_iff_getElem?.mp hm
  rcases Nat.lt_or_ge im j with q | q
  · exact prefix_mid ts (kf m) (kf e) (lex_trans_le hp (by (exact ar_muob hj q)) him he) h1 z
  · exact (up_all hp hU q him z).elim
noncomputable def okTl (tl:Fs):Prop:=tl=[]∨∃ k d cm e o,tl=tlE k d cm e o
theorem brk8 {n:Nat} {σ:St}:KL sp Q n .brk σ=∃ n,Lp sp Q 140 8 n σ:=by kernel_rfl
theorem loop7 (hg:g=1∨g=2) (hp:preB r) (hT:goodTab kb rs=true) (h:back Q g H (.int (resOf (best kb (tsB r) rs))) { r with c:=r.c - lenOf (best kb (tsB r) rs) }) :
    ∀ (μ i j ci cj:Nat) (fk:Bool),2 * (j - i)+(if fk then 0 else 1)=μ→i < j→j≤rs.length→LowOK kb (tsB r) rs i ci→UpOK kb (tsB r) rs j cj→(fk=true→i=0∧j=1)→(fk=false→i=0∨i+1 < j)→(i+1 < j∨i=0) →
      ∃ n,∀ tl,okTl tl→Lp sp Q 140 7 n ⟨LT g rs i j r.c r.lb ci cj fk tl,some (fsR r),g,H⟩:=by
  have hT':=hT
  unfold goodTab at hT'
  simp only [Bool.and_eq_true,decide_eq_true_eq] at hT'
  obtain ⟨⟨⟨⟨t1,t2⟩,t3⟩,t4⟩,t5⟩:=hT'
  intro μ
  induction μ using Nat.strongRecOn with
  | ind μ ih=>
    intro i j ci cj fk hμ hij hjn hL hU hfk hfk2 hgo
    let m:=i+(j - i) / 2
    have hm1:i≤m:=by show i≤i+(j - i) / 2;(exact ar_3i68)
    have hm2:m < j:=by show i+(j - i) / 2 < j;(exact ar_eq0e hij)
    have hmid:mid (i:Int) (j:Int)=(m:Int):=by show (i:Int)+((j:Int) - i) / 2=((i+(j - i) / 2:Nat):Int);(exact ar_guig hij)
    have hmn:mn (ci:Int) (cj:Int)=((min ci cj:Nat):Int):=by show (if (cj:Int) < ci then (cj:Int) else ci)=_;split<;>(first | exact ar_ggxf (by assumption) | exact ar_jpmv (by assumption))
    have hmr:m < rs.length:=by (exact ar_7ftj hjn hm2)
    obtain ⟨e,he⟩:∃ e,rs[m]?=some e:=⟨_,List.getElem?_eq_getElem hmr⟩
    have hel:e.s.length≤100:=of_decide_eq_true (List.all_eq_true.mp t5 e (List.mem_of_getElem? he))
    have hcl:=common_le t3 hL hU hm1 hm2 he
    have hcl2:min ci cj≤e.s.length:=Nat.le_trans hcl (by have:=(lcp_le (tsB r) (kb e)).2;rwa [kb_len] at this)
    have goal:∃ n,∀ o',(afterK (xp sp 140 39) rsB (KL sp Q n)) .next ⟨LT g rs i j r.c r.lb ci cj fk (tlE m (cmpL (tsB r) (kb e)) (lcp (tsB r) (kb e)) e o'),some (fsR r),g,H⟩:=by
      show ∃ n,∀ o',pSs (xp sp 140 39) rsB (KL sp Q n) _
      by_cases hd:cmpL (tsB r) (kb e) < 0
      · -- the text is less
        have hlt:=(cmpL_neg _ _).mp hd
        have hU':UpOK kb (tsB r) rs m (lcp (tsB r) (kb e)):=.inr ⟨e,he,hlt,rfl⟩
        by_cases hmi:m=i
        · -- only at the first place
          have hi0:i=0:=by
            rcases hgo with q | q
            · have:m=i+(j - i) / 2:=rfl
              (first | lia | omega)
            · exact q
          have hci:ci=0:=by
            rcases hL with ⟨_,q⟩ | ⟨x,hx,hx2,_⟩
            · exact q
            · rw [hmi] at he;rw [he] at hx;cases hx;rw [hlt] at hx2;cases hx2
          refine ⟨0,fun o'=>?_⟩
          rw [l5 hg,decide_eq_true hd]
          show tailF _ _ _ _ _ _ _
          unfold tailF
          rw [decide_eq_true (by (exact ar_vhwu hmi)),decide_eq_false (by (exact ar_da6k hi0)),decide_eq_true (by (exact ar_evqi hmi))]
          show KL sp Q 0 .brk _
          rw [brk8]
          refine fin8 hg hT h i e e (hmi▸he) (fun x hx z=>?_) (fun x hx z=>?_)
          · obtain ⟨ix,hix⟩:=List.mem_iff_getElem?.mp hx
            exact (up_all t3 hU' (by (exact ar_c75k hmi hi0)) hix z).elim
          · obtain ⟨ix,hix⟩:=List.mem_iff_getElem?.mp hx
            constructor
            · intro q
              have:kb x=[]:=List.eq_nil_of_length_eq_zero (by rw [kb_len];(exact ar_cpmp hci q))
              rw [this];exact List.nil_prefix
            · intro z;exact (up_all t3 hU' (by (exact ar_c75k hmi hi0)) hix z).elim
        · by_cases hs:m≤i+1
          · -- j:=m=i+1
            by_cases hi0:i=0
            · -- the first place is still to be looked at
              cases fk with
              | true=>obtain ⟨_,q⟩:=hfk rfl;(exact (ar_3u5r hm1 hm2 hmi q).elim)
              | false=>
                obtain ⟨n,hn⟩:=ih (2 * (m - i)+0) (by rw [← hμ];simp;(first | lia | omega)) i m ci (lcp (tsB r) (kb e)) true (by simp) (by (exact ar_fk51 hm1 hmi)) (by (exact ar_65wq hmr)) hL hU' (fun _=>⟨hi0,by (exact ar_1d8q hmi hs hi0)⟩) (fun q=>by cases q) (.inr hi0)
                refine ⟨n,fun o'=>?_⟩
                rw [l5 hg,decide_eq_true hd]
                show tailF _ _ _ _ _ _ _
                unfold tailF
                rw [decide_eq_true (by (exact ar_skiv hs)),decide_eq_false (by (exact ar_da6k hi0)),decide_eq_false (by (exact ar_y178 hmi))]
                exact hn _ (.inr ⟨_,_,_,_,_,rfl⟩)
            · refine ⟨0,fun o'=>?_⟩
              rw [l5 hg,decide_eq_true hd]
              show tailF _ _ _ _ _ _ _
              unfold tailF
              rw [decide_eq_true (by (exact ar_skiv hs)),decide_eq_true (by (exact ar_j5y4 hi0))]
              show KL sp Q 0 .brk _
              rw [brk8]
              rcases hL with ⟨q,_⟩ | ⟨x,hx,hx2,rfl⟩
              · exact absurd q hi0
              · exact fin8 hg hT h i x e hx (ends_A t3 hU' hs hx hx2) fun y hy z=>by
                  rw [← kb_len y]
                  constructor
                  · intro q;exact (prefix_lcp (tsB r) (kb x) (kb y) z).mp (by (exact ar_65cy q))
                  · intro q;have:=(prefix_lcp (tsB r) (kb x) (kb y) z).mpr q;(exact ar_oud8 this)
          · cases fk with
            | true=>obtain ⟨_,q⟩:=hfk rfl;(exact (ar_fxns hm2 hs q).elim)
            | false=>
              obtain ⟨n,hn⟩:=ih (2 * (m - i)+1) (by rw [← hμ];simp;(first | lia | omega)) i m ci (lcp (tsB r) (kb e)) false (by simp) (by (exact ar_rbgu hs)) (by (exact ar_65wq hmr)) hL hU' (fun q=>by cases q) (fun _=>.inr (by (exact ar_a9no hs))) (.inl (by (exact ar_a9no hs)))
              refine ⟨n,fun o'=>?_⟩
              rw [l5 hg,decide_eq_true hd]
              show tailF _ _ _ _ _ _ _
              unfold tailF
              rw [decide_eq_false (by (exact ar_x863 hs))]
              exact hn _ (.inr ⟨_,_,_,_,_,rfl⟩)
      · have hlt:lexLt (tsB r) (kb e)=false:=by
          cases q:lexLt (tsB r) (kb e) with
          | false=>rfl
          | true=>exact absurd ((cmpL_neg _ _).mpr q) hd
        have hL':LowOK kb (tsB r) rs m (lcp (tsB r) (kb e)):=.inr ⟨e,he,hlt,rfl⟩
        have stop:∀ o',∃ n,Lp sp Q 140 8 n ⟨LT g rs m j r.c r.lb (lcp (tsB r) (kb e)) cj fk (tlE m (cmpL (tsB r) (kb e)) (lcp (tsB r) (kb e)) e o'),some (fsR r),g,H⟩∨¬ j≤m+1:=fun o'=>by
          by_cases q:j≤m+1
          · obtain ⟨n,hn⟩:=fin8 (j:=j) (ci:=(lcp (tsB r) (kb e):Nat)) (fk:=fk) (k:=m) (d:=cmpL (tsB r) (kb e)) (cm:=(lcp (tsB r) (kb e):Nat)) (o:=o') (cj:=cj) hg hT h m e e he (ends_A (i:=m) t3 hU q he hlt) (fun y hy z=>by
              rw [← kb_len y]
              constructor
              · intro q;exact (prefix_lcp (tsB r) (kb e) (kb y) z).mp (by (exact ar_65cy q))
              · intro q;have:=(prefix_lcp (tsB r) (kb e) (kb y) z).mpr q;(exact ar_oud8 this))
            exact ⟨n,.inl hn⟩
          · exact ⟨0,.inr q⟩
        by_cases hs:j≤m+1
        · have stop':∀ o',∃ n,Lp sp Q 140 8 n ⟨LT g rs m j r.c r.lb (lcp (tsB r) (kb e)) cj fk (tlE m (cmpL (tsB r) (kb e)) (lcp (tsB r) (kb e)) e o'),some (fsR r),g,H⟩:=fun o'=>by
            obtain ⟨n,hn | hn⟩:=stop o'
            · exact ⟨n,hn⟩
            · exact absurd hs hn
          by_cases hm0:0 < m
          · refine ⟨0,fun o'=>?_⟩
            rw [l5 hg,decide_eq_false hd]
            show tailF _ _ _ _ _ _ _
            unfold tailF
            rw [decide_eq_true (by (exact ar_skiv hs)),decide_eq_true (by (exact ar_znwl hm0))]
            show KL sp Q 0 .brk _
            rw [brk8];exact stop' o'
          · cases fk with
            | true=>
              refine ⟨0,fun o'=>?_⟩
              rw [l5 hg,decide_eq_false hd]
              show tailF _ _ _ _ _ _ _
              unfold tailF
              rw [decide_eq_true (by (exact ar_skiv hs)),decide_eq_false (by (exact ar_r285 hm0)),decide_eq_false (by (exact ar_ab82 hm2))]
              show KL sp Q 0 .brk _
              rw [brk8];exact stop' o'
            | false=>
              obtain ⟨n,hn⟩:=ih (2 * (j - m)+0) (by rw [← hμ];simp;(exact ar_qi2h hij hs)) m j (lcp (tsB r) (kb e)) cj true (by simp) (by (exact hm2)) hjn hL' hU (fun _=>⟨by (exact ar_0uu2 hm0),by (exact ar_of4z hij hs hm0)⟩) (fun q=>by cases q) (.inr (by (exact ar_0uu2 hm0)))
              refine ⟨n,fun o'=>?_⟩
              rw [l5 hg,decide_eq_false hd]
              show tailF _ _ _ _ _ _ _
              unfold tailF
              rw [decide_eq_true (by (exact ar_skiv hs)),decide_eq_false (by (exact ar_r285 hm0)),decide_eq_false (by (exact ar_ab82 hm2))]
              exact hn _ (.inr ⟨_,_,_,_,_,rfl⟩)
        · cases fk with
          | true=>obtain ⟨_,q⟩:=hfk rfl;(exact (ar_ysyh hs q).elim)
          | false=>
            obtain ⟨n,hn⟩:=ih (2 * (j - m)+1) (by rw [← hμ];simp;(first | lia | omega)) m j (lcp (tsB r) (kb e)) cj false (by simp) hm2 hjn hL' hU (fun q=>by cases q) (fun _=>.inr (by (exact ar_a9no hs))) (.inl (by (exact ar_a9no hs)))
            refine ⟨n,fun o'=>?_⟩
            rw [l5 hg,decide_eq_false hd]
            show tailF _ _ _ _ _ _ _
            unfold tailF
            rw [decide_eq_false (by (exact ar_x863 hs))]
            exact hn _ (.inr ⟨_,_,_,_,_,rfl⟩)
    obtain ⟨n,hn⟩:=goal
    have hN:rangeN ((e.s.length:Int) - 1 - (min ci cj:Nat)) (-1) (-1)=e.s.length - min ci cj:=by
      unfold rangeN;rw [if_neg (by decide),if_pos rfl];(exact ar_g4st)
    refine ⟨n+1,fun tl htl=>?_⟩
    rcases htl with rfl | ⟨k',d',cm',e',o',rfl⟩
    · rw [l7n hg]
      refine ⟨rfl,by (exact ar_i7fx hij),by rw [hmid];(exact ar_fpix),by rw [hmid];(exact ar_kmh3 t2 hmr),e,by rw [hmid,Int.toNat_natCast];exact he,by (exact ar_qpkv hel),?_⟩
      rw [hmid,hmn,hN]
      exact ⟨⟨by (exact ar_snhf hcl2),by (exact ar_8h39 hel),by (exact ar_0qg8),by (exact ar_ryi5),rfl⟩,scanB hg hp hel _ hn _ _ none hcl (by (exact ar_7oea hcl2))⟩
    · rw [l7s hg]
      refine ⟨rfl,by (exact ar_i7fx hij),by rw [hmid];(exact ar_fpix),by rw [hmid];(exact ar_kmh3 t2 hmr),e,by rw [hmid,Int.toNat_natCast];exact he,by (exact ar_qpkv hel),?_⟩
      rw [hmid,hmn,hN]
      exact ⟨⟨by (exact ar_snhf hcl2),by (exact ar_8h39 hel),by (exact ar_0qg8),by (exact ar_ryi5),rfl⟩,scanB hg hp hel _ hn _ _ o' hcl (by (exact ar_7oea hcl2))⟩
noncomputable def S140 (rs:List Am) (r:R9) (k:KT):Prop:=(preB r∧goodTab kb rs=true)∧k (.int (resOf (best kb (tsB r) rs))) { r with c:=r.c - lenOf (best kb (tsB r) rs) }
theorem b140 (hg:g=1∨g=2) (h:S140 rs r (back Q g H)):BodyOK T1 (spC sp) 140 [.self g,.tab rs] Q (some (fsR r)) g H:=by
  rw [e140 hg]
  obtain ⟨⟨hp,hT⟩,h⟩:=h
  have hT':=hT
  unfold goodTab at hT'
  simp only [Bool.and_eq_true,decide_eq_true_eq] at hT'
  obtain ⟨⟨⟨⟨t1,t2⟩,t3⟩,t4⟩,t5⟩:=hT'
  obtain ⟨n,hn⟩:=loop7 (sp:=sp) hg hp hT h _ 0 rs.length 0 0 false rfl t1 (Nat.le_refl _) (.inl ⟨rfl,rfl⟩) (.inl ⟨rfl,rfl⟩) (fun q=>by cases q) (fun _=>.inl rfl) (.inr rfl)
  exact ⟨rfl,by (exact ar_z7ij t2),n,hn [] (.inl rfl)⟩
end
end Mine

open PySem PySem.W PyProof.Rows PySem.Calls
set_option maxRecDepth 100000
set_option Elab.async false
set_option backward.match.sparseCases false
namespace Mine
noncomputable def ka (e:Am):List Nat:=e.s
noncomputable def hdF:Stmt:=(whB (stm 133 7)).getD 4 (.Pass default)
noncomputable def rsF:List Stmt:=(whB (stm 133 7)).drop 5
noncomputable abbrev LF (g:Nat) (rs:List Am) (i j c lb ci cj:Int) (fk:Bool) (tl:Fs):Fs:=
  ([("self",.self g),("v",.tab rs),("i",.int i),("j",.int j),("c",.int c),("l",.int lb),("common_i",.int ci),("common_j",.int cj),("first_key_inspected",.bool fk)]:Fs)++tl
section
variable {sp:SPK} {r:R9} {H:List AO} {Q:QT} {g:Nat} {rs:List Am} {i j c lb ci cj:Int} {fk:Bool} {k d cm:Int} {e:Am} {o:Option PV}
noncomputable def KF2 (sp:SPK) (Q:QT) (n:Nat):Ot→St→Prop:=fun q σ₂=>match q with
  | .next=>Lp sp Q 133 7 n σ₂
  | .cont=>Lp sp Q 133 7 n σ₂
  | .brk=>afterK (xp sp 133 40) ((FnB 133).body.drop 8) (bodyK Q) .next σ₂
  | q=>afterK (xp sp 133 40) ((FnB 133).body.drop 8) (bodyK Q) q σ₂
theorem e133 (hg:g=1∨g=2):BodyOK T1 (spC sp) 133 [.self g,.tab rs] Q (some (fsR r)) g H=((2:Nat)=2∧rs.length≤4000∧∃ n,Lp sp Q 133 7 n ⟨LF g rs 0 rs.length r.c r.l 0 0 false [],some (fsR r),g,H⟩):=by
  rcases hg with rfl | rfl<;>kernel_rfl
theorem l7nF (hg:g=1∨g=2) (n:Nat):Lp sp Q 133 7 (n+1) ⟨LF g rs i j c lb ci cj fk [],some (fsR r),g,H⟩=((1:Int)=1∧0≤j - i∧0≤mid i j∧mid i j < 4000∧∃ e,rs[(mid i j).toNat]?=some e∧e.s.length≤4000 ∧
    (-4000≤mn ci cj∧mn ci cj≤4000∧-4000≤(e.s.length:Int)∧(e.s.length:Int)≤4000) ∧
    pFor (xp sp 133 38) "i2" (whB hdF) (afterK (xp sp 133 39) rsF (KF2 sp Q n)) (rangeL (mn ci cj) 1 (rangeN (mn ci cj) (e.s.length:Int) 1))
      ⟨LF g rs i j c lb ci cj fk (tlE (mid i j) 0 (mn ci cj) e none),some (fsR r),g,H⟩):=by rcases hg with rfl | rfl<;>kernel_rfl
theorem l7sF (hg:g=1∨g=2) (n:Nat):Lp sp Q 133 7 (n+1) ⟨LF g rs i j c lb ci cj fk (tlE k d cm e o),some (fsR r),g,H⟩=((1:Int)=1∧0≤j - i∧0≤mid i j∧mid i j < 4000∧∃ e,rs[(mid i j).toNat]?=some e∧e.s.length≤4000 ∧
    (-4000≤mn ci cj∧mn ci cj≤4000∧-4000≤(e.s.length:Int)∧(e.s.length:Int)≤4000) ∧
    pFor (xp sp 133 38) "i2" (whB hdF) (afterK (xp sp 133 39) rsF (KF2 sp Q n)) (rangeL (mn ci cj) 1 (rangeN (mn ci cj) (e.s.length:Int) 1))
      ⟨LF g rs i j c lb ci cj fk (tlE (mid i j) 0 (mn ci cj) e o),some (fsR r),g,H⟩):=by rcases hg with rfl | rfl<;>cases o<;>kernel_rfl
theorem l5F (hg:g=1∨g=2) (K:Ot→St→Prop):pSs (xp sp 133 39) rsF K ⟨LF g rs i j c lb ci cj fk (tlE k d cm e o),some (fsR r),g,H⟩=(match decide (d < 0) with
    | true=>tailF i k ci cm fk K (fun i j ci cj fk=>⟨LF g rs i j c lb ci cj fk (tlE k d cm e o),some (fsR r),g,H⟩)
    | false=>tailF k j cm cj fk K (fun i j ci cj fk=>⟨LF g rs i j c lb ci cj fk (tlE k d cm e o),some (fsR r),g,H⟩)):=by rcases hg with rfl | rfl<;>cases o<;>kernel_rfl
theorem l4F (hg:g=1∨g=2) (K:Ot→St→Prop) (v:Int) (rest:List PV):pFor (xp sp 133 38) "i2" (whB hdF) K (.int v::rest) ⟨LF g rs i j c lb ci cj fk (tlE k d cm e o),some (fsR r),g,H⟩=(match decide (c+cm=lb) with
    | true=>K .next ⟨LF g rs i j c lb ci cj fk (tlE k (-1) cm e (some (.int v))),some (fsR r),g,H⟩
    | false=>0≤c+cm∧c+cm < 4000∧∃ a,r.w[(c+cm).toNat]?=some a∧∃ a',[a]=[a']∧0≤v∧v < 4000∧∃ b,e.s[v.toNat]?=some b∧∃ b',[b]=[b']∧(match !decide ((a':Int) - b'=0) with
      | true=>K .next ⟨LF g rs i j c lb ci cj fk (tlE k (a' - b') cm e (some (.int v))),some (fsR r),g,H⟩
      | false=>pFor (xp sp 133 38) "i2" (whB hdF) K rest ⟨LF g rs i j c lb ci cj fk (tlE k (a' - b') (cm+1) e (some (.int v))),some (fsR r),g,H⟩)):=by rcases hg with rfl | rfl<;>cases o<;>kernel_rfl
theorem l8F (hg:g=1∨g=2) (n:Nat) (tl:Fs):Lp sp Q 133 8 (n+1) ⟨LF g rs i j c lb ci cj fk (tlE k d cm e o),some (fsR r),g,H⟩=(0≤i∧i < 4000∧∃ e',rs[i.toNat]?=some e'∧e'.s.length≤4000∧(match decide ((e'.s.length:Int)≤ci) with
    | true=>e'.s.length≤4000∧back Q g H (.int e'.res) { r with c:=c+e'.s.length }
    | false=>(match decide (e'.sub < 0) with
      | true=>back Q g H (.int 0) r
      | false=>Lp sp Q 133 8 n ⟨LF g rs e'.sub j c lb ci cj fk (tlE k d cm e' o),some (fsR r),g,H⟩))):=by rcases hg with rfl | rfl<;>cases o<;>kernel_rfl
end
theorem ka_len (e:Am):(ka e).length=e.s.length:=rfl
noncomputable def tsF (r:R9):List Nat:=r.w.drop r.c.toNat
noncomputable def preF (r:R9):Prop:=0≤r.c∧r.c≤r.l∧r.l=r.w.length∧r.w.length≤3000
theorem tsF_len {r:R9} (h:preF r):((tsF r).length:Int)=r.l - r.c:=by
  obtain ⟨h1,h2,h3,h4⟩:=h
  unfold tsF;simp;(exact ar_p14c h1 h2 h3)
theorem tsF_get {r:R9} (h:preF r) {cm:Nat}:(tsF r)[cm]?=r.w[(r.c+cm).toNat]?:=by
  obtain ⟨h1,h2,h3,h4⟩:=h
  unfold tsF
  rw [List.getElem?_drop]
  congr 1
  (exact ar_ldpq h1)
section
variable {sp:SPK} {r:R9} {H:List AO} {Q:QT} {g:Nat} {rs:List Am} {i j ci cj:Int} {fk:Bool} {k d:Int} {e:Am} {o:Option PV}
theorem scanF (hg:g=1∨g=2) (hp:preF r) (he:e.s.length≤100) (K:Ot→St→Prop)
    (hK:∀ o',K .next ⟨LF g rs i j r.c r.l ci cj fk (tlE k (cmpL (tsF r) (ka e)) (lcp (tsF r) (ka e)) e o'),some (fsR r),g,H⟩) :
    ∀ (N cm:Nat) (o:Option PV),cm≤lcp (tsF r) (ka e)→cm+N=e.s.length →
      pFor (xp sp 133 38) "i2" (whB hdF) K (rangeL (cm:Int) 1 N) ⟨LF g rs i j r.c r.l ci cj fk (tlE k 0 cm e o),some (fsR r),g,H⟩
  | 0,cm,o,h1,h2=>by
    obtain ⟨e1,e2⟩:=scan_end (tsF r) (ka e) (by rw [ka_len];(exact ar_0b2i h1 h2))
    have:=hK o
    rw [e1,e2,ka_len,← h2,Nat.add_zero] at this
    exact this
  | N+1,cm,o,h1,h2=>by
    obtain ⟨A,B⟩:=scan_at (tsF r) (ka e) cm h1 (by rw [ka_len];(exact ar_arti h2))
    have tl:=tsF_len hp
    show pFor (xp sp 133 38) "i2" (whB hdF) K (.int (cm:Int)::rangeL ((cm:Int)+1) 1 N) _
    rw [l4F hg]
    obtain ⟨p1,p2,p3,p4⟩:=id hp
    by_cases hc:r.c+cm=r.l
    · rw [decide_eq_true hc]
      obtain ⟨e1,e2⟩:=A (by (exact ar_7d4h tl hc))
      have:=hK (some (.int (cm:Int)))
      rw [e1,e2] at this
      exact this
    · rw [decide_eq_false hc]
      have hcm:cm≤(tsF r).length:=Nat.le_trans h1 (lcp_le _ _).1
      have hlt:(cm:Int) < r.l - r.c:=by (exact ar_auz6 tl hc hcm)
      have hw:(r.c+cm).toNat < r.w.length:=by (exact ar_vw7a p1 p3 hlt)
      have hs:(cm:Int).toNat < e.s.length:=by (exact ar_okbm h2)
      refine ⟨by (exact ar_v8ga p1),by (exact ar_96tw p3 p4 hlt),_,List.getElem?_eq_getElem hw,_,rfl,by (exact ar_fpix),by (exact ar_uv81 he h2),_,List.getElem?_eq_getElem hs,_,rfl,?_⟩
      obtain ⟨B1,B2⟩:=B r.w[(r.c+cm).toNat] e.s[(cm:Int).toNat] (by rw [tsF_get hp];exact List.getElem?_eq_getElem hw) (by show e.s[cm]?=_;exact List.getElem?_eq_getElem hs)
      by_cases q:r.w[(r.c+cm).toNat]=e.s[(cm:Int).toNat]
      · have q':((r.w[(r.c+cm).toNat]:Nat):Int) - (e.s[(cm:Int).toNat]:Nat)=0:=by (exact ar_a44d q)
        rw [q',decide_eq_true rfl]
        have ih:=scanF hg hp he K hK N (cm+1) (some (.int (cm:Int))) (B2 q) (by (exact ar_vjh6 h2))
        have e2:((cm+1:Nat):Int)=(cm:Int)+1:=by (exact ar_g8t1)
        rw [e2] at ih
        exact ih
      · obtain ⟨e1,e2⟩:=B1 q
        rw [decide_eq_false (by (exact ar_gqpf q))]
        have:=hK (some (.int (cm:Int)))
        rw [e1,e2] at this
        exact this
theorem fin8F (hg:g=1∨g=2) (hT:goodTab ka rs=true) {cm:Int} {ts:List Nat} (h:back Q g H (.int (resOf (best ka ts rs))) { r with c:=r.c+lenOf (best ka ts rs) }) :
    ∀ (i:Nat) (e₀:Am) (e:Am),rs[i]?=some e₀→(∀ m∈rs,ka m <+: ts→ka m <+: ka e₀)→(∀ m∈rs,ka m <+: ka e₀→((m.s.length:Int)≤ci↔ka m <+: ts)) →
      ∃ n,Lp sp Q 133 8 n ⟨LF g rs i j r.c r.l ci cj fk (tlE k d cm e o),some (fsR r),g,H⟩:=by
  unfold goodTab at hT
  simp only [Bool.and_eq_true,decide_eq_true_eq] at hT
  obtain ⟨⟨⟨⟨t1,t2⟩,t3⟩,t4⟩,t5⟩:=hT
  intro i
  induction i using Nat.strongRecOn with
  | ind i ih=>
    intro e₀ e h₀ hA hB
    have hm₀:e₀∈rs:=List.mem_of_getElem? h₀
    have hi:i < rs.length:=(List.getElem?_eq_some_iff.mp h₀).1
    have hl₀:e₀.s.length≤100:=of_decide_eq_true (List.all_eq_true.mp t5 e₀ hm₀)
    have hbest:=best_is ka ts rs
    have hlink:=linksB_get t4 h₀
    rw [Nat.zero_add] at hlink
    have fill:∀ n,(match decide ((e₀.s.length:Int)≤ci) with
      | true=>e₀.s.length≤4000∧back Q g H (.int e₀.res) { r with c:=r.c+e₀.s.length }
      | false=>(match decide (e₀.sub < 0) with
        | true=>back Q g H (.int 0) r
        | false=>Lp sp Q 133 8 n ⟨LF g rs e₀.sub j r.c r.l ci cj fk (tlE k d cm e₀ o),some (fsR r),g,H⟩))→∃ n,Lp sp Q 133 8 n ⟨LF g rs i j r.c r.l ci cj fk (tlE k d cm e o),some (fsR r),g,H⟩:=fun n hn=>by
      refine ⟨n+1,?_⟩
      rw [l8F hg n []]
      exact ⟨by (exact ar_fpix),by (exact ar_kmh3 t2 hi),e₀,by rw [Int.toNat_natCast];exact h₀,by (exact ar_qpkv hl₀),hn⟩
    by_cases q:(e₀.s.length:Int)≤ci
    · refine fill 0 ?_
      rw [decide_eq_true q]
      refine ⟨by (exact ar_qpkv hl₀),?_⟩
      have hpre:ka e₀ <+: ts:=(hB e₀ hm₀ (List.prefix_refl _)).mp q
      cases hb:best ka ts rs with
      | none=>rw [hb] at hbest;exact absurd hpre (hbest e₀ hm₀)
      | some b=>
        rw [hb] at hbest h
        obtain ⟨b1,b2,b3⟩:=hbest
        obtain ⟨ib,hib⟩:=List.mem_iff_getElem?.mp b1
        have:b=e₀:=tab_uniq t3 hib h₀ (prefix_eq (hA b b1 b2) (b3 e₀ hm₀ hpre))
        subst this
        exact h
    · have hno:¬ ka e₀ <+: ts:=fun z=>q ((hB e₀ hm₀ (List.prefix_refl _)).mpr z)
      have proper:∀ m∈rs,ka m <+: ts→(ka m).length < (ka e₀).length:=fun m hm z=>by
        have:=(hA m hm z).length_le
        rcases Nat.lt_or_ge (ka m).length (ka e₀).length with y | y
        · exact y
        · exact absurd (prefix_eq (hA m hm z) y▸z) hno
      by_cases q2:e₀.sub < 0
      · refine fill 0 ?_
        rw [decide_eq_false q,decide_eq_true q2]
        cases hb:best ka ts rs with
        | none=>
          rw [hb] at h
          have e:r.c+lenOf none=r.c:=by show r.c+0=_;(exact ar_315b)
          rw [e] at h
          exact h
        | some b=>
          rw [hb] at hbest
          obtain ⟨b1,b2,b3⟩:=hbest
          unfold linkB at hlink
          split at hlink
          · rename_i s hs;rw [hs] at q2;exact absurd q2 (by simp)
          · have:=List.all_eq_true.mp hlink b b1
            rw [List.isPrefixOf_iff_prefix.mpr (hA b b1 b2),decide_eq_true (proper b b1 b2)] at this
            cases this
      · unfold linkB at hlink
        split at hlink
        · rename_i s hs
          split at hlink
          · rename_i b hb
            simp only [Bool.and_eq_true,decide_eq_true_eq] at hlink
            obtain ⟨⟨⟨l1,l2⟩,l3⟩,l4⟩:=hlink
            have l2':=List.isPrefixOf_iff_prefix.mp l2
            obtain ⟨n,hn⟩:=ih s l1 b e₀ hb (fun m hm z=>by
              have:=List.all_eq_true.mp l4 m hm
              rw [List.isPrefixOf_iff_prefix.mpr (hA m hm z),decide_eq_true (proper m hm z)] at this
              exact List.isPrefixOf_iff_prefix.mp (by simpa using this)) (fun m hm z=>hB m hm (z.trans l2'))
            refine fill n ?_
            rw [decide_eq_false q,decide_eq_false q2]
            have:e₀.sub=(s:Int):=hs
            rw [this]
            exact hn
          · cases hlink
        · rename_i s hs;rw [hs] at q2;exact absurd (Int.negSucc_lt_zero s) q2
end
section
variable {sp:SPK} {r:R9} {H:List AO} {Q:QT} {g:Nat} {rs:List Am}
theorem brk8F {n:Nat} {σ:St}:KF2 sp Q n .brk σ=∃ n,Lp sp Q 133 8 n σ:=by kernel_rfl
theorem loop7F (hg:g=1∨g=2) (hp:preF r) (hT:goodTab ka rs=true) (h:back Q g H (.int (resOf (best ka (tsF r) rs))) { r with c:=r.c+lenOf (best ka (tsF r) rs) }) :
    ∀ (μ i j ci cj:Nat) (fk:Bool),2 * (j - i)+(if fk then 0 else 1)=μ→i < j→j≤rs.length→LowOK ka (tsF r) rs i ci→UpOK ka (tsF r) rs j cj→(fk=true→i=0∧j=1)→(fk=false→i=0∨i+1 < j)→(i+1 < j∨i=0) →
      ∃ n,∀ tl,okTl tl→Lp sp Q 133 7 n ⟨LF g rs i j r.c r.l ci cj fk tl,some (fsR r),g,H⟩:=by
  have hT':=hT
  unfold goodTab at hT'
  simp only [Bool.and_eq_true,decide_eq_true_eq] at hT'
  obtain ⟨⟨⟨⟨t1,t2⟩,t3⟩,t4⟩,t5⟩:=hT'
  intro μ
  induction μ using Nat.strongRecOn with
  | ind μ ih=>
    intro i j ci cj fk hμ hij hjn hL hU hfk hfk2 hgo
    let m:=i+(j - i) / 2
    have hm1:i≤m:=by show i≤i+(j - i) / 2;(exact ar_3i68)
    have hm2:m < j:=by show i+(j - i) / 2 < j;(exact ar_eq0e hij)
    have hmid:mid (i:Int) (j:Int)=(m:Int):=by show (i:Int)+((j:Int) - i) / 2=((i+(j - i) / 2:Nat):Int);(exact ar_guig hij)
    have hmn:mn (ci:Int) (cj:Int)=((min ci cj:Nat):Int):=by show (if (cj:Int) < ci then (cj:Int) else ci)=_;split<;>(first | exact ar_ggxf (by assumption) | exact ar_jpmv (by assumption))
    have hmr:m < rs.length:=by (exact ar_7ftj hjn hm2)
    obtain ⟨e,he⟩:∃ e,rs[m]?=some e:=⟨_,List.getElem?_eq_getElem hmr⟩
    have hel:e.s.length≤100:=of_decide_eq_true (List.all_eq_true.mp t5 e (List.mem_of_getElem? he))
    have hcl:=common_le t3 hL hU hm1 hm2 he
    have hcl2:min ci cj≤e.s.length:=Nat.le_trans hcl (by have:=(lcp_le (tsF r) (ka e)).2;rwa [ka_len] at this)
    have goal:∃ n,∀ o',(afterK (xp sp 133 39) rsF (KF2 sp Q n)) .next ⟨LF g rs i j r.c r.l ci cj fk (tlE m (cmpL (tsF r) (ka e)) (lcp (tsF r) (ka e)) e o'),some (fsR r),g,H⟩:=by
      show ∃ n,∀ o',pSs (xp sp 133 39) rsF (KF2 sp Q n) _
      by_cases hd:cmpL (tsF r) (ka e) < 0
      · -- the text is less
        have hlt:=(cmpL_neg _ _).mp hd
        have hU':UpOK ka (tsF r) rs m (lcp (tsF r) (ka e)):=.inr ⟨e,he,hlt,rfl⟩
        by_cases hmi:m=i
        · -- only at the first place
          have hi0:i=0:=by
            rcases hgo with q | q
            · have:m=i+(j - i) / 2:=rfl
              (first | lia | omega)
            · exact q
          have hci:ci=0:=by
            rcases hL with ⟨_,q⟩ | ⟨x,hx,hx2,_⟩
            · exact q
            · rw [hmi] at he;rw [he] at hx;cases hx;rw [hlt] at hx2;cases hx2
          refine ⟨0,fun o'=>?_⟩
          rw [l5F hg,decide_eq_true hd]
          show tailF _ _ _ _ _ _ _
          unfold tailF
          rw [decide_eq_true (by (exact ar_vhwu hmi)),decide_eq_false (by (exact ar_da6k hi0)),decide_eq_true (by (exact ar_evqi hmi))]
          show KF2 sp Q 0 .brk _
          rw [brk8F]
          refine fin8F hg hT h i e e (hmi▸he) (fun x hx z=>?_) (fun x hx z=>?_)
          · obtain ⟨ix,hix⟩:=List.mem_iff_getElem?.mp hx
            exact (up_all t3 hU' (by (exact ar_c75k hmi hi0)) hix z).elim
          · obtain ⟨ix,hix⟩:=List.mem_iff_getElem?.mp hx
            constructor
            · intro q
              have:ka x=[]:=List.eq_nil_of_length_eq_zero (by rw [ka_len];(exact ar_cpmp hci q))
              rw [this];exact List.nil_prefix
            · intro z;exact (up_all t3 hU' (by (exact ar_c75k hmi hi0)) hix z).elim
        · by_cases hs:m≤i+1
          · -- j:=m=i+1
            by_cases hi0:i=0
            · -- the first place is still to be looked at
              cases fk with
              | true=>obtain ⟨_,q⟩:=hfk rfl;(exact (ar_3u5r hm1 hm2 hmi q).elim)
              | false=>
                obtain ⟨n,hn⟩:=ih (2 * (m - i)+0) (by rw [← hμ];simp;(first | lia | omega)) i m ci (lcp (tsF r) (ka e)) true (by simp) (by (exact ar_fk51 hm1 hmi)) (by (exact ar_65wq hmr)) hL hU' (fun _=>⟨hi0,by (exact ar_1d8q hmi hs hi0)⟩) (fun q=>by cases q) (.inr hi0)
                refine ⟨n,fun o'=>?_⟩
                rw [l5F hg,decide_eq_true hd]
                show tailF _ _ _ _ _ _ _
                unfold tailF
                rw [decide_eq_true (by (exact ar_skiv hs)),decide_eq_false (by (exact ar_da6k hi0)),decide_eq_false (by (exact ar_y178 hmi))]
                exact hn _ (.inr ⟨_,_,_,_,_,rfl⟩)
            · refine ⟨0,fun o'=>?_⟩
              rw [l5F hg,decide_eq_true hd]
              show tailF _ _ _ _ _ _ _
              unfold tailF
              rw [decide_eq_true (by (exact ar_skiv hs)),decide_eq_true (by (exact ar_j5y4 hi0))]
              show KF2 sp Q 0 .brk _
              rw [brk8F]
              rcases hL with ⟨q,_⟩ | ⟨x,hx,hx2,rfl⟩
              · exact absurd q hi0
              · exact fin8F hg hT h i x e hx (ends_A t3 hU' hs hx hx2) fun y hy z=>by
                  rw [← ka_len y]
                  constructor
                  · intro q;exact (prefix_lcp (tsF r) (ka x) (ka y) z).mp (by (exact ar_65cy q))
                  · intro q;have:=(prefix_lcp (tsF r) (ka x) (ka y) z).mpr q;(exact ar_oud8 this)
          · cases fk with
            | true=>obtain ⟨_,q⟩:=hfk rfl;(exact (ar_fxns hm2 hs q).elim)
            | false=>
              obtain ⟨n,hn⟩:=ih (2 * (m - i)+1) (by rw [← hμ];simp;(first | lia | omega)) i m ci (lcp (tsF r) (ka e)) false (by simp) (by (exact ar_rbgu hs)) (by (exact ar_65wq hmr)) hL hU' (fun q=>by cases q) (fun _=>.inr (by (exact ar_a9no hs))) (.inl (by (exact ar_a9no hs)))
              refine ⟨n,fun o'=>?_⟩
              rw [l5F hg,decide_eq_true hd]
              show tailF _ _ _ _ _ _ _
              unfold tailF
              rw [decide_eq_false (by (exact ar_x863 hs))]
              exact hn _ (.inr ⟨_,_,_,_,_,rfl⟩)
      · have hlt:lexLt (tsF r) (ka e)=false:=by
          cases q:lexLt (tsF r) (ka e) with
          | false=>rfl
          | true=>exact absurd ((cmpL_neg _ _).mpr q) hd
        have hL':LowOK ka (tsF r) rs m (lcp (tsF r) (ka e)):=.inr ⟨e,he,hlt,rfl⟩
        have stop:∀ o',∃ n,Lp sp Q 133 8 n ⟨LF g rs m j r.c r.l (lcp (tsF r) (ka e)) cj fk (tlE m (cmpL (tsF r) (ka e)) (lcp (tsF r) (ka e)) e o'),some (fsR r),g,H⟩∨¬ j≤m+1:=fun o'=>by
          by_cases q:j≤m+1
          · obtain ⟨n,hn⟩:=fin8F (j:=j) (ci:=(lcp (tsF r) (ka e):Nat)) (fk:=fk) (k:=m) (d:=cmpL (tsF r) (ka e)) (cm:=(lcp (tsF r) (ka e):Nat)) (o:=o') (cj:=cj) hg hT h m e e he (ends_A (i:=m) t3 hU q he hlt) (fun y hy z=>by
              rw [← ka_len y]
              constructor
              · intro q;exact (prefix_lcp (tsF r) (ka e) (ka y) z).mp (by (exact ar_65cy q))
              · intro q;have:=(prefix_lcp (tsF r) (ka e) (ka y) z).mpr q;(exact ar_oud8 this))
            exact ⟨n,.inl hn⟩
          · exact ⟨0,.inr q⟩
        by_cases hs:j≤m+1
        · have stop':∀ o',∃ n,Lp sp Q 133 8 n ⟨LF g rs m j r.c r.l (lcp (tsF r) (ka e)) cj fk (tlE m (cmpL (tsF r) (ka e)) (lcp (tsF r) (ka e)) e o'),some (fsR r),g,H⟩:=fun o'=>by
            obtain ⟨n,hn | hn⟩:=stop o'
            · exact ⟨n,hn⟩
            · exact absurd hs hn
          by_cases hm0:0 < m
          · refine ⟨0,fun o'=>?_⟩
            rw [l5F hg,decide_eq_false hd]
            show tailF _ _ _ _ _ _ _
            unfold tailF
            rw [decide_eq_true (by (exact ar_skiv hs)),decide_eq_true (by (exact ar_znwl hm0))]
            show KF2 sp Q 0 .brk _
            rw [brk8F];exact stop' o'
          · cases fk with
            | true=>
              refine ⟨0,fun o'=>?_⟩
              rw [l5F hg,decide_eq_false hd]
              show tailF _ _ _ _ _ _ _
              unfold tailF
              rw [decide_eq_true (by (exact ar_skiv hs)),decide_eq_false (by (exact ar_r285 hm0)),decide_eq_false (by (exact ar_ab82 hm2))]
              show KF2 sp Q 0 .brk _
              rw [brk8F];exact stop' o'
            | false=>
              obtain ⟨n,hn⟩:=ih (2 * (j - m)+0) (by rw [← hμ];simp;(exact ar_qi2h hij hs)) m j (lcp (tsF r) (ka e)) cj true (by simp) (by (exact hm2)) hjn hL' hU (fun _=>⟨by (exact ar_0uu2 hm0),by (exact ar_of4z hij hs hm0)⟩) (fun q=>by cases q) (.inr (by (exact ar_0uu2 hm0)))
              refine ⟨n,fun o'=>?_⟩
              rw [l5F hg,decide_eq_false hd]
              show tailF _ _ _ _ _ _ _
              unfold tailF
              rw [decide_eq_true (by (exact ar_skiv hs)),decide_eq_false (by (exact ar_r285 hm0)),decide_eq_false (by (exact ar_ab82 hm2))]
              exact hn _ (.inr ⟨_,_,_,_,_,rfl⟩)
        · cases fk with
          | true=>obtain ⟨_,q⟩:=hfk rfl;(exact (ar_ysyh hs q).elim)
          | false=>
            obtain ⟨n,hn⟩:=ih (2 * (j - m)+1) (by rw [← hμ];simp;(first | lia | omega)) m j (lcp (tsF r) (ka e)) cj false (by simp) hm2 hjn hL' hU (fun q=>by cases q) (fun _=>.inr (by (exact ar_a9no hs))) (.inl (by (exact ar_a9no hs)))
            refine ⟨n,fun o'=>?_⟩
            rw [l5F hg,decide_eq_false hd]
            show tailF _ _ _ _ _ _ _
            unfold tailF
            rw [decide_eq_false (by (exact ar_x863 hs))]
            exact hn _ (.inr ⟨_,_,_,_,_,rfl⟩)
    obtain ⟨n,hn⟩:=goal
    have hN:rangeN ((min ci cj:Nat):Int) (e.s.length:Int) 1=e.s.length - min ci cj:=by
      unfold rangeN;rw [if_pos rfl];(exact ar_134z)
    refine ⟨n+1,fun tl htl=>?_⟩
    rcases htl with rfl | ⟨k',d',cm',e',o',rfl⟩
    · rw [l7nF hg]
      refine ⟨rfl,by (exact ar_i7fx hij),by rw [hmid];(exact ar_fpix),by rw [hmid];(exact ar_kmh3 t2 hmr),e,by rw [hmid,Int.toNat_natCast];exact he,by (exact ar_qpkv hel),?_⟩
      rw [hmid,hmn,hN]
      exact ⟨⟨by (exact ar_0q4h),by (exact ar_fl16 hel hcl2),by (exact ar_sgxk),by (exact ar_dzfg hel)⟩,scanF hg hp hel _ hn _ _ none hcl (by (exact ar_7oea hcl2))⟩
    · rw [l7sF hg]
      refine ⟨rfl,by (exact ar_i7fx hij),by rw [hmid];(exact ar_fpix),by rw [hmid];(exact ar_kmh3 t2 hmr),e,by rw [hmid,Int.toNat_natCast];exact he,by (exact ar_qpkv hel),?_⟩
      rw [hmid,hmn,hN]
      exact ⟨⟨by (exact ar_0q4h),by (exact ar_fl16 hel hcl2),by (exact ar_sgxk),by (exact ar_dzfg hel)⟩,scanF hg hp hel _ hn _ _ o' hcl (by (exact ar_7oea hcl2))⟩
noncomputable def S133 (rs:List Am) (r:R9) (k:KT):Prop:=(preF r∧goodTab ka rs=true)∧k (.int (resOf (best ka (tsF r) rs))) { r with c:=r.c+lenOf (best ka (tsF r) rs) }
theorem b133 (hg:g=1∨g=2) (h:S133 rs r (back Q g H)):BodyOK T1 (spC sp) 133 [.self g,.tab rs] Q (some (fsR r)) g H:=by
  rw [e133 hg]
  obtain ⟨⟨hp,hT⟩,h⟩:=h
  have hT':=hT
  unfold goodTab at hT'
  simp only [Bool.and_eq_true,decide_eq_true_eq] at hT'
  obtain ⟨⟨⟨⟨t1,t2⟩,t3⟩,t4⟩,t5⟩:=hT'
  obtain ⟨n,hn⟩:=loop7F (sp:=sp) hg hp hT h _ 0 rs.length 0 0 false rfl t1 (Nat.le_refl _) (.inl ⟨rfl,rfl⟩) (.inl ⟨rfl,rfl⟩) (fun q=>by cases q) (fun _=>.inl rfl) (.inr rfl)
  exact ⟨rfl,by (exact ar_z7ij t2),n,hn [] (.inl rfl)⟩
end
end Mine

open PySem PySem.W PyProof.Rows PySem.Calls
set_option maxRecDepth 100000
set_option Elab.async false
set_option backward.match.sparseCases true
namespace Mine
noncomputable def S42 (x:List Nat) (r:R9) (k:KT):Prop:=x.length≤3000∧k .none { r with w:=x,c:=0,l:=x.length,lb:=0,bra:=0,ket:=x.length }
noncomputable abbrev SF (κ:Type):=List PV→R9→κ→Prop
noncomputable def lookP {κ:Type} (f:Addr) (l:List (Nat × SF κ)) (e:SF κ):SF κ:=match l with
  | []=>e
  | (n,F)::l=>bif Nat.beq f n then F else lookP f l e
noncomputable def AllP {κ:Type} (rest:List PV) (r:R9) (k:κ) (G:Nat→Prop) (l:List (Nat × SF κ)):Prop:=match l with
  | []=>True
  | (n,F)::l=>(F rest r k→G n)∧AllP rest r k G l
theorem AllP.nil {κ:Type} {rest:List PV} {r:R9} {k:κ} {G:Nat→Prop}:AllP rest r k G []:=trivial
theorem AllP.cons {κ:Type} {rest:List PV} {r:R9} {k:κ} {G:Nat→Prop} {n:Nat} {F:SF κ} {l:List (Nat × SF κ)} (a:F rest r k→G n) (b:AllP rest r k G l):AllP rest r k G ((n,F)::l):=⟨a,b⟩
theorem lookP_is {κ:Type} {rest:List PV} {r:R9} {k:κ} {f:Addr} {e:SF κ} (G:Nat→Prop) {l:List (Nat × SF κ)} (ha:AllP rest r k G l) (he:e rest r k→G f) (h:lookP f l e rest r k):G f:=by
  induction l with
  | nil=>exact he h
  | cons x l ih=>
    obtain ⟨n,F⟩:=x
    change (bif Nat.beq f n then F else lookP f l e) rest r k at h
    cases q:Nat.beq f n
    · rw [q] at h;exact ih ha.2 h
    · rw [q] at h;exact Nat.eq_of_beq_eq_true q▸ha.1 h
noncomputable def shV {κ:Type} (F:R9→κ→Prop):SF κ:=fun args r k=>oneP args fun p=>match p with | .vset=>F r k | _=>False
noncomputable def shX {κ:Type} (F:List Nat→R9→κ→Prop):SF κ:=fun args r k=>oneP args fun p=>txtP p fun x=>F x r k
noncomputable def shT {κ:Type} (F:List Am→R9→κ→Prop):SF κ:=fun args r k=>oneP args fun p=>match p with | .tab rs=>F rs r k | _=>False
noncomputable def shI {κ:Type} (F:Int→Int→List Nat→R9→κ→Prop):SF κ:=fun args r k=>match args with
  | a::b::rest=>numPP a b fun x y=>oneP rest fun p=>txtP p fun z=>F x y z r k
  | _=>False
noncomputable def sh0 {κ:Type} (F:R9→κ→Prop):SF κ:=fun args r k=>match args with
  | []=>F r k
  | _::_=>False
section
variable {κ:Type} {args:List PV} {r:R9} {k:κ} (G:List PV→Prop)
theorem shV_is {F:R9→κ→Prop} (h:shV F args r k) (b:F r k→G [.vset]):G args:=by
  obtain ⟨p,rfl,h⟩:=oneP_is h
  cases p<;>first | exact b h | exact h.elim
theorem shX_is {F:List Nat→R9→κ→Prop} (h:shX F args r k) (b:∀ x,F x r k→G [.str x]):G args:=by
  obtain ⟨p,rfl,h⟩:=oneP_is h
  obtain ⟨x,rfl,h⟩:=txtP_is h
  exact b x h
theorem shT_is {F:List Am→R9→κ→Prop} (h:shT F args r k) (b:∀ x,F x r k→G [.tab x]):G args:=by
  obtain ⟨p,rfl,h⟩:=oneP_is h
  cases p<;>first | exact b _ h | exact h.elim
theorem shI_is {F:Int→Int→List Nat→R9→κ→Prop} (h:shI F args r k) (b:∀ x y z,F x y z r k→G [.int x,.int y,.str z]):G args:=by
  rcases args with _ | ⟨p,_ | ⟨q,rest⟩⟩
  · exact h.elim
  · exact h.elim
  · obtain ⟨x,y,rfl,rfl,h⟩:=numPP_is h
    exact shX_is (fun l=>G (.int x::.int y::l)) h fun z=>b x y z
theorem sh0_is {F:R9→κ→Prop} (h:sh0 F args r k) (b:F r k→G []):G args:=by
  cases args
  · exact b h
  · exact h.elim
end
noncomputable def sp1:SPK:=fun f=>lookP f [(63,shV (S63 true)),(91,shV (S63 false)),(70,shV (S70 true)),(98,shV (S70 false)),(126,shX S126),(42,shX S42),(140,shT S140),(133,shT S133),(147,shI S147),(251,sh0 S251),(258,sh0 S258),
  (49,sh0 fun r k=>k (.str r.w) r)] fun _ _ _=>False
section
variable {sp:SPK} {r:R9} {H:List AO} {Q:QT} {g:Nat}
theorem dec_fs (r:R9):dec (some (fsR r))=some r:=by kernel_rfl
theorem spC_mk {f:Addr} {rest:List PV} (hg:g=1∨g=2) (h:sp f rest r (back Q g H)):spC sp f (.self g::rest) Q (some (fsR r)) g H:=by
  unfold spC
  rw [dec_fs]
  rcases hg with rfl | rfl<;>exact h
theorem b42 {x:List Nat} (hg:g=1∨g=2) (h:S42 x r (back Q g H)):BodyOK T1 (spC sp) 42 [.self g,.str x] Q (some (fsR r)) g H:=by
  have e:BodyOK T1 (spC sp) 42 [.self g,.str x] Q (some (fsR r)) g H=((2:Nat)=2∧x.length≤4000∧back Q g H .none { r with w:=x,c:=0,l:=x.length,lb:=0,bra:=0,ket:=x.length }):=by rcases hg with rfl | rfl<;>kernel_rfl
  rw [e];exact ⟨rfl,by have:=h.1;(exact ar_1mx0 this),h.2⟩
theorem b49 (hg:g=1∨g=2) (h:back Q g H (.str r.w) r):BodyOK T1 (spC sp) 49 [.self g] Q (some (fsR r)) g H:=by
  have e:BodyOK T1 (spC sp) 49 [.self g] Q (some (fsR r)) g H=((1:Nat)=1∧back Q g H (.str r.w) r):=by rcases hg with rfl | rfl<;>kernel_rfl
  rw [e];exact ⟨rfl,h⟩
noncomputable def sp0:SPK:=fun _ _ _ _=>False
theorem step1 (f:Addr) (args:List PV) (Q:QT) (S:Option Fs) (g:Nat) (H:List AO) (hh:spC sp1 f args Q S g H):spC sp0 f args Q S g H∨BodyOK T1 (spC sp0) f args Q S g H:=by
  obtain ⟨rest,r,rfl,hg,rfl,h⟩:=spC_is hh
  exact .inr (lookP_is (fun f=>BodyOK T1 (spC sp0) f (.self g::rest) Q (some (fsR r)) g H)
    (.cons (fun h=>shV_is (fun l=>BodyOK T1 (spC sp0) 63 (.self g::l) Q (some (fsR r)) g H) h (b63 hg)) <| .cons (fun h=>shV_is (fun l=>BodyOK T1 (spC sp0) 91 (.self g::l) Q (some (fsR r)) g H) h (b91 hg)) <|
      .cons (fun h=>shV_is (fun l=>BodyOK T1 (spC sp0) 70 (.self g::l) Q (some (fsR r)) g H) h (b70 hg)) <| .cons (fun h=>shV_is (fun l=>BodyOK T1 (spC sp0) 98 (.self g::l) Q (some (fsR r)) g H) h (b98 hg)) <|
      .cons (fun h=>shX_is (fun l=>BodyOK T1 (spC sp0) 126 (.self g::l) Q (some (fsR r)) g H) h fun _=>b126 hg) <| .cons (fun h=>shX_is (fun l=>BodyOK T1 (spC sp0) 42 (.self g::l) Q (some (fsR r)) g H) h fun _=>b42 hg) <|
      .cons (fun h=>shT_is (fun l=>BodyOK T1 (spC sp0) 140 (.self g::l) Q (some (fsR r)) g H) h fun _=>b140 hg) <| .cons (fun h=>shT_is (fun l=>BodyOK T1 (spC sp0) 133 (.self g::l) Q (some (fsR r)) g H) h fun _=>b133 hg) <|
      .cons (fun h=>shI_is (fun l=>BodyOK T1 (spC sp0) 147 (.self g::l) Q (some (fsR r)) g H) h fun _ _ _=>b147 hg) <| .cons (fun h=>sh0_is (fun l=>BodyOK T1 (spC sp0) 251 (.self g::l) Q (some (fsR r)) g H) h (b251 hg)) <|
      .cons (fun h=>sh0_is (fun l=>BodyOK T1 (spC sp0) 258 (.self g::l) Q (some (fsR r)) g H) h (b258 hg)) <| .cons (fun h=>sh0_is (fun l=>BodyOK T1 (spC sp0) 49 (.self g::l) Q (some (fsR r)) g H) h (b49 hg)) .nil) False.elim h)
noncomputable def rep (x:List Nat) (r:R9):R9:={ r with
  w:=r.w.take r.bra.toNat++x++r.w.drop r.ket.toNat
  c:=bif decide (r.ket≤r.c) then r.c+(x.length - (r.ket - r.bra)) else bif decide (r.bra < r.c) then r.bra else r.c
  l:=r.l+(x.length - (r.ket - r.bra))
  ket:=r.bra+x.length }
noncomputable def okRep (x:List Nat) (r:R9):Prop:=0≤r.bra∧r.bra≤r.ket∧r.ket≤r.l∧r.l=r.w.length∧r.l≤3000∧x.length≤100
noncomputable def S154 (x:List Nat) (r:R9) (k:KT):Prop:=okRep x r∧k .none (rep x r)
noncomputable def sp2:SPK:=fun f=>lookP f [(154,shX S154)] (sp1 f)
theorem b154 {x:List Nat} (hg:g=1∨g=2) (h:S154 x r (back Q g H)):BodyOK T1 (spC sp1) 154 [.self g,.str x] Q (some (fsR r)) g H:=by
  have e:BodyOK T1 (spC sp1) 154 [.self g,.str x] Q (some (fsR r)) g H=((2:Nat)=2∧decide (0≤r.bra)=true∧decide (r.bra≤r.ket)=true∧decide (r.ket≤r.l)=true∧r.w.length≤4000∧decide (r.l≤(r.w.length:Int))=true ∧
    S147 r.bra r.ket x r (fun v r'=>match v with
      | .int _=>x.length≤4000∧back Q g H .none { r' with ket:=r'.bra+x.length }
      | _=>False)):=by rcases hg with rfl | rfl<;>kernel_rfl
  rw [e]
  obtain ⟨⟨h1,h2,h3,h4,h5,h6⟩,h⟩:=h
  exact ⟨rfl,decide_eq_true h1,decide_eq_true h2,decide_eq_true h3,by (exact ar_93kk h4 h5),decide_eq_true (by (exact ar_rgjo h4)),⟨h1,h2,h3,h4,h5,h6⟩,by (exact ar_qpkv h6),h⟩
theorem step2 (f:Addr) (args:List PV) (Q:QT) (S:Option Fs) (g:Nat) (H:List AO) (hh:spC sp2 f args Q S g H):spC sp1 f args Q S g H∨BodyOK T1 (spC sp1) f args Q S g H:=by
  obtain ⟨rest,r,rfl,hg,rfl,h⟩:=spC_is hh
  exact lookP_is (fun f'=>spC sp1 f (.self g::rest) Q (some (fsR r)) g H∨BodyOK T1 (spC sp1) f' (.self g::rest) Q (some (fsR r)) g H)
    (.cons (fun h=>.inr (shX_is (fun l=>BodyOK T1 (spC sp1) 154 (.self g::l) Q (some (fsR r)) g H) h fun _=>b154 hg)) .nil) (fun h=>.inl (spC_mk hg h)) h
noncomputable def sp3:SPK:=fun f=>lookP f [(161,sh0 (S154 []))] (sp2 f)
theorem b161 (hg:g=1∨g=2) (h:S154 [] r (back Q g H)):BodyOK T1 (spC sp2) 161 [.self g] Q (some (fsR r)) g H:=by
  have e:BodyOK T1 (spC sp2) 161 [.self g] Q (some (fsR r)) g H=((1:Nat)=1∧S154 [] r (back Q g H)):=by rcases hg with rfl | rfl<;>kernel_rfl
  rw [e];exact ⟨rfl,h⟩
theorem step3 (f:Addr) (args:List PV) (Q:QT) (S:Option Fs) (g:Nat) (H:List AO) (hh:spC sp3 f args Q S g H):spC sp2 f args Q S g H∨BodyOK T1 (spC sp2) f args Q S g H:=by
  obtain ⟨rest,r,rfl,hg,rfl,h⟩:=spC_is hh
  exact lookP_is (fun f'=>spC sp2 f (.self g::rest) Q (some (fsR r)) g H∨BodyOK T1 (spC sp2) f' (.self g::rest) Q (some (fsR r)) g H)
    (.cons (fun h=>.inr (sh0_is (fun l=>BodyOK T1 (spC sp2) 161 (.self g::l) Q (some (fsR r)) g H) h (b161 hg))) .nil) (fun h=>.inl (spC_mk hg h)) h
end
end Mine

open PySem PySem.W PyProof.Rows PySem.Calls
set_option maxRecDepth 100000
set_option Elab.async false
set_option backward.match.sparseCases false
namespace Mine
noncomputable def At (n:Str):List Am:=tabP pw n
noncomputable def Tx (s:Str):List Nat:=s.cps.toList
noncomputable def uT (ch:Nat) (r:R9) (yes no:Prop):Prop:=match decide (r.c≤r.lb) with
  | true=>no
  | false=>0≤r.c - 1∧r.c - 1 < 4000∧∃ x,r.w[(r.c - 1).toNat]?=some x∧(match !decide ([x]=[ch]) with
    | true=>no
    | false=>yes)
noncomputable def onI (f:Int→R9→Prop):KT:=fun v r=>match v with
  | .int a=>f a r
  | _=>False
noncomputable def S265 (r:R9) (k:KT):Prop:=S140 (At "a_1") { r with ket:=r.c } <| onI fun a r=>match decide (a=0) with
  | true=>k (.bool false) r
  | false=>S140 (At "a_2") { r with bra:=r.c } <| onI fun a r=>match decide (a=0) with
    | true=>k (.bool false) r
    | false=>(match !decide (r.pV≤r.c) with
      | true=>k (.bool false) r
      | false=>(match decide (a=1) with
        | true=>S154 (Tx "iendo") { r with bra:=r.c } fun _ r=>k (.bool true) r
        | false=>(match decide (a=2) with
          | true=>S154 (Tx "ando") { r with bra:=r.c } fun _ r=>k (.bool true) r
          | false=>(match decide (a=3) with
            | true=>S154 (Tx "ar") { r with bra:=r.c } fun _ r=>k (.bool true) r
            | false=>(match decide (a=4) with
              | true=>S154 (Tx "er") { r with bra:=r.c } fun _ r=>k (.bool true) r
              | false=>(match decide (a=5) with
                | true=>S154 (Tx "ir") { r with bra:=r.c } fun _ r=>k (.bool true) r
                | false=>(match decide (a=6) with
                  | true=>S154 [] r fun _ r=>k (.bool true) r
                  | false=>uT 117 r (S154 [] { r with c:=r.c - 1 } fun _ r=>k (.bool true) r) (k (.bool false) r))))))))
noncomputable def S279 (r:R9) (k:KT):Prop:=match decide (r.c < r.pV) with
  | true=>k (.bool false) r
  | false=>S140 (At "a_7") { r with lb:=r.pV,ket:=r.c } <| onI fun a r1=>match decide (a=0) with
    | true=>k (.bool false) { r1 with lb:=r.lb }
    | false=>uT 117 { r1 with bra:=r1.c,lb:=r.lb } (S154 [] { r1 with bra:=r1.c,lb:=r.lb,c:=r1.c - 1 } fun _ r=>k (.bool true) r) (k (.bool false) { r1 with bra:=r1.c,lb:=r.lb })
noncomputable def S286 (r:R9) (k:KT):Prop:=match decide (r.c < r.pV) with
  | true=>k (.bool false) r
  | false=>S140 (At "a_8") { r with lb:=r.pV,ket:=r.c } <| onI fun a r1=>match decide (a=0) with
    | true=>k (.bool false) { r1 with lb:=r.lb }
    | false=>(match decide (a=1) with
      | true=>uT 117 { r1 with bra:=r1.c,lb:=r.lb }
          (uT 103 { r1 with bra:=r1.c,lb:=r.lb,c:=r1.c - 1 }
            (S154 [] { r1 with lb:=r.lb,c:=r1.l - (r1.l - (r1.c - 1)),bra:=r1.l - (r1.l - (r1.c - 1)) } fun _ r=>k (.bool true) r)
            (S154 [] { r1 with lb:=r.lb,c:=r1.l - (r1.l - r1.c),bra:=r1.l - (r1.l - r1.c) } fun _ r=>k (.bool true) r))
          (S154 [] { r1 with lb:=r.lb,c:=r1.l - (r1.l - r1.c),bra:=r1.l - (r1.l - r1.c) } fun _ r=>k (.bool true) r)
      | false=>S154 [] { r1 with bra:=r1.c,lb:=r.lb } fun _ r=>k (.bool true) r)
noncomputable def S293 (r:R9) (k:KT):Prop:=S140 (At "a_9") { r with ket:=r.c } <| onI fun a r=>match decide (a=0) with
  | true=>k (.bool false) r
  | false=>(match decide (a=1) with
    | true=>(match !decide (r.pV≤r.c) with
      | true=>k (.bool false) { r with bra:=r.c }
      | false=>S154 [] { r with bra:=r.c } fun _ r=>k (.bool true) r)
    | false=>(match !decide (r.pV≤r.c) with
      | true=>k (.bool false) { r with bra:=r.c }
      | false=>S154 [] { r with bra:=r.c } fun _ r=>uT 117 { r with ket:=r.c }
          (uT 103 { r with ket:=r.c,c:=r.c - 1,bra:=r.c - 1 }
            (match !decide (r.pV≤r.l - (r.l - (r.c - 1))) with
              | true=>k (.bool true) { r with ket:=r.c,bra:=r.c - 1,c:=r.l - (r.l - r.c) }
              | false=>S154 [] { r with ket:=r.c,bra:=r.c - 1,c:=r.l - (r.l - (r.c - 1)) } fun _ r=>k (.bool true) r)
            (k (.bool true) { r with ket:=r.c,bra:=r.c - 1,c:=r.l - (r.l - r.c) }))
          (k (.bool true) { r with ket:=r.c,c:=r.l - (r.l - r.c) })))
section
variable {r:R9} {H:List AO} {Q:QT} {g:Nat}
theorem e265 (hg:g=1∨g=2):BodyOK T1 (spC sp3) 265 [.self g] Q (some (fsR r)) g H=((1:Nat)=1∧S265 r (back Q g H)):=by rcases hg with rfl | rfl<;>kernel_rfl
theorem e279 (hg:g=1∨g=2):BodyOK T1 (spC sp3) 279 [.self g] Q (some (fsR r)) g H=((1:Nat)=1∧S279 r (back Q g H)):=by rcases hg with rfl | rfl<;>kernel_rfl
theorem e286 (hg:g=1∨g=2):BodyOK T1 (spC sp3) 286 [.self g] Q (some (fsR r)) g H=((1:Nat)=1∧S286 r (back Q g H)):=by rcases hg with rfl | rfl<;>kernel_rfl
theorem e293 (hg:g=1∨g=2):BodyOK T1 (spC sp3) 293 [.self g] Q (some (fsR r)) g H=((1:Nat)=1∧S293 r (back Q g H)):=by rcases hg with rfl | rfl<;>kernel_rfl
end
end Mine

open PySem PySem.W PyProof.Rows PySem.Calls
set_option maxRecDepth 100000
set_option Elab.async false
set_option backward.match.sparseCases false
namespace Mine
noncomputable def onB (f:Bool→R9→Prop):KT:=fun v r=>match v with
  | .bool b=>f b r
  | _=>False
noncomputable def M2 (v1:Int) (r:R9) (k:KT):Prop:=S70 false { r with c:=v1 } <| onB fun b r=>match !b with
  | true=>k (.bool true) { r with c:=v1 }
  | false=>S70 true { r with c:=r.c+1 } <| onB fun b r=>match !b with
    | true=>k (.bool true) { r with c:=v1 }
    | false=>S70 false { r with c:=r.c+1,p1:=r.c+1 } <| onB fun b r=>match !b with
      | true=>k (.bool true) { r with c:=v1 }
      | false=>S70 true { r with c:=r.c+1 } <| onB fun b r=>match !b with
        | true=>k (.bool true) { r with c:=v1 }
        | false=>k (.bool true) { r with c:=v1,p2:=r.c+1 }
noncomputable def Mg (v1:Int) (r:R9) (k:KT):Prop:=M2 v1 { r with c:=r.c+1,pV:=r.c+1 } k
noncomputable def Ma2 (v1 v4:Int) (r:R9) (k:KT):Prop:=S63 true { r with c:=v4 } <| onB fun b r=>match !b with
  | true=>M2 v1 r k
  | false=>(match decide (r.l≤r.c) with
    | true=>M2 v1 r k
    | false=>Mg v1 r k)
noncomputable def Ma (v1 v2:Int) (r:R9) (k:KT):Prop:=S63 false { r with c:=v2 } <| onB fun b r=>match !b with
  | true=>M2 v1 r k
  | false=>S63 false r <| onB fun b r'=>match !b with
    | true=>Ma2 v1 r.c r' k
    | false=>S70 false r' <| onB fun b r''=>match !b with
      | true=>Ma2 v1 r.c r'' k
      | false=>Mg v1 r'' k
noncomputable def Ma1 (v1 v2 v3:Int) (r:R9) (k:KT):Prop:=S63 true { r with c:=v3 } <| onB fun b r=>match !b with
  | true=>Ma v1 v2 r k
  | false=>S70 true r <| onB fun b r=>match !b with
    | true=>Ma v1 v2 r k
    | false=>Mg v1 r k
noncomputable def S237 (r:R9) (k:KT):Prop:=S63 true { r with pV:=r.l,p1:=r.l,p2:=r.l } <| onB fun b r1=>match !b with
  | true=>Ma r.c r.c r1 k
  | false=>S63 false r1 <| onB fun b r'=>match !b with
    | true=>Ma1 r.c r.c r1.c r' k
    | false=>S70 false r' <| onB fun b r''=>match !b with
      | true=>Ma1 r.c r.c r1.c r'' k
      | false=>Mg r.c r'' k
noncomputable def eqDel (x:List Nat) (r:R9) (v:Int) (k:KT):Prop:=S126 x { r with ket:=r.c } <| onB fun b r1=>match !b with
  | true=>k (.bool true) { r1 with c:=r1.l - v }
  | false=>(match !decide (r1.p2≤r1.c) with
    | true=>k (.bool true) { r1 with bra:=r1.c,c:=r1.l - v }
    | false=>S154 [] { r1 with bra:=r1.c } fun _ r=>k (.bool true) r)
noncomputable def tabDel (rs:List Am) (r:R9) (k:KT):Prop:=S140 rs { r with ket:=r.c } <| onI fun a r1=>match decide (a=0) with
  | true=>k (.bool true) { r1 with c:=r1.l - (r.l - r.c) }
  | false=>(match !decide (r1.p2≤r1.c) with
    | true=>k (.bool true) { r1 with bra:=r1.c,c:=r1.l - (r.l - r.c) }
    | false=>S154 [] { r1 with bra:=r1.c } fun _ r=>k (.bool true) r)
noncomputable def inR2 (r:R9) (no yes:Prop):Prop:=match !decide (r.p2≤r.c) with
  | true=>no
  | false=>yes
noncomputable def S272 (r:R9) (k:KT):Prop:=S140 (At "a_6") { r with ket:=r.c } <| onI fun a r=>match decide (a=0) with
  | true=>k (.bool false) r
  | false=>(fun r=>match decide (a=1) with
    | true=>inR2 r (k (.bool false) r) (S154 [] r fun _ r=>k (.bool true) r)
    | false=>(match decide (a=2) with
      | true=>inR2 r (k (.bool false) r) (S154 [] r fun _ r=>eqDel (Tx "ic") r (r.l - r.c) k)
      | false=>(match decide (a=3) with
        | true=>inR2 r (k (.bool false) r) (S154 (Tx "log") r fun _ r=>k (.bool true) r)
        | false=>(match decide (a=4) with
          | true=>inR2 r (k (.bool false) r) (S154 (Tx "u") r fun _ r=>k (.bool true) r)
          | false=>(match decide (a=5) with
            | true=>inR2 r (k (.bool false) r) (S154 (Tx "ente") r fun _ r=>k (.bool true) r)
            | false=>(match decide (a=6) with
              | true=>(match decide (r.c < r.p1) with
                | true=>k (.bool false) r
                | false=>S154 [] r fun _ r=>S140 (At "a_3") { r with ket:=r.c } <| onI fun a r1=>match decide (a=0) with
                  | true=>k (.bool true) { r1 with c:=r1.l - (r.l - r.c) }
                  | false=>(match !decide (r1.p2≤r1.c) with
                    | true=>k (.bool true) { r1 with bra:=r1.c,c:=r1.l - (r.l - r.c) }
                    | false=>S154 [] { r1 with bra:=r1.c } fun _ r2=>match decide (a=1) with
                      | true=>eqDel (Tx "at") r2 (r.l - r.c) k
                      | false=>k (.bool true) r2))
              | false=>(match decide (a=7) with
                | true=>inR2 r (k (.bool false) r) (S154 [] r fun _ r=>tabDel (At "a_4") r k)
                | false=>(match decide (a=8) with
                  | true=>inR2 r (k (.bool false) r) (S154 [] r fun _ r=>tabDel (At "a_5") r k)
                  | false=>inR2 r (k (.bool false) r) (S154 [] r fun _ r=>eqDel (Tx "at") r (r.l - r.c) k))))))))) { r with bra:=r.c }
section
variable {r:R9} {H:List AO} {Q:QT} {g:Nat}
theorem e237 (hg:g=1∨g=2):BodyOK T1 (spC sp3) 237 [.self g] Q (some (fsR r)) g H=((1:Nat)=1∧S237 r (back Q g H)):=by rcases hg with rfl | rfl<;>kernel_rfl
theorem e272 (hg:g=1∨g=2):BodyOK T1 (spC sp3) 272 [.self g] Q (some (fsR r)) g H=((1:Nat)=1∧S272 r (back Q g H)):=by rcases hg with rfl | rfl<;>kernel_rfl
end
end Mine

open PySem PySem.W PyProof.Rows PySem.Calls
set_option maxRecDepth 100000
set_option Elab.async false
set_option backward.match.sparseCases false
namespace Mine
noncomputable def nR (f:R9→Prop):KT:=fun v r=>match noRef v with
  | true=>f r
  | false=>False
section
variable {sp:SPK} {r:R9} {H:List AO} {Q:QT} {g:Nat}
noncomputable abbrev tlP (o:Option (Int × Int)):Fs:=match o with | none=>[] | some (a,b)=>[("v_1",.int a),("among_var",.int b)]
theorem e244 (hg:g=1∨g=2):BodyOK T1 (spC sp3) 244 [.self g] Q (some (fsR r)) g H=((1:Nat)=1∧∃ n,Lp sp3 Q 244 0 n ⟨("self",.self g)::tlP none,some (fsR r),g,H⟩):=by rcases hg with rfl | rfl<;>kernel_rfl
noncomputable abbrev nx (Q:QT) (g:Nat) (H:List AO) (n:Nat) (c a:Int) (r:R9):Prop:=Lp sp3 Q 244 0 n ⟨("self",.self g)::tlP (some (c,a)),some (fsR r),g,H⟩
theorem l244 (hg:g=1∨g=2) (n:Nat) (o:Option (Int × Int)):Lp sp3 Q 244 0 (n+1) ⟨("self",.self g)::tlP o,some (fsR r),g,H⟩=(S133 (At "a_0") { r with bra:=r.c } <| onI fun a r1=>match decide (a=1) with
    | true=>S154 (Tx "a") { r1 with ket:=r1.c } fun _ r'=>nx Q g H n r.c a r'
    | false=>(match decide (a=2) with
      | true=>S154 (Tx "e") { r1 with ket:=r1.c } fun _ r'=>nx Q g H n r.c a r'
      | false=>(match decide (a=3) with
        | true=>S154 (Tx "i") { r1 with ket:=r1.c } fun _ r'=>nx Q g H n r.c a r'
        | false=>(match decide (a=4) with
          | true=>S154 (Tx "o") { r1 with ket:=r1.c } fun _ r'=>nx Q g H n r.c a r'
          | false=>(match decide (a=5) with
            | true=>S154 (Tx "u") { r1 with ket:=r1.c } fun _ r'=>nx Q g H n r.c a r'
            | false=>(match decide (r1.l≤r1.c) with
              | true=>back Q g H (.bool true) { r1 with ket:=r1.c,c:=r.c }
              | false=>nx Q g H n r.c a { r1 with ket:=r1.c,c:=r1.c+1 })))))):=by rcases hg with rfl | rfl<;>rcases o with _ | ⟨a,b⟩<;>kernel_rfl
noncomputable def F300 (sp:SPK) (v2:Int) (r:R9) (k:KT):Prop:=sp 293 [] { r with c:=r.l - v2 } <| nR fun r=>sp 244 [] { r with c:=r.lb } <| nR fun r'=>k (.bool true) { r' with c:=r.lb }
noncomputable def S300 (sp:SPK) (r:R9) (k:KT):Prop:=sp 237 [] r <| nR fun r=>sp 265 [] { r with lb:=r.c,c:=r.l } <| nR fun r1=>
  sp 272 [] { r1 with c:=r1.l - (r.l - r.l) } <| onB fun b r2=>match !b with
    | false=>F300 sp (r1.l - (r1.l - (r.l - r.l))) r2 k
    | true=>sp 279 [] { r2 with c:=r2.l - (r1.l - (r1.l - (r.l - r.l))) } <| onB fun b r3=>match !b with
      | false=>F300 sp (r1.l - (r1.l - (r.l - r.l))) r3 k
      | true=>sp 286 [] { r3 with c:=r3.l - (r1.l - (r1.l - (r.l - r.l))) } <| onB fun b r4=>match !b with
        | true=>F300 sp (r1.l - (r1.l - (r.l - r.l))) r4 k
        | false=>F300 sp (r1.l - (r1.l - (r.l - r.l))) r4 k
theorem e300 (hg:g=1∨g=2):BodyOK T1 (spC sp) 300 [.self g] Q (some (fsR r)) g H=((1:Nat)=1∧S300 sp r (back Q g H)):=by rcases hg with rfl | rfl<;>kernel_rfl
noncomputable def S189 (sp:SPK) (x:List Nat) (r:R9) (k:KT):Prop:=sp 42 [.str x] r <| nR fun r=>sp 300 [] r <| nR fun r=>sp 49 [] r k
theorem e189 (hg:g=1∨g=2) {x:List Nat}:BodyOK T1 (spC sp) 189 [.self g,.str x] Q (some (fsR r)) g H=((2:Nat)=2∧S189 sp x r (back Q g H)):=by rcases hg with rfl | rfl<;>kernel_rfl
end
end Mine

open PySem PySem.W PyProof.Rows PySem.Calls
set_option maxRecDepth 100000
set_option Elab.async false
set_option backward.match.sparseCases false
namespace Mine
noncomputable def sfx (A:List Am) (w:List Nat):Option Am:=best kb w.reverse A
noncomputable def cutN (w:List Nat) (n:Nat):List Nat:=w.take (w.length - n)
noncomputable def att (pV:Int) (w:List Nat):List Nat:=match sfx (At "a_1") w with
  | none=>w
  | some e1=>(fun w1:List Nat=>match sfx (At "a_2") w1 with
    | none=>w
    | some e2=>(fun c:Nat=>bif decide (pV≤(c:Int)) then
        (bif decide (e2.res=1) then w.take c++Tx "iendo" else bif decide (e2.res=2) then w.take c++Tx "ando" else bif decide (e2.res=3) then w.take c++Tx "ar" else bif decide (e2.res=4) then w.take c++Tx "er" else bif decide (e2.res=5) then w.take c++Tx "ir"
          else bif decide (e2.res=6) then w1 else bif decide (w[c - 1]?=some 117∧0 < c) then w1 else w)
      else w) (w1.length - e2.s.length)) (cutN w e1.s.length)
noncomputable def Ini (r:R9):Prop:=r.lb=0∧r.c=r.l∧r.l=r.w.length∧r.w.length≤2900
structure Aft (r r':R9) (w':List Nat):Prop where
  w:r'.w=w'
  l:r'.l=(w'.length:Int)
  lb:r'.lb=0
  pV:r'.pV=r.pV
  p1:r'.p1=r.p1
  p2:r'.p2=r.p2
  c0:0≤r'.c
  c1:r'.c≤r'.l
  len:w'.length≤r.w.length+10
theorem tsB_lb0 {r:R9} (h:r.lb=0):tsB r=(r.w.take r.c.toNat).reverse:=by unfold tsB;rw [h];simp
theorem best_mem {kf:Am→List Nat} {t:List Nat} {rs:List Am} {e:Am} (h:best kf t rs=some e):e∈rs∧kf e <+: t:=by
  have:=best_is kf t rs
  rw [h] at this
  exact ⟨this.1,this.2.1⟩
theorem sfx_len {A:List Am} {w:List Nat} {e:Am} (h:sfx A w=some e):e∈A∧e.s.length≤w.length:=by
  obtain ⟨a,b⟩:=best_mem h
  have:=b.length_le
  rw [kb_len,List.length_reverse] at this
  exact ⟨a,this⟩
noncomputable def resOk (A:List Am):Bool:=A.all fun e=>!decide (e.res=0)
theorem resOk_get {A:List Am} (h:resOk A=true) {e:Am} (he:e∈A):e.res≠0:=by
  have:=List.all_eq_true.mp h e he
  simpa using this
theorem good1:goodTab kb (At "a_1")=true:=by kernel_rfl
theorem good2:goodTab kb (At "a_2")=true:=by kernel_rfl
theorem good3:goodTab kb (At "a_3")=true:=by kernel_rfl
theorem good4:goodTab kb (At "a_4")=true:=by kernel_rfl
theorem good5:goodTab kb (At "a_5")=true:=by kernel_rfl
theorem good6:goodTab kb (At "a_6")=true:=by kernel_rfl
theorem good7:goodTab kb (At "a_7")=true:=by kernel_rfl
theorem good8:goodTab kb (At "a_8")=true:=by kernel_rfl
theorem good9:goodTab kb (At "a_9")=true:=by kernel_rfl
theorem good0:goodTab ka (At "a_0")=true:=by kernel_rfl
theorem res1:resOk (At "a_1")=true:=by kernel_rfl
theorem res2:resOk (At "a_2")=true:=by kernel_rfl
theorem res3:resOk (At "a_3")=true:=by kernel_rfl
theorem res4:resOk (At "a_4")=true:=by kernel_rfl
theorem res5:resOk (At "a_5")=true:=by kernel_rfl
theorem res6:resOk (At "a_6")=true:=by kernel_rfl
theorem res7:resOk (At "a_7")=true:=by kernel_rfl
theorem res8:resOk (At "a_8")=true:=by kernel_rfl
theorem res9:resOk (At "a_9")=true:=by kernel_rfl
theorem fab {A:List Am} (hG:goodTab kb A=true) (hR:resOk A=true) {r:R9} {f:Int→R9→Prop} (h0:r.lb=0) (h1:0≤r.c) (h2:r.c≤r.w.length) (h3:r.w.length≤3000)
    (hn:sfx A (r.w.take r.c.toNat)=none→f 0 r)
    (hs:∀ e,sfx A (r.w.take r.c.toNat)=some e→e.res≠0→(e.s.length:Int)≤r.c→f e.res { r with c:=r.c - e.s.length }):S140 A r (onI f):=by
  refine ⟨⟨⟨by (exact ar_1sxu h0),by (exact ar_eh8h h0 h1),h2,h3⟩,hG⟩,?_⟩
  rw [tsB_lb0 h0]
  cases hb:best kb (r.w.take r.c.toNat).reverse A with
  | none=>
    have e:r.c - lenOf none=r.c:=by show r.c - 0=_;(exact ar_gszt)
    rw [e]
    exact hn hb
  | some e=>
    obtain ⟨a,b⟩:=sfx_len hb
    have:(e.s.length:Int)≤r.c:=by rw [List.length_take] at b;(exact ar_o091 h1 b)
    exact hs e hb (resOk_get hR a) this
theorem rep_to_end {x:List Nat} {r:R9} {k:KT} (hb:0≤r.bra) (hbk:r.bra≤r.ket) (hk:r.ket=r.l) (hl:r.l=r.w.length) (hw:r.w.length≤3000) (hx:x.length≤10) (hc0:0≤r.c) (hc:r.c≤r.l) (hlb:r.lb=0)
    (h:∀ r',Aft r r' (r.w.take r.bra.toNat++x)→k .none r'):S154 x r k:=by
  refine ⟨⟨hb,hbk,by (exact ar_wuya hk),hl,by (exact ar_jckz hl hw),by (exact ar_0l8s hx)⟩,h _ ?_⟩
  have hd:r.w.drop r.ket.toNat=[]:=List.drop_eq_nil_of_le (by (exact ar_jnt7 hk hl))
  refine ⟨?_,?_,hlb,rfl,rfl,rfl,?_,?_,?_⟩
  · show r.w.take r.bra.toNat++x++r.w.drop r.ket.toNat=_
    rw [hd,List.append_nil]
  · show r.l+(x.length - (r.ket - r.bra))=_
    simp;(exact ar_u8nn hb hbk hk hl)
  · show 0≤(bif decide (r.ket≤r.c) then r.c+((x.length:Int) - (r.ket - r.bra)) else bif decide (r.bra < r.c) then r.bra else r.c)
    cases q:decide (r.ket≤r.c)<;>cases q2:decide (r.bra < r.c)<;>simp at q q2 ⊢<;>(first | exact hc0 | exact hb | exact ar_uaqf hk hl q q2 | exact ar_0ma1 hb q)
  · show (bif decide (r.ket≤r.c) then r.c+((x.length:Int) - (r.ket - r.bra)) else bif decide (r.bra < r.c) then r.bra else r.c)≤r.l+((x.length:Int) - (r.ket - r.bra))
    cases q:decide (r.ket≤r.c)<;>cases q2:decide (r.bra < r.c)<;>simp at q q2 ⊢<;>(first | exact ar_c185 hk q2 | exact ar_zm3a hk | exact hc)
  · simp;(exact ar_vdn7 hx)
end Mine

open PySem PySem.W PyProof.Rows PySem.Calls
set_option maxRecDepth 100000
set_option Elab.async false
set_option backward.match.sparseCases false
namespace Mine
theorem uT_ok {ch:Nat} {r:R9} {yes no:Prop} (h0:r.lb=0) (h1:0≤r.c) (h2:r.c≤r.w.length) (h3:r.w.length≤3000) (hy:0 < r.c→r.w[(r.c - 1).toNat]?=some ch→yes) (hn:¬ (0 < r.c∧r.w[(r.c - 1).toNat]?=some ch)→no):uT ch r yes no:=by
  unfold uT
  by_cases q:r.c≤r.lb
  · rw [decide_eq_true q];exact hn fun z=>by (exact ar_osa0 h0 q z.1)
  · rw [decide_eq_false q]
    have hw:(r.c - 1).toNat < r.w.length:=by (exact ar_544o h0 h2 q)
    refine ⟨by (exact ar_ukxz h0 q),by (exact ar_ncbn h2 h3),_,List.getElem?_eq_getElem hw,?_⟩
    by_cases e:r.w[(r.c - 1).toNat]=ch
    · rw [decide_eq_true (by rw [e])]
      exact hy (by (exact ar_vh1v h0 q)) (by rw [List.getElem?_eq_getElem hw,e])
    · rw [decide_eq_false (by simpa using e)]
      exact hn fun z=>e (by have:=z.2;rw [List.getElem?_eq_getElem hw] at this;simpa using this)
theorem Aft.same {r r':R9} (h:Ini r) (hw:r'.w=r.w) (hl:r'.l=r.l) (hlb:r'.lb=0) (h1:r'.pV=r.pV) (h2:r'.p1=r.p1) (h3:r'.p2=r.p2) (c0:0≤r'.c) (c1:r'.c≤r'.l):Aft r r' r.w:=
  ⟨hw,by rw [hl];exact h.2.2.1,hlb,h1,h2,h3,c0,c1,by (exact ar_pl02)⟩
theorem Aft.of {r r1 r':R9} {w':List Nat} (a:Aft r1 r' w') (hw:r1.w=r.w) (h1:r1.pV=r.pV) (h2:r1.p1=r.p1) (h3:r1.p2=r.p2):Aft r r' w':=
  ⟨a.w,a.l,a.lb,a.pV.trans h1,a.p1.trans h2,a.p2.trans h3,a.c0,a.c1,by rw [← hw];exact a.len⟩
theorem f265 {r:R9} {k:KT} (h:Ini r) (hk:∀ b r',Aft r r' (att r.pV r.w)→k (.bool b) r'):S265 r k:=by
  obtain ⟨h1,h2,h3,h4⟩:=id h
  have hc:r.c.toNat=r.w.length:=by (exact ar_xv0d h2 h3)
  unfold S265
  refine fab good1 res1 h1 (by show 0≤r.c;(exact ar_8ltl h2 h3)) (by show r.c≤r.w.length;(exact ar_sa9s h2 h3)) (by show r.w.length≤3000;(exact ar_px36 h4)) (fun hn=>?_) fun e1 he1 ne1 le1=>?_
  · have hn':sfx (At "a_1") r.w=none:=by have:sfx (At "a_1") (r.w.take r.c.toNat)=none:=hn;rwa [hc,List.take_length] at this
    rw [decide_eq_true rfl]
    have:att r.pV r.w=r.w:=by unfold att;rw [hn']
    refine hk false _ ?_
    rw [this]
    exact Aft.same h rfl rfl h1 rfl rfl rfl (by show 0≤r.c;(exact ar_8ltl h2 h3)) (by show r.c≤r.l;(exact ar_wuya h2))
  · have he1':sfx (At "a_1") r.w=some e1:=by have:sfx (At "a_1") (r.w.take r.c.toNat)=some e1:=he1;rwa [hc,List.take_length] at this
    have le1':(e1.s.length:Int)≤r.c:=le1
    rw [decide_eq_false ne1]
    have w1e:r.w.take (r.c - e1.s.length).toNat=cutN r.w e1.s.length:=by unfold cutN;congr 1;(exact ar_e72g h2 h3)
    have w1l:(cutN r.w e1.s.length).length=r.w.length - e1.s.length:=by unfold cutN;simp
    refine fab good2 res2 h1 (by show 0≤r.c - e1.s.length;(exact ar_w18t le1')) (by show r.c - e1.s.length≤r.w.length;(exact ar_x96d h2 h3)) (by show r.w.length≤3000;(exact ar_px36 h4)) (fun hn=>?_) fun e2 he2 ne2 le2=>?_
    · have hn':sfx (At "a_2") (cutN r.w e1.s.length)=none:=by have:sfx (At "a_2") (r.w.take (r.c - e1.s.length).toNat)=none:=hn;rwa [w1e] at this
      rw [decide_eq_true rfl]
      have:att r.pV r.w=r.w:=by unfold att;rw [he1'];dsimp only;rw [hn']
      refine hk false _ ?_
      rw [this]
      exact Aft.same h rfl rfl h1 rfl rfl rfl (by show 0≤r.c - e1.s.length;(exact ar_w18t le1')) (by show r.c - e1.s.length≤r.l;(exact ar_yz1e h2))
    · have he2':sfx (At "a_2") (cutN r.w e1.s.length)=some e2:=by have:sfx (At "a_2") (r.w.take (r.c - e1.s.length).toNat)=some e2:=he2;rwa [w1e] at this
      have le2':(e2.s.length:Int)≤r.c - e1.s.length:=le2
      rw [decide_eq_false ne2]
      have hA:att r.pV r.w=(fun c:Nat=>bif decide (r.pV≤(c:Int)) then
        (bif decide (e2.res=1) then r.w.take c++Tx "iendo" else bif decide (e2.res=2) then r.w.take c++Tx "ando" else bif decide (e2.res=3) then r.w.take c++Tx "ar" else bif decide (e2.res=4) then r.w.take c++Tx "er" else bif decide (e2.res=5) then r.w.take c++Tx "ir"
          else bif decide (e2.res=6) then cutN r.w e1.s.length else bif decide (r.w[c - 1]?=some 117∧0 < c) then cutN r.w e1.s.length else r.w)
        else r.w) ((cutN r.w e1.s.length).length - e2.s.length):=by unfold att;rw [he1'];dsimp only;rw [he2']
      have hcc:((cutN r.w e1.s.length).length - e2.s.length:Nat)=(r.c - e1.s.length - e2.s.length).toNat:=by rw [w1l];(exact ar_t922 h2 h3)
      rw [hcc] at hA
      generalize hcd:(r.c - e1.s.length - e2.s.length:Int)=c at hA
      have c0:0≤c:=by (exact ar_bygi le2' hcd)
      have c1:c≤r.l:=by (exact ar_ccif h2 hcd)
      have cN:((c.toNat:Nat):Int)=c:=by (exact ar_ybyy le2' hcd)
      dsimp only at hA
      rw [cN] at hA
      dsimp only
      cases q:decide (r.pV≤c) with
      | false=>
        rw [q] at hA
        try dsimp only
        refine hk false _ ?_
        rw [hA]
        exact Aft.same h rfl rfl h1 rfl rfl rfl (by show 0≤c;(exact c0)) (by show c≤r.l;(exact c1))
      | true=>
        rw [q] at hA
        simp only [cond_true] at hA
        try dsimp only
        have put:∀ x:List Nat,x.length≤10→att r.pV r.w=r.w.take c.toNat++x→S154 x { r with ket:=r.c,bra:=c,c:=c } fun _ r=>k (.bool true) r:=fun x hx hA'=>by
          refine rep_to_end (by show 0≤c;(exact c0)) (by show c≤r.c;(exact ar_vp4o hcd)) h2 h3 (by show r.w.length≤3000;(exact ar_px36 h4)) hx (by show 0≤c;(exact c0)) (by show c≤r.l;(exact c1)) h1 fun r' a=>?_
          have a':Aft r r' (r.w.take (c).toNat++x):=a.of rfl rfl rfl rfl
          rw [← hA'] at a'
          exact hk true r' a'
        have del:∀ c':Int,0≤c'→c'≤r.l→att r.pV r.w=cutN r.w e1.s.length→S154 [] { r with ket:=r.c,bra:=r.c - e1.s.length,c:=c' } fun _ r=>k (.bool true) r:=fun c' d0 d1 hA'=>by
          refine rep_to_end (by show 0≤r.c - e1.s.length;(exact ar_w18t le1')) (by show r.c - e1.s.length≤r.c;(exact ar_rv58)) h2 h3 (by show r.w.length≤3000;(exact ar_px36 h4)) (by simp) d0 d1 h1 fun r' a=>?_
          have a':Aft r r' (r.w.take (r.c - e1.s.length).toNat++[]):=a.of rfl rfl rfl rfl
          rw [List.append_nil,w1e,← hA'] at a'
          exact hk true r' a'
        cases q1:decide (e2.res=1) with
        | true=>rw [q1] at hA;dsimp only;exact put (Tx "iendo") (by decide +kernel) hA
        | false=>
          rw [q1] at hA
          dsimp only
          cases q2:decide (e2.res=2) with
          | true=>rw [q2] at hA;dsimp only;exact put (Tx "ando") (by decide +kernel) hA
          | false=>
            rw [q2] at hA
            dsimp only
            cases q3:decide (e2.res=3) with
            | true=>rw [q3] at hA;dsimp only;exact put (Tx "ar") (by decide +kernel) hA
            | false=>
              rw [q3] at hA
              dsimp only
              cases q4:decide (e2.res=4) with
              | true=>rw [q4] at hA;dsimp only;exact put (Tx "er") (by decide +kernel) hA
              | false=>
                rw [q4] at hA
                dsimp only
                cases q5:decide (e2.res=5) with
                | true=>rw [q5] at hA;dsimp only;exact put (Tx "ir") (by decide +kernel) hA
                | false=>
                  rw [q5] at hA
                  dsimp only
                  cases q6:decide (e2.res=6) with
                  | true=>rw [q6] at hA;dsimp only;exact del _ (by (exact c0)) (by (exact c1)) hA
                  | false=>
                    rw [q6] at hA
                    dsimp only
                    simp only [cond_false] at hA
                    have hcm:(c - 1).toNat=c.toNat - 1:=by (exact ar_emsg)
                    refine uT_ok h1 (by show 0≤c;(exact c0)) (by show c≤r.w.length;(exact ar_jb27 h2 h3 hcd)) (by show r.w.length≤3000;(exact ar_px36 h4)) (fun y1 y2=>?_) (fun y=>?_)
                    · have y1':0 < c:=y1
                      have y2':r.w[(c - 1).toNat]?=some 117:=y2
                      rw [hcm] at y2'
                      rw [decide_eq_true ⟨y2',by (exact ar_po8a y1')⟩] at hA
                      exact del _ (by show 0≤c - 1;(exact ar_gj94 y1')) (by show c - 1≤r.l;(exact ar_siwi h2 hcd)) hA
                    · rw [decide_eq_false fun z=>y ⟨by show 0 < c;(exact ar_9jkl z.2),by show r.w[(c - 1).toNat]?=_;rw [hcm];exact z.1⟩] at hA
                      refine hk false _ ?_
                      rw [hA]
                      exact Aft.same h rfl rfl h1 rfl rfl rfl (by show 0≤c;(exact c0)) (by show c≤r.l;(exact c1))
end Mine

open PySem PySem.W PyProof.Rows PySem.Calls
set_option maxRecDepth 100000
set_option Elab.async false
set_option backward.match.sparseCases false
namespace Mine
noncomputable def res (pV:Int) (w:List Nat):List Nat:=match sfx (At "a_9") w with
  | none=>w
  | some e=>(fun c:Nat=>bif decide (pV≤(c:Int)) then (bif decide (e.res=1) then w.take c else
      bif decide (w[c - 1]?=some 117∧0 < c∧w[c - 2]?=some 103∧1 < c∧pV≤(c:Int) - 1) then w.take (c - 1) else w.take c) else w) (w.length - e.s.length)
theorem del_to_end {r:R9} {k:KT} (hb:0≤r.bra) (hbk:r.bra≤r.ket) (hk:r.ket=r.l) (hl:r.l=r.w.length) (hw:r.w.length≤3000) (hc0:0≤r.c) (hc:r.c≤r.bra) (hlb:r.lb=0)
    (h:∀ r',Aft r r' (r.w.take r.bra.toNat)→r'.c=r.c→k .none r'):S154 [] r k:=by
  have z:=rep_to_end (x:=[]) (r:=r) (k:=fun v r'=>v=.none∧Aft r r' (r.w.take r.bra.toNat)) hb hbk hk hl hw (by simp) hc0 (by (exact ar_joxf hbk hk hc)) hlb (fun r' a=>⟨rfl,by rw [List.append_nil] at a;exact a⟩)
  obtain ⟨z1,_,z2⟩:=z
  refine ⟨z1,h _ z2 ?_⟩
  show (bif decide (r.ket≤r.c) then r.c+((([]:List Nat).length:Int) - (r.ket - r.bra)) else bif decide (r.bra < r.c) then r.bra else r.c)=r.c
  cases q:decide (r.ket≤r.c)<;>cases q2:decide (r.bra < r.c)<;>simp at q q2 ⊢<;>(first | exact ar_hvqu hc q2 | exact ar_4u6s hbk hc q | exact ar_81ro hc q2)
theorem fabE {A:List Am} (hG:goodTab kb A=true) (hR:resOk A=true) {r:R9} {f:Int→R9→Prop} (h:Ini r)
    (hn:sfx A r.w=none→f 0 { r with ket:=r.c })
    (hs:∀ e,sfx A r.w=some e→e.res≠0→(e.s.length:Int)≤r.c→f e.res { r with ket:=r.c,c:=r.c - e.s.length }):S140 A { r with ket:=r.c } (onI f):=by
  obtain ⟨h1,h2,h3,h4⟩:=h
  have hc:r.w.take r.c.toNat=r.w:=List.take_of_length_le (by (exact ar_jnt7 h2 h3))
  refine fab hG hR h1 (by show 0≤r.c;(exact ar_8ltl h2 h3)) (by show r.c≤r.w.length;(exact ar_sa9s h2 h3)) (by show r.w.length≤3000;(exact ar_px36 h4)) (fun q=>hn ?_) fun e q=>hs e ?_
  · have q':sfx A (r.w.take r.c.toNat)=none:=q;rwa [hc] at q'
  · have q':sfx A (r.w.take r.c.toNat)=some e:=q;rwa [hc] at q'
theorem f293 {r:R9} {k:KT} (h:Ini r) (hk:∀ b r',Aft r r' (res r.pV r.w)→k (.bool b) r'):S293 r k:=by
  obtain ⟨h1,h2,h3,h4⟩:=id h
  unfold S293
  refine fabE good9 res9 h (fun hn=>?_) fun e he ne le=>?_
  · rw [decide_eq_true rfl]
    have hA:res r.pV r.w=r.w:=by unfold res;rw [hn]
    refine hk false _ ?_
    rw [hA]
    exact Aft.same h rfl rfl h1 rfl rfl rfl (by show 0≤r.c;(exact ar_8ltl h2 h3)) (by show r.c≤r.l;(exact ar_wuya h2))
  · rw [decide_eq_false ne]
    have hA:res r.pV r.w=(fun c:Nat=>bif decide (r.pV≤(c:Int)) then (bif decide (e.res=1) then r.w.take c else
      bif decide (r.w[c - 1]?=some 117∧0 < c∧r.w[c - 2]?=some 103∧1 < c∧r.pV≤(c:Int) - 1) then r.w.take (c - 1) else r.w.take c) else r.w) (r.w.length - e.s.length):=by unfold res;rw [he]
    have hcc:(r.w.length - e.s.length:Nat)=(r.c - e.s.length).toNat:=by (exact ar_911e h2 h3)
    rw [hcc] at hA
    dsimp only
    generalize hcd:(r.c - e.s.length:Int)=c at hA
    have c0:0≤c:=by (exact ar_5n7f le hcd)
    have c1:c≤r.l:=by (exact ar_a01v h2 hcd)
    have cN:((c.toNat:Nat):Int)=c:=by (exact ar_ngxl le hcd)
    dsimp only at hA
    rw [cN] at hA
    cases q:decide (r.pV≤c) with
    | false=>
      rw [q] at hA
      try dsimp only
      have:k (.bool false) { r with ket:=r.c,c:=c,bra:=c }:=by
        refine hk false _ ?_
        rw [hA]
        exact Aft.same h rfl rfl h1 rfl rfl rfl c0 c1
      cases decide (e.res=1)<;>exact this
    | true=>
      rw [q] at hA
      simp only [cond_true] at hA
      have cut:∀ (k':KT),(∀ r',Aft r r' (r.w.take c.toNat)→r'.c=c→k' .none r')→S154 [] { r with ket:=r.c,c:=c,bra:=c } k':=fun k' hk'=>
        del_to_end (by show 0≤c;(exact c0)) (by show c≤r.c;(exact ar_km2o hcd)) h2 h3 (by show r.w.length≤3000;(exact ar_px36 h4)) c0 (by show c≤c;(exact ar_da6f)) h1 fun r' a hc'=>hk' r' (a.of rfl rfl rfl rfl) hc'
      cases q1:decide (e.res=1) with
      | true=>
        rw [q1] at hA
        exact cut _ fun r' a _=>hk true r' (by rw [hA];exact a)
      | false=>
        rw [q1] at hA
        simp only [cond_false] at hA
        refine cut _ fun r' a hc'=>?_
        obtain ⟨a1,a2,a3,a4,a5,a6,a7,a8,a9⟩:=id a
        have wl:r'.w.length=c.toNat:=by rw [a1,List.length_take];(exact ar_lzqd h2 h3 hcd)
        have wl':(r'.w.length:Int)=c:=by (exact ar_corv cN wl)
        have rl:r'.l=c:=by rw [a2,List.length_take];(exact ar_skh5 h2 h3 hcd cN)
        have at1:∀ m:Nat,m < c.toNat→r'.w[m]?=r.w[m]?:=fun m hm=>by rw [a1,List.getElem?_take,if_pos hm]
        have keep:∀ r2:R9,r2.w=r'.w→r2.l=r'.l→r2.lb=r'.lb→r2.pV=r'.pV→r2.p1=r'.p1→r2.p2=r'.p2→r2.c=c→res r.pV r.w=r.w.take c.toNat→k (.bool true) r2:=fun r2 e1 e2 e3 e4 e5 e6 e7 hA'=>by
          refine hk true r2 ?_
          rw [hA']
          exact ⟨e1.trans a1,e2.trans a2,e3.trans a3,e4.trans a4,e5.trans a5,e6.trans a6,by (exact ar_swzv le hcd e7),by (exact ar_bk0j rl e2 e7),a9⟩
        refine uT_ok a3 (by show 0≤r'.c;(exact a7)) (by show r'.c≤r'.w.length;(exact ar_t7ek hc' wl)) (by show r'.w.length≤3000;(exact ar_8ylg h2 h3 h4 hcd wl)) (fun y1 y2=>?_) (fun y=>?_)
        · have y1':0 < r'.c:=y1
          have y2':r'.w[(r'.c - 1).toNat]?=some 117:=y2
          rw [at1 _ (by (exact ar_ho9y hc' y1'))] at y2'
          have i1:(r'.c - 1).toNat=c.toNat - 1:=by (exact ar_qc9e hc')
          rw [i1] at y2'
          refine uT_ok a3 (by show 0≤r'.c - 1;(exact ar_gj94 y1')) (by show r'.c - 1≤r'.w.length;(exact ar_t48n hc' wl)) (by show r'.w.length≤3000;(exact ar_8ylg h2 h3 h4 hcd wl)) (fun z1 z2=>?_) (fun z=>?_)
          · have z1':0 < r'.c - 1:=z1
            have z2':r'.w[(r'.c - 1 - 1).toNat]?=some 103:=z2
            rw [at1 _ (by (exact ar_lb0m hc' z1'))] at z2'
            have i2:(r'.c - 1 - 1).toNat=c.toNat - 2:=by (exact ar_m8q5 hc')
            rw [i2] at z2'
            show (match !decide (r'.pV≤r'.l - (r'.l - (r'.c - 1))) with | true=>_ | false=>_)
            have e1:r'.l - (r'.l - (r'.c - 1))=c - 1:=by (exact ar_747o hc')
            rw [e1]
            cases q2:decide (r'.pV≤c - 1) with
            | true=>
              rw [decide_eq_true ⟨y2',by (exact ar_m9le hc' z1'),z2',by (exact ar_0d55 hc' z1'),by have:=of_decide_eq_true q2;(exact ar_5c24 a4 this)⟩] at hA
              simp only [cond_true] at hA
              refine del_to_end (by show 0≤r'.c - 1;(exact ar_o442 z1')) (by show r'.c - 1≤r'.c;(exact ar_uged)) (by show r'.c=r'.l;(exact ar_e0vk hc' rl)) (by show r'.l=r'.w.length;(exact ar_aic0 cN wl rl)) (by show r'.w.length≤3000;(exact ar_8ylg h2 h3 h4 hcd wl)) (by show 0≤c - 1;(exact ar_23yf hc' z1')) (by show c - 1≤r'.c - 1;(exact ar_8bmu hc')) a3 fun r2 b hc2=>hk true r2 ?_
              rw [hA]
              have b':Aft r' r2 (r'.w.take (r'.c - 1).toNat):=b.of rfl rfl rfl rfl
              rw [i1,a1,List.take_take,Nat.min_eq_left (by (exact ar_hka3))] at b'
              exact ⟨b'.w,b'.l,b'.lb,b'.pV.trans a4,b'.p1.trans a5,b'.p2.trans a6,b'.c0,b'.c1,by rw [List.length_take];(exact ar_1xgd)⟩
            | false=>
              rw [decide_eq_false fun z=>by have:=of_decide_eq_false q2;(exact ar_p9ac a4 z.2.2.2.2 this)] at hA
              exact keep _ rfl rfl rfl rfl rfl rfl (by show r'.l - (r'.l - r'.c)=c;(exact ar_8gxc hc')) hA
          · rw [decide_eq_false fun x=>z ⟨by show 0 < r'.c - 1;(exact ar_7oz6 hc' x.2.2.2.1),by show r'.w[(r'.c - 1 - 1).toNat]?=some 103;rw [at1 _ (by (exact ar_xkx4 hc' x.2.1)),show (r'.c - 1 - 1).toNat=c.toNat - 2 by (exact ar_m8q5 hc')];exact x.2.2.1⟩] at hA
            exact keep _ rfl rfl rfl rfl rfl rfl (by show r'.l - (r'.l - r'.c)=c;(exact ar_8gxc hc')) hA
        · rw [decide_eq_false fun x=>y ⟨by show 0 < r'.c;(exact ar_q9nd hc' x.2.1),by show r'.w[(r'.c - 1).toNat]?=some 117;rw [at1 _ (by (exact ar_802z hc' x.2.1)),show (r'.c - 1).toNat=c.toNat - 1 by (exact ar_qc9e hc')];exact x.1⟩] at hA
          exact keep _ rfl rfl rfl rfl rfl rfl (by show r'.l - (r'.l - r'.c)=c;(exact ar_8gxc hc')) hA
end Mine

open PySem PySem.W PyProof.Rows PySem.Calls
set_option maxRecDepth 100000
set_option Elab.async false
set_option backward.match.sparseCases false
namespace Mine
noncomputable def yv (pV:Int) (w:List Nat):Option (List Nat):=bif decide ((w.length:Int) < pV) then none else match sfx (At "a_7") (w.drop pV.toNat) with
  | none=>none
  | some e=>(fun c:Nat=>bif decide (w[c - 1]?=some 117∧0 < c) then some (w.take c) else none) (w.length - e.s.length)
noncomputable def vb (pV:Int) (w:List Nat):Option (List Nat):=bif decide ((w.length:Int) < pV) then none else match sfx (At "a_8") (w.drop pV.toNat) with
  | none=>none
  | some e=>(fun c:Nat=>some (bif decide (e.res=1) then (bif decide (w[c - 1]?=some 117∧0 < c∧w[c - 2]?=some 103∧1 < c) then w.take (c - 1) else w.take c) else w.take c)) (w.length - e.s.length)
theorem fabV {A:List Am} (hG:goodTab kb A=true) (hR:resOk A=true) {r:R9} {f:Int→R9→Prop} (h:Ini r) (hp:0≤r.pV) (hpc:r.pV≤r.c)
    (hn:sfx A (r.w.drop r.pV.toNat)=none→f 0 { r with lb:=r.pV,ket:=r.c })
    (hs:∀ e,sfx A (r.w.drop r.pV.toNat)=some e→e.res≠0→(e.s.length:Int)≤r.c - r.pV→f e.res { r with lb:=r.pV,ket:=r.c,c:=r.c - e.s.length }):S140 A { r with lb:=r.pV,ket:=r.c } (onI f):=by
  obtain ⟨h1,h2,h3,h4⟩:=h
  refine ⟨⟨⟨hp,hpc,by show r.c≤r.w.length;(exact ar_sa9s h2 h3),by show r.w.length≤3000;(exact ar_px36 h4)⟩,hG⟩,?_⟩
  have e:tsB { r with lb:=r.pV,ket:=r.c }=(r.w.drop r.pV.toNat).reverse:=by
    show ((r.w.take r.c.toNat).drop r.pV.toNat).reverse=_
    rw [List.take_of_length_le (by (exact ar_jnt7 h2 h3))]
  rw [e]
  cases hb:best kb (r.w.drop r.pV.toNat).reverse A with
  | none=>
    have e:r.c - lenOf none=r.c:=by show r.c - 0=_;(exact ar_gszt)
    show f 0 { r with lb:=r.pV,ket:=r.c,c:=r.c - lenOf none }
    rw [e];exact hn hb
  | some e=>
    obtain ⟨a,b⟩:=sfx_len hb
    exact hs e hb (resOk_get hR a) (by rw [List.length_drop] at b;(exact ar_t1ve hpc h2 h3 b))
theorem f279 {r:R9} {k:KT} (h:Ini r) (hp:0≤r.pV) (hn:yv r.pV r.w=none→∀ r',Aft r r' r.w→k (.bool false) r') (hs:∀ w',yv r.pV r.w=some w'→∀ r',Aft r r' w'→k (.bool true) r'):S279 r k:=by
  obtain ⟨h1,h2,h3,h4⟩:=id h
  unfold S279
  have hY:yv r.pV r.w=bif decide (r.c < r.pV) then none else match sfx (At "a_7") (r.w.drop r.pV.toNat) with
    | none=>none
    | some e=>(fun c:Nat=>bif decide (r.w[c - 1]?=some 117∧0 < c) then some (r.w.take c) else none) (r.w.length - e.s.length):=by
    unfold yv;rw [show (r.w.length:Int)=r.c by (exact ar_fuqc h2 h3)]
  cases q:decide (r.c < r.pV) with
  | true=>
    rw [q] at hY
    exact hn hY _ (Aft.same h rfl rfl h1 rfl rfl rfl (by (exact ar_8ltl h2 h3)) (by (exact ar_wuya h2)))
  | false=>
    rw [q] at hY
    have q':=of_decide_eq_false q
    refine fabV good7 res7 h hp (by (exact ar_kljz q')) (fun hs7=>?_) fun e he ne le=>?_
    · rw [decide_eq_true rfl]
      rw [hs7] at hY
      exact hn hY _ (Aft.same h rfl rfl h1 rfl rfl rfl (by show 0≤r.c;(exact ar_8ltl h2 h3)) (by show r.c≤r.l;(exact ar_wuya h2)))
    · rw [decide_eq_false ne]
      rw [he] at hY
      have hcc:(r.w.length - e.s.length:Nat)=(r.c - e.s.length).toNat:=by (exact ar_911e h2 h3)
      dsimp only [cond_false] at hY
      rw [hcc] at hY
      dsimp only
      generalize hcd:(r.c - e.s.length:Int)=c at hY
      have c0:0≤c:=by (exact ar_u035 hp le hcd)
      have c1:c≤r.l:=by (exact ar_a01v h2 hcd)
      refine uT_ok h1 (by show 0≤c;exact c0) (by show c≤r.w.length;(exact ar_dlbk h2 h3 hcd)) (by show r.w.length≤3000;(exact ar_px36 h4)) (fun y1 y2=>?_) (fun y=>?_)
      · have y1':0 < c:=y1
        have y2':r.w[(c - 1).toNat]?=some 117:=y2
        rw [show (c - 1).toNat=c.toNat - 1 by (exact ar_emsg)] at y2'
        rw [decide_eq_true ⟨y2',by (exact ar_po8a y1')⟩] at hY
        exact del_to_end (by show 0≤c;exact c0) (by show c≤r.c;(exact ar_km2o hcd)) h2 h3 (by show r.w.length≤3000;(exact ar_px36 h4)) (by show 0≤c - 1;(exact ar_gj94 y1')) (by show c - 1≤c;(exact ar_uged)) h1 fun r' a _=>hs _ hY r' (a.of rfl rfl rfl rfl)
      · rw [decide_eq_false fun z=>y ⟨by show 0 < c;(exact ar_9jkl z.2),by show r.w[(c - 1).toNat]?=some 117;rw [show (c - 1).toNat=c.toNat - 1 by (exact ar_emsg)];exact z.1⟩] at hY
        exact hn hY _ (Aft.same h rfl rfl h1 rfl rfl rfl (by show 0≤c;(exact c0)) (by show c≤r.l;(exact c1)))
theorem f286 {r:R9} {k:KT} (h:Ini r) (hp:0≤r.pV) (hn:vb r.pV r.w=none→∀ r',Aft r r' r.w→k (.bool false) r') (hs:∀ w',vb r.pV r.w=some w'→∀ r',Aft r r' w'→k (.bool true) r'):S286 r k:=by
  obtain ⟨h1,h2,h3,h4⟩:=id h
  unfold S286
  have hY:vb r.pV r.w=bif decide (r.c < r.pV) then none else match sfx (At "a_8") (r.w.drop r.pV.toNat) with
    | none=>none
    | some e=>(fun c:Nat=>some (bif decide (e.res=1) then (bif decide (r.w[c - 1]?=some 117∧0 < c∧r.w[c - 2]?=some 103∧1 < c) then r.w.take (c - 1) else r.w.take c) else r.w.take c)) (r.w.length - e.s.length):=by
    unfold vb;rw [show (r.w.length:Int)=r.c by (exact ar_fuqc h2 h3)]
  cases q:decide (r.c < r.pV) with
  | true=>
    rw [q] at hY
    exact hn hY _ (Aft.same h rfl rfl h1 rfl rfl rfl (by (exact ar_8ltl h2 h3)) (by (exact ar_wuya h2)))
  | false=>
    rw [q] at hY
    have q':=of_decide_eq_false q
    refine fabV good8 res8 h hp (by (exact ar_kljz q')) (fun hs7=>?_) fun e he ne le=>?_
    · rw [decide_eq_true rfl]
      rw [hs7] at hY
      exact hn hY _ (Aft.same h rfl rfl h1 rfl rfl rfl (by show 0≤r.c;(exact ar_8ltl h2 h3)) (by show r.c≤r.l;(exact ar_wuya h2)))
    · rw [decide_eq_false ne]
      rw [he] at hY
      have hcc:(r.w.length - e.s.length:Nat)=(r.c - e.s.length).toNat:=by (exact ar_911e h2 h3)
      dsimp only [cond_false] at hY
      rw [hcc] at hY
      dsimp only
      generalize hcd:(r.c - e.s.length:Int)=c at hY
      have c0:0≤c:=by (exact ar_u035 hp le hcd)
      have c1:c≤r.l:=by (exact ar_a01v h2 hcd)
      have cut:∀ (b c':Int) (w':List Nat),0≤b→b≤c→c'=b→vb r.pV r.w=some (r.w.take b.toNat)→S154 [] { r with ket:=r.c,c:=c',bra:=b,lb:=r.lb } fun _ r=>k (.bool true) r:=fun b c' w' b0 b1 e hY'=>
        del_to_end (by show 0≤b;exact b0) (by show b≤r.c;(exact ar_ganx hcd b1)) h2 h3 (by show r.w.length≤3000;(exact ar_px36 h4)) (by show 0≤c';(exact ar_4pmj b0 e)) (by show c'≤b;(exact ar_wuya e)) h1 fun r' a _=>hs _ hY' r' (a.of rfl rfl rfl rfl)
      cases q1:decide (e.res=1) with
      | false=>
        rw [q1] at hY
        exact cut c c [] c0 (by (exact ar_da6f)) rfl hY
      | true=>
        rw [q1] at hY
        dsimp only [cond_true] at hY
        have ec:r.l - (r.l - c)=c:=by (exact ar_kjr5)
        have ec1:r.l - (r.l - (c - 1))=c - 1:=by (exact ar_rqly)
        dsimp only
        rw [ec,ec1]
        refine uT_ok h1 (by show 0≤c;exact c0) (by show c≤r.w.length;(exact ar_dlbk h2 h3 hcd)) (by show r.w.length≤3000;(exact ar_px36 h4)) (fun y1 y2=>?_) (fun y=>?_)
        · have y1':0 < c:=y1
          have y2':r.w[(c - 1).toNat]?=some 117:=y2
          rw [show (c - 1).toNat=c.toNat - 1 by (exact ar_emsg)] at y2'
          refine uT_ok h1 (by show 0≤c - 1;(exact ar_gj94 y1')) (by show c - 1≤r.w.length;(exact ar_y9kj h2 h3 hcd)) (by show r.w.length≤3000;(exact ar_px36 h4)) (fun z1 z2=>?_) (fun z=>?_)
          · have z1':0 < c - 1:=z1
            have z2':r.w[(c - 1 - 1).toNat]?=some 103:=z2
            rw [show (c - 1 - 1).toNat=c.toNat - 2 by (exact ar_uw65)] at z2'
            rw [decide_eq_true ⟨y2',by (exact ar_lkdc z1'),z2',by (exact ar_k5ok z1')⟩] at hY
            exact cut (c - 1) (c - 1) [] (by (exact ar_o442 z1')) (by (exact ar_uged)) rfl (by rw [show (c - 1).toNat=c.toNat - 1 by (exact ar_emsg)];exact hY)
          · rw [decide_eq_false fun x=>z ⟨by show 0 < c - 1;(exact ar_rcyr x.2.2.2),by show r.w[(c - 1 - 1).toNat]?=some 103;rw [show (c - 1 - 1).toNat=c.toNat - 2 by (exact ar_uw65)];exact x.2.2.1⟩] at hY
            exact cut c c [] c0 (by (exact ar_da6f)) rfl hY
        · rw [decide_eq_false fun x=>y ⟨by show 0 < c;(exact ar_9jkl x.2.1),by show r.w[(c - 1).toNat]?=some 117;rw [show (c - 1).toNat=c.toNat - 1 by (exact ar_emsg)];exact x.1⟩] at hY
          exact cut c c [] c0 (by (exact ar_da6f)) rfl hY
end Mine

open PySem PySem.W PyProof.Rows PySem.Calls
set_option maxRecDepth 100000
set_option Elab.async false
set_option backward.match.sparseCases false
namespace Mine
noncomputable def delS (x:List Nat) (p2:Int) (h:List Nat):List Nat:=bif x.isSuffixOf h&&decide (p2≤(h.length:Int) - x.length) then cutN h x.length else h
noncomputable def delT (A:List Am) (p2:Int) (h:List Nat):List Nat:=match sfx A h with
  | none=>h
  | some e=>bif decide (p2≤(h.length:Int) - e.s.length) then cutN h e.s.length else h
noncomputable def std6 (p2:Int) (h:List Nat):List Nat:=match sfx (At "a_3") h with
  | none=>h
  | some e=>bif decide (p2≤(h.length:Int) - e.s.length) then (bif decide (e.res=1) then delS (Tx "at") p2 (cutN h e.s.length) else cutN h e.s.length) else h
noncomputable def stdE (p1 p2:Int) (e:Am) (h:List Nat):Option (List Nat):=bif decide (e.res=6) then (bif decide ((h.length:Int) < p1) then none else some (std6 p2 h)) else bif decide (p2≤(h.length:Int)) then
    some (bif decide (e.res=1) then h else bif decide (e.res=2) then delS (Tx "ic") p2 h else bif decide (e.res=3) then h++Tx "log" else bif decide (e.res=4) then h++Tx "u" else bif decide (e.res=5) then h++Tx "ente"
      else bif decide (e.res=7) then delT (At "a_4") p2 h else bif decide (e.res=8) then delT (At "a_5") p2 h else delS (Tx "at") p2 h) else none
noncomputable def std (p1 p2:Int) (w:List Nat):Option (List Nat):=match sfx (At "a_6") w with
  | none=>none
  | some e=>stdE p1 p2 e (cutN w e.s.length)
theorem Ini.aft {r r':R9} {w':List Nat} (h:Ini r) (a:Aft r r' w') (hl:w'.length≤r.w.length) (hc:r'.c=(w'.length:Int)):Ini r':=by
  obtain ⟨h1,h2,h3,h4⟩:=h
  exact ⟨a.lb,by rw [hc,a.l],by rw [a.l,a.w],by rw [a.w];(exact ar_ajsp hl h4)⟩
theorem Aft.trans {r r1 r':R9} {w1 w':List Nat} (a:Aft r r1 w1) (b:Aft r1 r' w') (h:w1.length≤r.w.length):Aft r r' w':=
  ⟨b.w,b.l,b.lb,b.pV.trans a.pV,b.p1.trans a.p1,b.p2.trans a.p2,b.c0,b.c1,by have:=b.len;rw [a.w] at this;(exact ar_tahk h this)⟩
theorem cutN_take {w:List Nat} {n:Nat} {c:Int} (h:c=(w.length:Int) - n) (h0:0≤c):w.take c.toNat=cutN w n:=by unfold cutN;congr 1;(exact ar_6q2f h)
theorem cutN_len {w:List Nat} {n:Nat}:(cutN w n).length=w.length - n:=by unfold cutN;simp
theorem eqDel_ok {x:List Nat} {r:R9} {k:KT} (h:Ini r) (hx:x.length≤10) {v:Int} (hv:v=0) (hk:∀ r',Aft r r' (delS x r.p2 r.w)→k (.bool true) r'):eqDel x r v k:=by
  obtain ⟨h1,h2,h3,h4⟩:=id h
  subst hv
  unfold eqDel
  refine ⟨⟨by show r.w.length≤3000;(exact ar_px36 h4),by (exact ar_0l8s hx)⟩,?_⟩
  have es:slc r.w (some r.lb) (some r.c)=r.w:=by rw [h1,slc_take (by (exact ar_8ltl h2 h3)),List.take_of_length_le (by (exact ar_jnt7 h2 h3))]
  show onB _ (.bool (x.isSuffixOf (slc r.w (some r.lb) (some r.c)))) { r with ket:=r.c,c:=bif x.isSuffixOf (slc r.w (some r.lb) (some r.c)) then r.c - x.length else r.c }
  rw [es]
  cases q:x.isSuffixOf r.w with
  | false=>
    have hD:delS x r.p2 r.w=r.w:=by unfold delS;rw [q];rfl
    refine hk _ ?_
    rw [hD]
    exact Aft.same h rfl rfl h1 rfl rfl rfl (by show 0≤r.l - 0;(exact ar_var0 h3)) (by show r.l - 0≤r.l;(exact ar_ox3x))
  | true=>
    have hle:x.length≤r.w.length:=(List.isSuffixOf_iff_suffix.mp q).length_le
    show (match !decide (r.p2≤r.c - x.length) with | true=>_ | false=>_)
    cases q2:decide (r.p2≤r.c - x.length) with
    | false=>
      have hD:delS x r.p2 r.w=r.w:=by unfold delS;rw [q,show (r.w.length:Int)=r.c by (exact ar_fuqc h2 h3),q2];rfl
      refine hk _ ?_
      rw [hD]
      exact Aft.same h rfl rfl h1 rfl rfl rfl (by show 0≤r.l - 0;(exact ar_var0 h3)) (by show r.l - 0≤r.l;(exact ar_ox3x))
    | true=>
      have hD:delS x r.p2 r.w=cutN r.w x.length:=by unfold delS;rw [q,show (r.w.length:Int)=r.c by (exact ar_fuqc h2 h3),q2];rfl
      refine del_to_end (by show 0≤r.c - x.length;(exact ar_ombx h2 h3 hle)) (by show r.c - x.length≤r.c;(exact ar_rv58)) h2 h3 (by show r.w.length≤3000;(exact ar_px36 h4)) (by show 0≤r.c - x.length;(exact ar_ombx h2 h3 hle)) (by show r.c - x.length≤r.c - x.length;(exact ar_idrr)) h1 fun r' a _=>hk r' ?_
      rw [hD]
      have a':Aft r r' (r.w.take (r.c - x.length).toNat):=a.of rfl rfl rfl rfl
      rwa [cutN_take (n:=x.length) (by (exact ar_rsfb h2 h3)) (by (exact ar_ombx h2 h3 hle))] at a'
theorem tabDel_ok {A:List Am} (hG:goodTab kb A=true) (hR:resOk A=true) {r:R9} {k:KT} (h:Ini r) (hk:∀ r',Aft r r' (delT A r.p2 r.w)→k (.bool true) r'):tabDel A r k:=by
  obtain ⟨h1,h2,h3,h4⟩:=id h
  unfold tabDel
  refine fabE hG hR h (fun hn=>?_) fun e he ne le=>?_
  · rw [decide_eq_true rfl]
    have hD:delT A r.p2 r.w=r.w:=by unfold delT;rw [hn]
    refine hk _ ?_
    rw [hD]
    exact Aft.same h rfl rfl h1 rfl rfl rfl (by show 0≤r.l - (r.l - r.c);(exact ar_xn3h h2 h3)) (by show r.l - (r.l - r.c)≤r.l;(exact ar_130w h2))
  · rw [decide_eq_false ne]
    show (match !decide (r.p2≤r.c - e.s.length) with | true=>_ | false=>_)
    cases q2:decide (r.p2≤r.c - e.s.length) with
    | false=>
      have hD:delT A r.p2 r.w=r.w:=by unfold delT;rw [he];dsimp only;rw [show (r.w.length:Int)=r.c by (exact ar_fuqc h2 h3),q2];rfl
      refine hk _ ?_
      rw [hD]
      exact Aft.same h rfl rfl h1 rfl rfl rfl (by show 0≤r.l - (r.l - r.c);(exact ar_xn3h h2 h3)) (by show r.l - (r.l - r.c)≤r.l;(exact ar_130w h2))
    | true=>
      have hD:delT A r.p2 r.w=cutN r.w e.s.length:=by unfold delT;rw [he];dsimp only;rw [show (r.w.length:Int)=r.c by (exact ar_fuqc h2 h3),q2];rfl
      refine del_to_end (by show 0≤r.c - e.s.length;(exact ar_w18t le)) (by show r.c - e.s.length≤r.c;(exact ar_rv58)) h2 h3 (by show r.w.length≤3000;(exact ar_px36 h4)) (by show 0≤r.c - e.s.length;(exact ar_w18t le)) (by show r.c - e.s.length≤r.c - e.s.length;(exact ar_idrr)) h1 fun r' a _=>hk r' ?_
      rw [hD]
      have a':Aft r r' (r.w.take (r.c - e.s.length).toNat):=a.of rfl rfl rfl rfl
      rwa [cutN_take (n:=e.s.length) (by (exact ar_rsfb h2 h3)) (by (exact ar_w18t le))] at a'
theorem onTF {b:Bool} {P Q:Prop} (h1:b=true→P) (h2:b=false→Q):(match (generalizing:=false) b with | true=>P | false=>Q):=by
  cases b
  · exact h2 rfl
  · exact h1 rfl
theorem f272 {r:R9} {k:KT} (h:Ini r) (hn:std r.p1 r.p2 r.w=none→∀ r',Aft r r' r.w→k (.bool false) r') (hs:∀ w',std r.p1 r.p2 r.w=some w'→∀ r',Aft r r' w'→k (.bool true) r'):S272 r k:=by
  obtain ⟨h1,h2,h3,h4⟩:=id h
  unfold S272
  refine fabE good6 res6 h (fun h6=>?_) fun e he ne le=>?_
  · rw [decide_eq_true rfl]
    have hY:std r.p1 r.p2 r.w=none:=by unfold std;rw [h6]
    exact hn hY _ (Aft.same h rfl rfl h1 rfl rfl rfl (by show 0≤r.c;(exact ar_8ltl h2 h3)) (by show r.c≤r.l;(exact ar_wuya h2)))
  · rw [decide_eq_false ne]
    have hY:std r.p1 r.p2 r.w=stdE r.p1 r.p2 e (cutN r.w e.s.length):=by unfold std;rw [he]
    have hl:((cutN r.w e.s.length).length:Int)=r.c - e.s.length:=by rw [cutN_len];(exact ar_a1ta h2 h3 le)
    have ht:r.w.take (r.c - e.s.length).toNat=cutN r.w e.s.length:=cutN_take (by (exact ar_rsfb h2 h3)) (by (exact ar_w18t le))
    have hcl:(cutN r.w e.s.length).length≤r.w.length:=by rw [cutN_len];(exact ar_fjln)
    unfold stdE at hY
    dsimp only
    generalize hcd:(r.c - e.s.length:Int)=c at hl ht
    rw [hl] at hY
    have c0:0≤c:=by (exact ar_5n7f le hcd)
    have c1:c≤r.l:=by (exact ar_a01v h2 hcd)
    generalize hh:cutN r.w e.s.length=hw at hY ht hl hcl
    have no:std r.p1 r.p2 r.w=none→k (.bool false) { r with ket:=r.c,c:=c,bra:=c }:=fun z=>hn z _ (Aft.same h rfl rfl h1 rfl rfl rfl c0 c1)
    have del:∀ (k':KT),(∀ r',Ini r'→Aft r r' hw→k' .none r')→S154 [] { r with ket:=r.c,c:=c,bra:=c } k':=fun k' hk'=>
      del_to_end (by show 0≤c;exact c0) (by show c≤r.c;(exact ar_km2o hcd)) h2 h3 (by show r.w.length≤3000;(exact ar_px36 h4)) c0 (by show c≤c;(exact ar_da6f)) h1 fun r' a hc'=>by
        have a':Aft r r' (r.w.take c.toNat):=a.of rfl rfl rfl rfl
        rw [ht] at a'
        exact hk' r' (h.aft a' hcl (by rw [hc'];exact hl.symm)) a'
    have put:∀ x:List Nat,x.length≤10→std r.p1 r.p2 r.w=some (hw++x)→S154 x { r with ket:=r.c,c:=c,bra:=c } fun _ r=>k (.bool true) r:=fun x hx hx'=>
      rep_to_end (by show 0≤c;exact c0) (by show c≤r.c;(exact ar_km2o hcd)) h2 h3 (by show r.w.length≤3000;(exact ar_px36 h4)) hx c0 (by show c≤r.l;exact c1) h1 fun r' a=>by
        have a':Aft r r' (r.w.take c.toNat++x):=a.of rfl rfl rfl rfl
        rw [ht] at a'
        exact hs _ hx' r' a'
    have reg:∀ yes:Prop,e.res≠6→(r.p2≤c→yes)→inR2 { r with ket:=r.c,c:=c,bra:=c } (k (.bool false) { r with ket:=r.c,c:=c,bra:=c }) yes:=fun yes n6 y=>by
      show (match !decide (r.p2≤c) with | true=>_ | false=>_)
      cases q:decide (r.p2≤c) with
      | false=>
        rw [decide_eq_false n6,q] at hY
        exact no hY
      | true=>exact y (of_decide_eq_true q)
    have fin:∀ x:List Nat,e.res≠6→r.p2≤c→(bif decide (e.res=1) then hw else bif decide (e.res=2) then delS (Tx "ic") r.p2 hw else bif decide (e.res=3) then hw++Tx "log" else bif decide (e.res=4) then hw++Tx "u" else bif decide (e.res=5) then hw++Tx "ente"
      else bif decide (e.res=7) then delT (At "a_4") r.p2 hw else bif decide (e.res=8) then delT (At "a_5") r.p2 hw else delS (Tx "at") r.p2 hw)=x→std r.p1 r.p2 r.w=some x:=fun x n6 y z=>by
      rw [hY,decide_eq_false n6,decide_eq_true y,← z];rfl
    have after:∀ r':R9,Aft r r' hw→∀ (w':List Nat) (r2:R9),Aft r' r2 w'→std r.p1 r.p2 r.w=some w'→k (.bool true) r2:=fun r' a w' r2 b z=>hs w' z r2 (a.trans b hcl)
    refine onTF (fun q1=>?_) fun q1=>?_
    · have e1:=of_decide_eq_true q1
      exact reg _ (by (exact ar_2n2l e1)) fun y=>del _ fun r' _ a=>hs _ (fin hw (by (exact ar_2n2l e1)) y (by rw [q1];rfl)) r' a
    refine onTF (fun q2=>?_) fun q2=>?_
    · have e1:=of_decide_eq_true q2
      exact reg _ (by (exact ar_yr2p e1)) fun y=>del _ fun r' i a=>eqDel_ok i (by decide +kernel) (by have:=i.2.1;(exact ar_loau this)) fun r2 b=>after r' a (delS (Tx "ic") r.p2 hw) r2 (by rw [a.w,a.p2] at b;exact b) (fin _ (by (exact ar_yr2p e1)) y (by rw [q1,q2];rfl))
    refine onTF (fun q3=>?_) fun q3=>?_
    · have e1:=of_decide_eq_true q3
      exact reg _ (by (exact ar_x8ac e1)) fun y=>put _ (by decide +kernel) (fin _ (by (exact ar_x8ac e1)) y (by rw [q1,q2,q3];rfl))
    refine onTF (fun q4=>?_) fun q4=>?_
    · have e1:=of_decide_eq_true q4
      exact reg _ (by (exact ar_cxau e1)) fun y=>put _ (by decide +kernel) (fin _ (by (exact ar_cxau e1)) y (by rw [q1,q2,q3,q4];rfl))
    refine onTF (fun q5=>?_) fun q5=>?_
    · have e1:=of_decide_eq_true q5
      exact reg _ (by (exact ar_kge1 e1)) fun y=>put _ (by decide +kernel) (fin _ (by (exact ar_kge1 e1)) y (by rw [q1,q2,q3,q4,q5];rfl))
    refine onTF (fun q6=>?_) fun q6=>?_
    · rw [q6] at hY
      dsimp only [cond_true] at hY
      cases qc:decide (c < r.p1) with
      | true=>rw [qc] at hY;exact no hY
      | false=>
        rw [qc] at hY
        dsimp only [cond_false] at hY
        refine del _ fun r' i a=>?_
        obtain ⟨i1,i2,i3,i4⟩:=id i
        have hw':r'.w=hw:=a.w
        have hl':(hw.length:Int)=r'.c:=by rw [← hw'];(exact ar_fuqc i2 i3)
        refine fabE good3 res3 i (fun h3'=>?_) fun e3 he3 ne3 le3=>?_
        · rw [decide_eq_true rfl]
          have hX:std6 r.p2 hw=hw:=by unfold std6;rw [← hw',h3']
          rw [hX] at hY
          exact after r' a hw _ (by rw [← hw'];exact Aft.same i rfl rfl i1 rfl rfl rfl (by show 0≤r'.l - (r'.l - r'.c);(exact ar_xn3h i2 i3)) (by show r'.l - (r'.l - r'.c)≤r'.l;(exact ar_130w i2))) hY
        · rw [decide_eq_false ne3]
          rw [hw'] at he3
          have hX:std6 r.p2 hw=bif decide (r'.p2≤r'.c - e3.s.length) then (bif decide (e3.res=1) then delS (Tx "at") r.p2 (cutN hw e3.s.length) else cutN hw e3.s.length) else hw:=by
            unfold std6;rw [he3];dsimp only;rw [hl',a.p2]
          show (match !decide (r'.p2≤r'.c - e3.s.length) with | true=>_ | false=>_)
          cases qp:decide (r'.p2≤r'.c - e3.s.length) with
          | false=>
            rw [qp] at hX
            rw [hX] at hY
            exact after r' a hw _ (by rw [← hw'];exact Aft.same i rfl rfl i1 rfl rfl rfl (by show 0≤r'.l - (r'.l - r'.c);(exact ar_xn3h i2 i3)) (by show r'.l - (r'.l - r'.c)≤r'.l;(exact ar_130w i2))) hY
          | true=>
            rw [qp] at hX
            dsimp only [cond_true] at hX
            rw [hX] at hY
            refine del_to_end (by show 0≤r'.c - e3.s.length;(exact ar_w18t le3)) (by show r'.c - e3.s.length≤r'.c;(exact ar_rv58)) i2 i3 (by show r'.w.length≤3000;(exact ar_px36 i4)) (by show 0≤r'.c - e3.s.length;(exact ar_w18t le3)) (by show r'.c - e3.s.length≤r'.c - e3.s.length;(exact ar_idrr)) i1 fun r2 b hc2=>?_
            have b':Aft r' r2 (r'.w.take (r'.c - e3.s.length).toNat):=b.of rfl rfl rfl rfl
            rw [cutN_take (n:=e3.s.length) (by (exact ar_rsfb i2 i3)) (by (exact ar_w18t le3)),hw'] at b'
            have l3:(cutN hw e3.s.length).length≤r'.w.length:=by rw [cutN_len,hw'];(exact ar_fjln)
            have i2':Ini r2:=i.aft b' l3 (by
              have hc2':r2.c=r'.c - e3.s.length:=hc2
              rw [hc2',cutN_len];(exact ar_7rfo hl' le3))
            try dsimp only
            cases qe:decide (e3.res=1) with
            | true=>
              rw [qe] at hY
              refine eqDel_ok i2' (by decide +kernel) (by (exact ar_loau i2)) fun r3 d=>?_
              rw [b'.w,b'.p2,a.p2] at d
              exact after r' a _ r3 (b'.trans d l3) hY
            | false=>
              rw [qe] at hY
              exact after r' a _ r2 b' hY
    have n6:e.res≠6:=of_decide_eq_false q6
    refine onTF (fun q7=>?_) fun q7=>?_
    · exact reg _ n6 fun y=>del _ fun r' i a=>tabDel_ok good4 res4 i fun r2 b=>after r' a (delT (At "a_4") r.p2 hw) r2 (by rw [a.w,a.p2] at b;exact b) (fin _ n6 y (by rw [q1,q2,q3,q4,q5,q7];rfl))
    refine onTF (fun q8=>?_) fun q8=>?_
    · exact reg _ n6 fun y=>del _ fun r' i a=>tabDel_ok good5 res5 i fun r2 b=>after r' a (delT (At "a_5") r.p2 hw) r2 (by rw [a.w,a.p2] at b;exact b) (fin _ n6 y (by rw [q1,q2,q3,q4,q5,q7,q8];rfl))
    exact reg _ n6 fun y=>del _ fun r' i a=>eqDel_ok i (by decide +kernel) (by have:=i.2.1;(exact ar_loau this)) fun r2 b=>after r' a (delS (Tx "at") r.p2 hw) r2 (by rw [a.w,a.p2] at b;exact b) (fin _ n6 y (by rw [q1,q2,q3,q4,q5,q7,q8];rfl))
end Mine

open PySem PySem.W PyProof.Rows PySem.Calls
set_option maxRecDepth 100000
set_option Elab.async false
set_option backward.match.sparseCases false
namespace Mine
noncomputable def unac (x:Nat):Nat:=if x=225 then 97 else if x=233 then 101 else if x=237 then 105 else if x=243 then 111 else if x=250 then 117 else x
noncomputable def A0:List Am:=[⟨[],-1,6⟩,⟨[225],0,1⟩,⟨[233],0,2⟩,⟨[237],0,3⟩,⟨[243],0,4⟩,⟨[250],0,5⟩]
theorem at0:At "a_0"=A0:=by kernel_rfl
theorem good0':goodTab ka A0=true:=by kernel_rfl
theorem bestA0_nil:best ka [] A0=some ⟨[],-1,6⟩:=by kernel_rfl
noncomputable def accE (x:Nat):Am:=if x=225 then ⟨[225],0,1⟩ else if x=233 then ⟨[233],0,2⟩ else if x=237 then ⟨[237],0,3⟩ else if x=243 then ⟨[243],0,4⟩ else if x=250 then ⟨[250],0,5⟩ else ⟨[],-1,6⟩
theorem bestA0_cons (x:Nat) (t:List Nat):best ka (x::t) A0=some (accE x):=by
  unfold accE
  have p:∀ d:Nat,([d].isPrefixOf (x::t))=decide (x=d):=fun d=>by
    rw [Bool.eq_iff_iff,decide_eq_true_iff]
    simp only [List.isPrefixOf,Bool.and_true,beq_iff_eq]
    exact eq_comm
  unfold A0
  simp only [best,ka,p,List.isPrefixOf,List.length_nil,List.length_cons]
  by_cases h1:x=225
  · subst h1;rfl
  by_cases h2:x=233
  · subst h2;rfl
  by_cases h3:x=237
  · subst h3;rfl
  by_cases h4:x=243
  · subst h4;rfl
  by_cases h5:x=250
  · subst h5;rfl
  simp [h1,h2,h3,h4,h5]
structure Pst (r r':R9) (w':List Nat):Prop where
  w:r'.w=w'
  l:r'.l=r.l
  lb:r'.lb=r.lb
  pV:r'.pV=r.pV
  p1:r'.p1=r.p1
  p2:r'.p2=r.p2
noncomputable def S244 (r:R9) (k:KT):Prop:=(0≤r.c∧r.c≤r.l∧r.l=r.w.length∧r.w.length≤3000)∧∀ r',Pst r r' (r.w.take r.c.toNat++(r.w.drop r.c.toNat).map unac)→k (.bool true) r'
section
variable {H:List AO} {Q:QT} {g:Nat}
theorem loop244 (hg:g=1∨g=2):∀ (m:Nat) (r:R9) (o:Option (Int × Int)),(r.l - r.c).toNat=m→S244 r (back Q g H)→∃ n,Lp sp3 Q 244 0 n ⟨("self",.self g)::tlP o,some (fsR r),g,H⟩:=by
  intro m
  induction m with
  | zero=>
    rintro r o hm ⟨⟨h1,h2,h3,h4⟩,hk⟩
    refine ⟨1,?_⟩
    rw [l244 hg]
    refine ⟨⟨⟨h1,h2,h3,h4⟩,by rw [at0];exact good0'⟩,?_⟩
    have hd:r.w.drop r.c.toNat=[]:=List.drop_eq_nil_of_le (by (exact ar_mkzl hm h3))
    have et:best ka (tsF { r with bra:=r.c }) (At "a_0")=some ⟨[],-1,6⟩:=by
      rw [at0];show best ka (r.w.drop r.c.toNat) A0=_;rw [hd];exact bestA0_nil
    rw [et]
    show (match decide (r.l≤r.c+0) with | true=>_ | false=>_)
    rw [decide_eq_true (by (exact ar_hzez hm))]
    refine hk _ ⟨?_,rfl,rfl,rfl,rfl,rfl⟩
    show r.w=_
    rw [hd,List.map_nil,List.append_nil,List.take_of_length_le (by (exact ar_mkzl hm h3))]
  | succ m ih=>
    rintro r o hm ⟨⟨h1,h2,h3,h4⟩,hk⟩
    have hlt:r.c.toNat < r.w.length:=by (exact ar_wk2i hm h1 h3)
    have hd:r.w.drop r.c.toNat=r.w[r.c.toNat]::r.w.drop (r.c.toNat+1):=List.drop_eq_getElem_cons hlt
    generalize hx:r.w[r.c.toNat]=x at hd
    rw [hd] at hk
    have next:∀ (y:Nat) (r1:R9) (a:Int),y=unac x→r1.w=r.w.take r.c.toNat++y::r.w.drop (r.c.toNat+1)→r1.l=r.l→r1.lb=r.lb→r1.pV=r.pV→r1.p1=r.p1→r1.p2=r.p2→r1.c=r.c+1 →
        ∃ n,Lp sp3 Q 244 0 n ⟨("self",.self g)::tlP (some (r.c,a)),some (fsR r1),g,H⟩:=by
      intro y r1 a hy e1 e2 e3 e4 e5 e6 e7
      have tl:(r.w.take r.c.toNat).length=r.c.toNat:=by rw [List.length_take];(exact ar_mn2b hlt)
      have wl:r1.w.length=r.w.length:=by rw [e1];simp;(exact ar_xkf3 hlt)
      have c1:r1.c.toNat=r.c.toNat+1:=by (exact ar_u3rv h1 e7)
      have tk:r1.w.take r1.c.toNat=r.w.take r.c.toNat++[y]:=by
        rw [e1,c1,List.take_append,tl,List.take_of_length_le (by rw [tl];(exact ar_4uhz)),show r.c.toNat+1 - r.c.toNat=1 by (exact ar_qz4h)];rfl
      have dk:r1.w.drop r1.c.toNat=r.w.drop (r.c.toNat+1):=by
        rw [e1,c1,List.drop_append,tl,List.drop_eq_nil_of_le (by rw [tl];(exact ar_4uhz)),show r.c.toNat+1 - r.c.toNat=1 by (exact ar_qz4h)];rfl
      refine ih r1 _ (by (exact ar_ydbf hm e2 e7)) ⟨⟨by (exact ar_mcvu h1 e7),by (exact ar_42bh h3 hlt e2 e7),by (exact ar_w54h h3 e2 wl),by (exact ar_uiwy h4 wl)⟩,fun r' p=>hk r' ?_⟩
      obtain ⟨p1,p2,p3,p4,p5,p6⟩:=p
      refine ⟨?_,p2.trans e2,p3.trans e3,p4.trans e4,p5.trans e5,p6.trans e6⟩
      rw [p1,tk,dk,List.map_cons,← hy];simp
    have nx1:∀ n,(S133 (At "a_0") { r with bra:=r.c } <| onI fun a r1=>match decide (a=1) with
        | true=>S154 (Tx "a") { r1 with ket:=r1.c } fun _ r'=>nx Q g H n r.c a r'
        | false=>(match decide (a=2) with
          | true=>S154 (Tx "e") { r1 with ket:=r1.c } fun _ r'=>nx Q g H n r.c a r'
          | false=>(match decide (a=3) with
            | true=>S154 (Tx "i") { r1 with ket:=r1.c } fun _ r'=>nx Q g H n r.c a r'
            | false=>(match decide (a=4) with
              | true=>S154 (Tx "o") { r1 with ket:=r1.c } fun _ r'=>nx Q g H n r.c a r'
              | false=>(match decide (a=5) with
                | true=>S154 (Tx "u") { r1 with ket:=r1.c } fun _ r'=>nx Q g H n r.c a r'
                | false=>(match decide (r1.l≤r1.c) with
                  | true=>back Q g H (.bool true) { r1 with ket:=r1.c,c:=r.c }
                  | false=>nx Q g H n r.c a { r1 with ket:=r1.c,c:=r1.c+1 }))))))→∃ n,Lp sp3 Q 244 0 n ⟨("self",.self g)::tlP o,some (fsR r),g,H⟩:=fun n hn=>⟨n+1,by rw [l244 hg];exact hn⟩
    have eb:best ka (tsF { r with bra:=r.c }) (At "a_0")=some (accE x):=by
      rw [at0];show best ka (r.w.drop r.c.toNat) A0=_;rw [hd];exact bestA0_cons x _
    unfold accE at eb
    have swap:∀ (y:Nat) (a:Int),y=unac x→∃ n,S154 [y] { r with bra:=r.c,c:=r.c+1,ket:=r.c+1 } fun _ r'=>nx Q g H n r.c a r':=by
      intro y a hy
      obtain ⟨n,hn⟩:=next y (rep [y] { r with bra:=r.c,c:=r.c+1,ket:=r.c+1 }) a hy
        (by show r.w.take r.c.toNat++[y]++r.w.drop (r.c+1).toNat=_;rw [show (r.c+1).toNat=r.c.toNat+1 by (exact ar_ud7b h1)];simp)
        (by show r.l+((1:Nat) - (r.c+1 - r.c):Int)=r.l;(exact ar_jh9i)) rfl rfl rfl rfl
        (by show (bif decide (r.c+1≤r.c+1) then r.c+1+((1:Nat) - (r.c+1 - r.c):Int) else _)=r.c+1;rw [decide_eq_true (Int.le_refl _)];show r.c+1+((1:Nat) - (r.c+1 - r.c):Int)=_;(exact ar_v6a3))
      exact ⟨n,⟨by show 0≤r.c;(exact h1),by show r.c≤r.c+1;(exact ar_fyt5),by show r.c+1≤r.l;(exact ar_lm3v h3 hlt),h3,by show r.l≤3000;(exact ar_jckz h3 h4),by simp⟩,hn⟩
    have pre:preF { r with bra:=r.c }∧goodTab ka (At "a_0")=true:=⟨⟨h1,h2,h3,h4⟩,by rw [at0];exact good0'⟩
    by_cases q1:x=225
    · obtain ⟨n,hn⟩:=swap 97 1 (by unfold unac;rw [if_pos q1])
      refine nx1 n ⟨pre,?_⟩
      rw [eb,if_pos q1];exact hn
    by_cases q2:x=233
    · obtain ⟨n,hn⟩:=swap 101 2 (by unfold unac;rw [if_neg q1,if_pos q2])
      refine nx1 n ⟨pre,?_⟩
      rw [eb,if_neg q1,if_pos q2];exact hn
    by_cases q3:x=237
    · obtain ⟨n,hn⟩:=swap 105 3 (by unfold unac;rw [if_neg q1,if_neg q2,if_pos q3])
      refine nx1 n ⟨pre,?_⟩
      rw [eb,if_neg q1,if_neg q2,if_pos q3];exact hn
    by_cases q4:x=243
    · obtain ⟨n,hn⟩:=swap 111 4 (by unfold unac;rw [if_neg q1,if_neg q2,if_neg q3,if_pos q4])
      refine nx1 n ⟨pre,?_⟩
      rw [eb,if_neg q1,if_neg q2,if_neg q3,if_pos q4];exact hn
    by_cases q5:x=250
    · obtain ⟨n,hn⟩:=swap 117 5 (by unfold unac;rw [if_neg q1,if_neg q2,if_neg q3,if_neg q4,if_pos q5])
      refine nx1 n ⟨pre,?_⟩
      rw [eb,if_neg q1,if_neg q2,if_neg q3,if_neg q4,if_pos q5];exact hn
    · obtain ⟨n,hn⟩:=next x { r with bra:=r.c,ket:=r.c+0,c:=r.c+0+1 } 6 (by unfold unac;rw [if_neg q1,if_neg q2,if_neg q3,if_neg q4,if_neg q5])
        (by show r.w=_;conv=>lhs;rw [← List.take_append_drop r.c.toNat r.w,hd]) rfl rfl rfl rfl rfl (by show r.c+0+1=_;(exact ar_t2si))
      refine nx1 n ⟨pre,?_⟩
      rw [eb,if_neg q1,if_neg q2,if_neg q3,if_neg q4,if_neg q5]
      show (match decide (r.l≤r.c+0) with | true=>_ | false=>_)
      rw [decide_eq_false (by (exact ar_mgq2 h3 hlt))]
      exact hn
theorem b244 (hg:g=1∨g=2) {r:R9} (h:S244 r (back Q g H)):BodyOK T1 (spC sp3) 244 [.self g] Q (some (fsR r)) g H:=by
  rw [e244 hg]
  exact ⟨rfl,loop244 hg _ r none rfl h⟩
end
end Mine

open PySem PySem.W PyProof.Rows PySem.Calls
set_option maxRecDepth 100000
set_option Elab.async false
set_option backward.match.sparseCases false
namespace Mine
noncomputable def reg1 (w:List Nat):Int:=(fun s1:Int=>bif decide (s1 < w.length) then (fun s2:Int=>bif decide (s2 < w.length) then s2+1 else (w.length:Int)) (skipV true w (s1+1)) else (w.length:Int)) (skipV false w 0)
noncomputable def reg2 (w:List Nat):Int:=(fun s1:Int=>bif decide (s1 < w.length) then (fun s2:Int=>bif decide (s2 < w.length) then (fun s3:Int=>bif decide (s3 < w.length) then (fun s4:Int=>bif decide (s4 < w.length) then s4+1 else (w.length:Int)) (skipV true w (s3+1)) else (w.length:Int)) (skipV false w (s2+1)) else (w.length:Int)) (skipV true w (s1+1)) else (w.length:Int)) (skipV false w 0)
noncomputable def regE (w:List Nat):Int:=bif isAt true w 1&&decide (2 < (w.length:Int)) then 3 else w.length
noncomputable def regA (w:List Nat):Int:=bif isAt false w 0 then (bif isAt false w 1&&decide (skipV false w 2 < w.length) then skipV false w 2+1 else regE w) else w.length
noncomputable def regV (w:List Nat):Int:=bif isAt true w 0 then (bif isAt false w 1&&decide (skipV false w 2 < w.length) then skipV false w 2+1 else bif isAt true w 1&&decide (skipV true w 2 < w.length) then skipV true w 2+1 else regA w) else regA w
structure Rg (r r':R9) (pV:Int):Prop where
  w:r'.w=r.w
  l:r'.l=r.l
  lb:r'.lb=r.lb
  c:r'.c=0
  pV:r'.pV=pV
  p1:r'.p1=reg1 r.w
  p2:r'.p2=reg2 r.w
noncomputable def wOk (r:R9):Prop:=r.l=r.w.length∧r.l≤3000
theorem fM2 {r:R9} {k:KT} (h:wOk r) (h1:r.p1=r.l) (h2:r.p2=r.l) (hk:∀ r',Rg r r' r.pV→k (.bool true) r'):M2 0 r k:=by
  obtain ⟨hl,h3⟩:=h
  have b0:=skipV_le (b:=false) (w:=r.w) (c:=0) (by (exact ar_gzj6)) (by (exact ar_fpix))
  unfold M2
  try dsimp only
  refine ⟨⟨by show (0:Int)≤0;(exact ar_gzj6),by show 0≤r.l;(exact ar_8zb5 hl),hl,h3⟩,?_⟩
  show (match !decide (skipV false r.w 0 < r.l) with | true=>_ | false=>_)
  cases q1:decide (skipV false r.w 0 < r.l) with
  | false=>
    refine hk _ ⟨rfl,rfl,rfl,rfl,rfl,?_,?_⟩
    · show r.p1=_;unfold reg1;dsimp only;rw [← hl,q1,h1];rfl
    · show r.p2=_;unfold reg2;dsimp only;rw [← hl,q1,h2];rfl
  | true=>
    have i1:=of_decide_eq_true q1
    have b1:=skipV_le (b:=true) (w:=r.w) (c:=skipV false r.w 0+1) (by (exact ar_khmm b0.1)) (by (exact ar_7gl8 hl i1))
    try dsimp only
    refine ⟨⟨by show 0≤skipV false r.w 0+1;(exact ar_khmm b0.1),by show skipV false r.w 0+1≤r.l;(exact ar_gz02 i1),hl,h3⟩,?_⟩
    show (match !decide (skipV true r.w (skipV false r.w 0+1) < r.l) with | true=>_ | false=>_)
    cases q2:decide (skipV true r.w (skipV false r.w 0+1) < r.l) with
    | false=>
      refine hk _ ⟨rfl,rfl,rfl,rfl,rfl,?_,?_⟩
      · show r.p1=_;unfold reg1;dsimp only;rw [← hl,q1];dsimp only [cond_true];rw [q2,h1];rfl
      · show r.p2=_;unfold reg2;dsimp only;rw [← hl,q1];dsimp only [cond_true];rw [q2,h2];rfl
    | true=>
      have i2:=of_decide_eq_true q2
      have hr1:reg1 r.w=skipV true r.w (skipV false r.w 0+1)+1:=by unfold reg1;dsimp only;rw [← hl,q1];dsimp only [cond_true];rw [q2];rfl
      generalize hs:skipV true r.w (skipV false r.w 0+1)=s2 at *
      have b2:=skipV_le (b:=false) (w:=r.w) (c:=s2+1) (by (exact ar_eptb b0.1 b1.1)) (by (exact ar_7gl8 hl i2))
      try dsimp only
      refine ⟨⟨by show 0≤s2+1;(exact ar_eptb b0.1 b1.1),by show s2+1≤r.l;(exact ar_gz02 i2),hl,h3⟩,?_⟩
      show (match !decide (skipV false r.w (s2+1) < r.l) with | true=>_ | false=>_)
      cases q3:decide (skipV false r.w (s2+1) < r.l) with
      | false=>
        try dsimp only
        refine hk _ ⟨rfl,rfl,rfl,rfl,rfl,hr1.symm,?_⟩
        show r.p2=_;unfold reg2;dsimp only;rw [← hl,q1];dsimp only [cond_true];rw [hs,q2];dsimp only [cond_true];rw [q3,h2];rfl
      | true=>
        have i3:=of_decide_eq_true q3
        have b3:=skipV_le (b:=true) (w:=r.w) (c:=skipV false r.w (s2+1)+1) (by (exact ar_idkk b0.1 b1.1 b2.1)) (by (exact ar_7gl8 hl i3))
        try dsimp only
        refine ⟨⟨by show 0≤skipV false r.w (s2+1)+1;(exact ar_idkk b0.1 b1.1 b2.1),by show skipV false r.w (s2+1)+1≤r.l;(exact ar_gz02 i3),hl,h3⟩,?_⟩
        show (match !decide (skipV true r.w (skipV false r.w (s2+1)+1) < r.l) with | true=>_ | false=>_)
        cases q4:decide (skipV true r.w (skipV false r.w (s2+1)+1) < r.l) with
        | false=>
          try dsimp only
          refine hk _ ⟨rfl,rfl,rfl,rfl,rfl,hr1.symm,?_⟩
          show r.p2=_;unfold reg2;dsimp only;rw [← hl,q1];dsimp only [cond_true];rw [hs,q2];dsimp only [cond_true];rw [q3];dsimp only [cond_true];rw [q4,h2];rfl
        | true=>
          try dsimp only
          refine hk _ ⟨rfl,rfl,rfl,rfl,rfl,hr1.symm,?_⟩
          show skipV true r.w (skipV false r.w (s2+1)+1)+1=_;unfold reg2;dsimp only;rw [← hl,q1];dsimp only [cond_true];rw [hs,q2];dsimp only [cond_true];rw [q3];dsimp only [cond_true];rw [q4];rfl
theorem isAt_lt {b:Bool} {w:List Nat} {c:Int} (h0:0≤c) (h:isAt b w c=true):c < w.length:=by
  unfold isAt at h
  split at h
  · rename_i a ha;have:=(List.getElem?_eq_some_iff.mp ha).1;(exact ar_a6kb this)
  · cases h
structure Fh (r r1:R9):Prop where
  w:r1.w=r.w
  l:r1.l=r.l
  lb:r1.lb=r.lb
  pV:r1.pV=r.l
  p1:r1.p1=r.l
  p2:r1.p2=r.l
section
variable {r:R9} {k:KT} (h:wOk r)
include h
theorem fEnd (hk:∀ r',Rg r r' (r.w.length:Int)→k (.bool true) r') {r1:R9} (f:Fh r r1):M2 0 r1 k:=by
  refine fM2 ⟨by rw [f.l,f.w];exact h.1,by rw [f.l];exact h.2⟩ (by rw [f.p1,f.l]) (by rw [f.p2,f.l]) fun r' g=>hk r' ?_
  exact ⟨g.w.trans f.w,g.l.trans f.l,g.lb.trans f.lb,g.c,by rw [g.pV,f.pV];exact h.1,by rw [g.p1,f.w],by rw [g.p2,f.w]⟩
theorem fGood {c:Int} (hk:∀ r',Rg r r' (c+1)→k (.bool true) r') {r1:R9} (f:Fh r r1) (hc:r1.c=c):Mg 0 r1 k:=by
  unfold Mg
  refine fM2 ⟨by show r1.l=r1.w.length;rw [f.l,f.w];exact h.1,by show r1.l≤3000;rw [f.l];exact h.2⟩ (by show r1.p1=r1.l;rw [f.p1,f.l]) (by show r1.p2=r1.l;rw [f.p2,f.l]) fun r' g=>hk r' ?_
  have gw:r'.w=r1.w:=g.w
  have g1:r'.p1=reg1 r1.w:=g.p1
  have g2:r'.p2=reg2 r1.w:=g.p2
  have gl:r'.l=r1.l:=g.l
  have gb:r'.lb=r1.lb:=g.lb
  have gp:r'.pV=r1.c+1:=g.pV
  exact ⟨gw.trans f.w,gl.trans f.l,gb.trans f.lb,g.c,by rw [gp,hc],by rw [g1,f.w],by rw [g2,f.w]⟩
theorem fS63 {b:Bool} {r1:R9} {f:Bool→R9→Prop} (c:Int) (fh:Fh r r1) (h0:0≤c) (h1:c≤r.l) (hf:isAt b r.w c=false→∀ r2,Fh r r2→r2.c=c→f false r2) (ht:isAt b r.w c=true→∀ r2,Fh r r2→r2.c=c+1→f true r2):S63 b { r1 with c:=c } (onB f):=by
  refine ⟨⟨h0,by show c≤r1.l;rw [fh.l];exact h1,by show r1.l=r1.w.length;rw [fh.l,fh.w];exact h.1,by show r1.l≤3000;rw [fh.l];exact h.2⟩,?_⟩
  show f (isAt b r1.w c) { r1 with c:=bif isAt b r1.w c then c+1 else c }
  have e:isAt b r1.w c=isAt b r.w c:=by rw [fh.w]
  rw [e]
  cases q:isAt b r.w c with
  | false=>exact hf q _ ⟨fh.w,fh.l,fh.lb,fh.pV,fh.p1,fh.p2⟩ rfl
  | true=>exact ht q _ ⟨fh.w,fh.l,fh.lb,fh.pV,fh.p1,fh.p2⟩ rfl
theorem fS63' {b:Bool} {r1:R9} {f:Bool→R9→Prop} (c:Int) (fh:Fh r r1) (hc:r1.c=c) (h0:0≤c) (h1:c≤r.l) (hf:isAt b r.w c=false→∀ r2,Fh r r2→r2.c=c→f false r2) (ht:isAt b r.w c=true→∀ r2,Fh r r2→r2.c=c+1→f true r2):S63 b r1 (onB f):=by
  have:=fS63 h c fh h0 h1 hf ht
  rw [← hc] at this
  exact this
theorem fS70 {b:Bool} {r1:R9} {f:Bool→R9→Prop} (c:Int) (fh:Fh r r1) (hc:r1.c=c) (h0:0≤c) (h1:c≤r.l) (hf:decide (skipV b r.w c < r.w.length)=false→∀ r2,Fh r r2→f false r2) (ht:decide (skipV b r.w c < r.w.length)=true→∀ r2,Fh r r2→r2.c=skipV b r.w c→f true r2):S70 b r1 (onB f):=by
  refine ⟨⟨by (exact ar_ih5e hc h0),by rw [fh.l];(exact ar_icv4 hc h1),by rw [fh.l,fh.w];exact h.1,by rw [fh.l];exact h.2⟩,?_⟩
  show f (decide (skipV b r1.w r1.c < r1.l)) { r1 with c:=skipV b r1.w r1.c }
  have e:decide (skipV b r1.w r1.c < r1.l)=decide (skipV b r.w c < (r.w.length:Int)):=by rw [fh.w,hc,fh.l,h.1]
  have e2:skipV b r1.w r1.c=skipV b r.w c:=by rw [fh.w,hc]
  rw [e]
  cases q:decide (skipV b r.w c < (r.w.length:Int)) with
  | false=>exact hf q _ ⟨fh.w,fh.l,fh.lb,fh.pV,fh.p1,fh.p2⟩
  | true=>exact ht q _ ⟨fh.w,fh.l,fh.lb,fh.pV,fh.p1,fh.p2⟩ e2
theorem fMa2 (hk:∀ r',Rg r r' (regE r.w)→k (.bool true) r') (h1:1≤r.l) {r1:R9} (f:Fh r r1):Ma2 0 1 r1 k:=by
  unfold Ma2
  refine fS63 h 1 f (by (exact ar_ebwt)) h1 (fun q r2 f2 _=>?_) fun q r2 f2 c2=>?_
  · exact fEnd h (fun r' g=>hk r' (by unfold regE;rw [q];exact g)) f2
  · show (match decide (r2.l≤r2.c) with | true=>_ | false=>_)
    cases q2:decide (r2.l≤r2.c) with
    | true=>
      have:=of_decide_eq_true q2
      exact fEnd h (fun r' g=>hk r' (by unfold regE;rw [q,decide_eq_false (by have:=f2.l;have:=h.1;(exact ar_ile1 c2 (by assumption) (by assumption) this))];exact g)) f2
    | false=>
      have:=of_decide_eq_false q2
      exact fGood h (c:=2) (fun r' g=>hk r' (by unfold regE;rw [q,decide_eq_true (by have:=f2.l;have:=h.1;(exact ar_v0o1 c2 (by assumption) (by assumption) this))];exact g)) f2 c2
theorem fMa (hk:∀ r',Rg r r' (regA r.w)→k (.bool true) r') {r1:R9} (f:Fh r r1):Ma 0 0 r1 k:=by
  unfold Ma
  have hl:=h.1
  refine fS63 h 0 f (by (exact ar_gzj6)) (by (exact ar_8zb5 hl)) (fun q r2 f2 _=>?_) fun q r2 f2 c2=>?_
  · exact fEnd h (fun r' g=>hk r' (by unfold regA;rw [q];exact g)) f2
  · have l1:=isAt_lt (by (exact ar_gzj6)) q
    show S63 false r2 _
    have c2':r2.c=1:=c2
    rw [c2']
    refine fS63' h 1 f2 c2' (by (exact ar_ebwt)) (by (exact ar_1vm3 hl l1)) (fun q2 r3 f3 _=>?_) fun q2 r3 f3 c3=>?_
    · exact fMa2 h (fun r' g=>hk r' (by unfold regA;rw [q,q2];exact g)) (by (exact ar_1vm3 hl l1)) f3
    · have l2:=isAt_lt (by (exact ar_ebwt)) q2
      refine fS70 h 2 f3 c3 (by (exact ar_q6r3)) (by (exact ar_7ogh hl l2)) (fun q3 r4 f4=>?_) fun q3 r4 f4 c4=>?_
      · exact fMa2 h (fun r' g=>hk r' (by unfold regA;rw [q,q2,q3];exact g)) (by (exact ar_7i2c hl l2)) f4
      · exact fGood h (fun r' g=>hk r' (by unfold regA;rw [q,q2,q3];exact g)) f4 c4
theorem fMa1 (h1:1≤r.l) (hk:∀ r',Rg r r' (bif isAt true r.w 1&&decide (skipV true r.w 2 < r.w.length) then skipV true r.w 2+1 else regA r.w)→k (.bool true) r') {r1:R9} (f:Fh r r1):Ma1 0 0 1 r1 k:=by
  unfold Ma1
  have hl:=h.1
  refine fS63 h 1 f (by (exact ar_ebwt)) h1 (fun q r2 f2 _=>?_) fun q r2 f2 c2=>?_
  · exact fMa h (fun r' g=>hk r' (by rw [q];exact g)) f2
  · have l2:=isAt_lt (by (exact ar_ebwt)) q
    refine fS70 h 2 f2 c2 (by (exact ar_q6r3)) (by (exact ar_7ogh hl l2)) (fun q3 r4 f4=>?_) fun q3 r4 f4 c4=>?_
    · exact fMa h (fun r' g=>hk r' (by rw [q,q3];exact g)) f4
    · exact fGood h (fun r' g=>hk r' (by rw [q,q3];exact g)) f4 c4
theorem f237 (hc:r.c=0) (hk:∀ r',Rg r r' (regV r.w)→k (.bool true) r'):S237 r k:=by
  unfold S237
  have hl:=h.1
  rw [hc]
  refine fS63 h 0 (r1:={ r with pV:=r.l,p1:=r.l,p2:=r.l }) ⟨rfl,rfl,rfl,rfl,rfl,rfl⟩ (by (exact ar_gzj6)) (by (exact ar_8zb5 hl)) (fun q r2 f2 _=>?_) fun q r2 f2 c2=>?_
  · exact fMa h (fun r' g=>hk r' (by unfold regV;rw [q];exact g)) f2
  · have l1:=isAt_lt (by (exact ar_gzj6)) q
    have c2':r2.c=1:=c2
    show S63 false r2 _
    rw [c2']
    refine fS63' h 1 f2 c2' (by (exact ar_ebwt)) (by (exact ar_1vm3 hl l1)) (fun q2 r3 f3 _=>?_) fun q2 r3 f3 c3=>?_
    · exact fMa1 h (by (exact ar_1vm3 hl l1)) (fun r' g=>hk r' (by unfold regV;rw [q,q2];exact g)) f3
    · have l2:=isAt_lt (by (exact ar_ebwt)) q2
      refine fS70 h 2 f3 c3 (by (exact ar_q6r3)) (by (exact ar_7ogh hl l2)) (fun q3 r4 f4=>?_) fun q3 r4 f4 c4=>?_
      · exact fMa1 h (by (exact ar_7i2c hl l2)) (fun r' g=>hk r' (by unfold regV;rw [q,q2,q3];exact g)) f4
      · exact fGood h (fun r' g=>hk r' (by unfold regV;rw [q,q2,q3];exact g)) f4 c4
end
end Mine

open PySem PySem.W PyProof.Rows PySem.Calls
set_option maxRecDepth 100000
set_option Elab.async false
set_option backward.match.sparseCases false
namespace Mine
noncomputable def stem2 (pV p1 p2:Int) (w:List Nat):List Nat:=match std p1 p2 w with
  | some x=>x
  | none=>match yv pV w with
    | some x=>x
    | none=>match vb pV w with
      | some x=>x
      | none=>w
noncomputable def stemP (w:List Nat):List Nat:=(res (regV w) (stem2 (regV w) (reg1 w) (reg2 w) (att (regV w) w))).map unac
noncomputable def R237 (r:R9) (k:KT):Prop:=(wOk r∧r.c=0)∧∀ r',Rg r r' (regV r.w)→k (.bool true) r'
noncomputable def Rw (f:R9→List Nat) (r:R9) (k:KT):Prop:=Ini r∧∀ b r',Aft r r' (f r)→k (.bool b) r'
noncomputable def Ro (f:R9→Option (List Nat)) (r:R9) (k:KT):Prop:=(Ini r∧0≤r.pV)∧(f r=none→∀ r',Aft r r' r.w→k (.bool false) r')∧∀ w',f r=some w'→∀ r',Aft r r' w'→k (.bool true) r'
noncomputable def sp4:SPK:=fun f=>lookP f [(237,sh0 R237),(265,sh0 (Rw fun r=>att r.pV r.w)),(272,sh0 (Ro fun r=>std r.p1 r.p2 r.w)),(279,sh0 (Ro fun r=>yv r.pV r.w)),(286,sh0 (Ro fun r=>vb r.pV r.w)),(293,sh0 (Rw fun r=>res r.pV r.w)),(244,sh0 S244)] (sp3 f)
theorem step4 (f:Addr) (args:List PV) (Q:PV→Option Fs→Nat→List AO→Prop) (S:Option Fs) (g:Nat) (H:List AO) (hh:spC sp4 f args Q S g H):spC sp3 f args Q S g H∨BodyOK T1 (spC sp3) f args Q S g H:=by
  obtain ⟨rest,r,rfl,hg,rfl,h⟩:=spC_is hh
  exact lookP_is (fun f'=>spC sp3 f (.self g::rest) Q (some (fsR r)) g H∨BodyOK T1 (spC sp3) f' (.self g::rest) Q (some (fsR r)) g H)
    (.cons (fun h=>.inr (sh0_is (fun l=>BodyOK T1 (spC sp3) 237 (.self g::l) Q (some (fsR r)) g H) h fun h=>(e237 hg).mpr ⟨rfl,f237 h.1.1 h.1.2 h.2⟩)) <|
      .cons (fun h=>.inr (sh0_is (fun l=>BodyOK T1 (spC sp3) 265 (.self g::l) Q (some (fsR r)) g H) h fun h=>(e265 hg).mpr ⟨rfl,f265 h.1 h.2⟩)) <|
      .cons (fun h=>.inr (sh0_is (fun l=>BodyOK T1 (spC sp3) 272 (.self g::l) Q (some (fsR r)) g H) h fun h=>(e272 hg).mpr ⟨rfl,f272 h.1.1 h.2.1 h.2.2⟩)) <|
      .cons (fun h=>.inr (sh0_is (fun l=>BodyOK T1 (spC sp3) 279 (.self g::l) Q (some (fsR r)) g H) h fun h=>(e279 hg).mpr ⟨rfl,f279 h.1.1 h.1.2 h.2.1 h.2.2⟩)) <|
      .cons (fun h=>.inr (sh0_is (fun l=>BodyOK T1 (spC sp3) 286 (.self g::l) Q (some (fsR r)) g H) h fun h=>(e286 hg).mpr ⟨rfl,f286 h.1.1 h.1.2 h.2.1 h.2.2⟩)) <|
      .cons (fun h=>.inr (sh0_is (fun l=>BodyOK T1 (spC sp3) 293 (.self g::l) Q (some (fsR r)) g H) h fun h=>(e293 hg).mpr ⟨rfl,f293 h.1 h.2⟩)) <|
      .cons (fun h=>.inr (sh0_is (fun l=>BodyOK T1 (spC sp3) 244 (.self g::l) Q (some (fsR r)) g H) h (b244 hg))) .nil) (fun h=>.inl (spC_mk hg h)) h
theorem regV_pos (w:List Nat):0≤regV w:=by
  have s1:∀ b,2≤w.length→(2:Int)≤skipV b w 2:=fun b h=>(skipV_le (by (exact ar_q6r3)) (by (exact ar_gb11 h))).1
  have gen:∀ b,(0:Int)≤skipV b w 2:=fun b=>by unfold skipV;(exact ar_ral5)
  have e:0≤regE w:=by unfold regE;cases (isAt true w 1&&decide (2 < (w.length:Int)))<;>simp
  have a:0≤regA w:=by
    unfold regA
    cases isAt false w 0
    · simp
    · have:=gen false
      cases (isAt false w 1&&decide (skipV false w 2 < (w.length:Int)))<;>simp<;>(first | exact e | exact ar_khmm this)
  unfold regV
  have g1:=gen false
  have g2:=gen true
  cases isAt true w 0
  · exact a
  · cases (isAt false w 1&&decide (skipV false w 2 < (w.length:Int)))
    · cases (isAt true w 1&&decide (skipV true w 2 < (w.length:Int)))
      · exact a
      · simp;(exact ar_khmm g2)
    · simp;(exact ar_khmm g1)
theorem Ini.next {r r':R9} {w':List Nat} (a:Aft r r' w') (c:Int) (hc:c=r'.l) (hl:w'.length≤2900):Ini { r' with c:=c }:=
  ⟨a.lb,hc,by show r'.l=r'.w.length;rw [a.l,a.w],by show r'.w.length≤2900;rw [a.w];exact hl⟩
theorem fF300 {r:R9} {k:KT} {v2:Int} (hv:v2=0) {w':List Nat} {r0:R9} (a:Aft r0 r w') (hl:w'.length≤2900) (hk:∀ r',r'.w=(res r.pV w').map unac→k (.bool true) r'):F300 sp4 v2 r k:=by
  subst hv
  have i:Ini { r with c:=r.l - 0 }:=Ini.next a _ (by (exact ar_gszt)) hl
  refine ⟨i,fun b r1 a1=>?_⟩
  have a1w:r1.w=res r.pV w':=by rw [a1.w];show res r.pV r.w=_;rw [a.w]
  have len:(res r.pV w').length≤2910:=by
    have l:(res r.pV r.w).length≤r.w.length+10:=a1.len
    rw [a.w] at l;(exact ar_6ga3 hl l)
  refine ⟨⟨by show 0≤r1.lb;rw [a1.lb];exact Int.le_refl _,by show r1.lb≤r1.l;rw [a1.lb];have:=a1.c0;have:=a1.c1;(exact ar_zu20 (by assumption) this),by show r1.l=r1.w.length;rw [a1.l,a1.w],by show r1.w.length≤3000;rw [a1w];(exact ar_n37v len)⟩,fun r' p=>?_⟩
  refine hk _ ?_
  show r'.w=_
  rw [p.w]
  show r1.w.take r1.lb.toNat++(r1.w.drop r1.lb.toNat).map unac=_
  rw [a1.lb,a1w];simp
theorem f300 {r:R9} {k:KT} (h:wOk r) (hl:r.w.length≤2000) (hc:r.c=0) (hk:∀ r',r'.w=stemP r.w→k (.bool true) r'):S300 sp4 r k:=by
  refine ⟨⟨h,hc⟩,fun r1 g=>?_⟩
  have i1:Ini { r1 with lb:=r1.c,c:=r1.l }:=⟨g.c,rfl,by show r1.l=r1.w.length;rw [g.l,g.w];exact h.1,by show r1.w.length≤2900;rw [g.w];(exact ar_qzfs hl)⟩
  refine ⟨i1,fun b r2 a2=>?_⟩
  have e2:r2.w=att (regV r.w) r.w:=by rw [a2.w];show att r1.pV r1.w=_;rw [g.pV,g.w]
  have l2:r2.w.length≤2010:=by have:=a2.len;rw [← a2.w] at this;have e:({ r1 with lb:=r1.c,c:=r1.l }:R9).w=r.w:=g.w;rw [e] at this;(exact ar_m701 hl this)
  have p2V:r2.pV=regV r.w:=a2.pV.trans g.pV
  have p21:r2.p1=reg1 r.w:=a2.p1.trans g.p1
  have p22:r2.p2=reg2 r.w:=a2.p2.trans g.p2
  have i2:Ini { r2 with c:=r2.l - (r1.l - r1.l) }:=Ini.next a2 _ (by (exact ar_luyy)) (by rw [← a2.w];(exact ar_cd8p l2))
  have pos:0≤r2.pV:=by rw [p2V];exact regV_pos _
  have fin:∀ (r0 r3:R9) (w':List Nat),Aft r0 r3 w'→w'.length≤2900→r3.pV=regV r.w→w'=stem2 (regV r.w) (reg1 r.w) (reg2 r.w) (att (regV r.w) r.w)→F300 sp4 (r2.l - (r2.l - (r1.l - r1.l))) r3 k:=fun r0 r3 w' a hl hp hw=>fF300 (by (exact ar_vm96)) a hl fun r' e=>hk r' (by rw [e,hp,hw];rfl)
  refine ⟨⟨i2,pos⟩,fun hn r3 a3=>?_,fun w' hs r3 a3=>?_⟩
  · have hn':std (reg1 r.w) (reg2 r.w) (att (regV r.w) r.w)=none:=by have:std r2.p1 r2.p2 r2.w=none:=hn;rwa [p21,p22,e2] at this
    have a3w:r3.w=r2.w:=a3.w
    have a3l:r2.w.length≤2900:=by (exact ar_cd8p l2)
    have i3:Ini { r3 with c:=r3.l - (r2.l - (r2.l - (r1.l - r1.l))) }:=Ini.next a3 _ (by (exact ar_vwjh)) a3l
    refine ⟨⟨i3,by show 0≤r3.pV;rw [a3.pV];exact pos⟩,fun hn2 r4 a4=>?_,fun w' hs2 r4 a4=>?_⟩
    · have hn2':yv (regV r.w) (att (regV r.w) r.w)=none:=by
        have:yv r3.pV r3.w=none:=hn2
        rwa [a3.pV,a3w,e2,show ({ r2 with c:=r2.l - (r1.l - r1.l) }:R9).pV=regV r.w from p2V] at this
      have a4w:r4.w=r2.w:=a4.w.trans a3w
      have p4V:r4.pV=regV r.w:=(a4.pV.trans a3.pV).trans p2V
      have i4:Ini { r4 with c:=r4.l - (r2.l - (r2.l - (r1.l - r1.l))) }:=Ini.next a4 _ (by (exact ar_vwjh)) (by show r3.w.length≤2900;rw [a3w];(exact a3l))
      refine ⟨⟨i4,by show 0≤r4.pV;rw [p4V];exact regV_pos _⟩,fun hn3 r5 a5=>?_,fun w' hs3 r5 a5=>?_⟩
      · have hn3':vb (regV r.w) (att (regV r.w) r.w)=none:=by have:vb r4.pV r4.w=none:=hn3;rwa [p4V,a4w,e2] at this
        exact fin _ r5 _ a5 (by show r4.w.length≤2900;rw [a4w];(exact a3l)) (a5.pV.trans p4V) (by show r4.w=_;unfold stem2;rw [hn',hn2',hn3',a4w,e2])
      · have hs3':vb (regV r.w) (att (regV r.w) r.w)=some w':=by have:vb r4.pV r4.w=some w':=hs3;rwa [p4V,a4w,e2] at this
        have len:=a5.len
        exact fin _ r5 w' a5 (by have e:({ r4 with c:=r4.l - (r2.l - (r2.l - (r1.l - r1.l))) }:R9).w=r2.w:=a4w;rw [e] at len;(exact ar_vu8q l2 len)) (a5.pV.trans p4V) (by unfold stem2;rw [hn',hn2',hs3'])
    · have hs2':yv (regV r.w) (att (regV r.w) r.w)=some w':=by
        have:yv r3.pV r3.w=some w':=hs2
        rwa [a3.pV,a3w,e2,show ({ r2 with c:=r2.l - (r1.l - r1.l) }:R9).pV=regV r.w from p2V] at this
      have len:=a4.len
      exact fin _ r4 w' a4 (by have e:({ r3 with c:=r3.l - (r2.l - (r2.l - (r1.l - r1.l))) }:R9).w=r2.w:=a3w;rw [e] at len;(exact ar_vu8q l2 len)) ((a4.pV.trans a3.pV).trans p2V) (by unfold stem2;rw [hn',hs2'])
  · have hs':std (reg1 r.w) (reg2 r.w) (att (regV r.w) r.w)=some w':=by have:std r2.p1 r2.p2 r2.w=some w':=hs;rwa [p21,p22,e2] at this
    have len:=a3.len
    exact fin _ r3 w' a3 (by have e:({ r2 with c:=r2.l - (r1.l - r1.l) }:R9).w=r2.w:=rfl;rw [e] at len;(exact ar_vu8q l2 len)) (a3.pV.trans p2V) (by unfold stem2;rw [hs'])
end Mine

open PySem PySem.W PyProof.Rows PySem.Calls
set_option maxRecDepth 100000
set_option Elab.async false
set_option backward.match.sparseCases false
namespace Mine
noncomputable def R300 (r:R9) (k:KT):Prop:=(wOk r∧r.w.length≤2000∧r.c=0)∧∀ r',r'.w=stemP r.w→k (.bool true) r'
noncomputable def sp5:SPK:=fun f=>lookP f [(300,sh0 R300)] (sp4 f)
theorem step5 (f:Addr) (args:List PV) (Q:PV→Option Fs→Nat→List AO→Prop) (S:Option Fs) (g:Nat) (H:List AO) (hh:spC sp5 f args Q S g H):spC sp4 f args Q S g H∨BodyOK T1 (spC sp4) f args Q S g H:=by
  obtain ⟨rest,r,rfl,hg,rfl,h⟩:=spC_is hh
  exact lookP_is (fun f'=>spC sp4 f (.self g::rest) Q (some (fsR r)) g H∨BodyOK T1 (spC sp4) f' (.self g::rest) Q (some (fsR r)) g H)
    (.cons (fun h=>.inr (sh0_is (fun l=>BodyOK T1 (spC sp4) 300 (.self g::l) Q (some (fsR r)) g H) h fun h=>(e300 hg).mpr ⟨rfl,f300 h.1.1 h.1.2.1 h.1.2.2 h.2⟩)) .nil) (fun h=>.inl (spC_mk hg h)) h
noncomputable def R189 (x:List Nat) (r:R9) (k:KT):Prop:=x.length≤2000∧∀ r',r'.w=stemP x→k (.str (stemP x)) r'
noncomputable def sp6:SPK:=fun f=>lookP f [(189,shX R189)] (sp5 f)
theorem f189 {x:List Nat} {r:R9} {k:KT} (h:R189 x r k):S189 sp5 x r k:=by
  obtain ⟨hl,hk⟩:=h
  refine ⟨by (exact ar_21a0 hl),?_⟩
  refine ⟨⟨⟨rfl,by show (x.length:Int)≤3000;(exact ar_8r1c hl)⟩,hl,rfl⟩,fun r' e=>?_⟩
  have e':r'.w=stemP x:=e
  show k (.str r'.w) r'
  rw [e']
  exact hk r' e'
theorem step6 (f:Addr) (args:List PV) (Q:PV→Option Fs→Nat→List AO→Prop) (S:Option Fs) (g:Nat) (H:List AO) (hh:spC sp6 f args Q S g H):spC sp5 f args Q S g H∨BodyOK T1 (spC sp5) f args Q S g H:=by
  obtain ⟨rest,r,rfl,hg,rfl,h⟩:=spC_is hh
  exact lookP_is (fun f'=>spC sp5 f (.self g::rest) Q (some (fsR r)) g H∨BodyOK T1 (spC sp5) f' (.self g::rest) Q (some (fsR r)) g H)
    (.cons (fun h=>.inr (shX_is (fun l=>BodyOK T1 (spC sp5) 189 (.self g::l) Q (some (fsR r)) g H) h fun _ h=>(e189 hg).mpr ⟨rfl,f189 h⟩)) .nil) (fun h=>.inl (spC_mk hg h)) h
section
variable {prog:Program} {w:World} {K:Frag} {mg mb:Str→Option Value} {Gs:Array GenState} {Os:OsState}
theorem call0:CallOK prog w K mg mb T1 Gs Os 0 (spC sp0):=by
  intro base W f args Q S g H h
  obtain ⟨_,_,_,_,_,h⟩:=spC_is h
  exact h.elim
theorem call6:CallOK prog w K mg mb T1 Gs Os 6 (spC sp6):=lift (lift (lift (lift (lift (lift call0 step1) step2) step3) step4) step5) step6
end
end Mine

open PySem PySem.W PyProof.Rows PySem.Calls
set_option maxRecDepth 100000
set_option Elab.async false
set_option backward.match.sparseCases false
namespace Mine
noncomputable def fs6R (r:R9):Fs:=[("current",.str r.w),("cursor",.int r.c),("limit",.int r.l),("limit_backward",.int r.lb),("bra",.int r.bra),("ket",.int r.ket)]
noncomputable def dec6 (S:Option Fs):Option R9:=S.bind fun fs=>(decS "current" fs).bind fun a=>(readI ["cursor","limit","limit_backward","bra","ket"] a.2).bind fun is=>
  some ⟨a.1,is.headD 0,is.tail.headD 0,is.tail.tail.headD 0,is.tail.tail.tail.headD 0,is.tail.tail.tail.tail.headD 0,0,0,0⟩
theorem dec6_is {S:Option Fs} {r:R9} (h:dec6 S=some r):S=some (fs6R r):=by
  obtain ⟨fs,e0,h⟩:=bindE h
  obtain ⟨a,e1,h⟩:=bindE h
  obtain ⟨is,e2,h⟩:=bindE h
  rw [e0,decS_is (n:="current") (w:=a.1) (r:=a.2) e1,readI_is e2,← Option.some.inj h]
  rfl
noncomputable abbrev SP6:=Addr→List PV→R9→(PV→Option Fs→Prop)→Prop
noncomputable def six (s6:SP6):CT:=fun f args Q S g H=>headG args g fun rest=>onR (dec6 S) fun r=>s6 f rest r (fun v S'=>Q v S' g H)
theorem six_is {s6:SP6} {f:Addr} {args:List PV} {Q:QT} {S:Option Fs} {g:Nat} {H:List AO} (h:six s6 f args Q S g H) :
    ∃ rest r,args=.self g::rest∧(g=1∨g=2)∧S=some (fs6R r)∧s6 f rest r (fun v S'=>Q v S' g H):=by
  obtain ⟨rest,e,hg,h⟩:=headG_is h
  obtain ⟨r,hd,h⟩:=onR_is h
  exact ⟨rest,r,e,hg,dec6_is hd,h⟩
noncomputable def both (sp:SPK) (s6:SP6):CT:=fun f args Q S g H=>match dec6 S with
  | some _=>six s6 f args Q S g H
  | none=>spC sp f args Q S g H
section
variable {prog:Program} {w:World} {K:Frag} {mg mb:Str→Option Value} {Gs:Array GenState} {Os:OsState}
theorem both_ok {n:Nat} {sp:SPK} {s6:SP6} (a:CallOK prog w K mg mb T1 Gs Os n (spC sp)) (b:CallOK prog w K mg mb T1 Gs Os n (six s6)):CallOK prog w K mg mb T1 Gs Os n (both sp s6):=by
  intro base W f args Q S g H h
  unfold both at h
  split at h
  · exact b base W f args Q S g H h
  · exact a base W f args Q S g H h
end
noncomputable def s1:SP6:=fun f=>lookP f [(42,shX fun x r k=>x.length≤3000∧k .none (some (fs6R { r with w:=x,c:=0,l:=x.length,lb:=0,bra:=0,ket:=x.length })))] fun _ _ _=>False
noncomputable def s4:SP6:=fun f=>lookP f [(237,sh0 fun r k=>R237 r (fun v r'=>k v (some (fsR r'))))] (s1 f)
noncomputable def s5:SP6:=fun f=>lookP f [(300,sh0 fun r k=>R300 r (fun v r'=>k v (some (fsR r'))))] (s1 f)
noncomputable def s6:SP6:=fun f=>lookP f [(189,shX fun x r k=>R189 x r (fun v r'=>k v (some (fsR r'))))] fun _ _ _=>False
section
variable {sp:SPK} {r:R9} {H:List AO} {Q:QT} {g:Nat}
theorem e42s (hg:g=1∨g=2) {x:List Nat}:BodyOK T1 (spC sp0) 42 [.self g,.str x] Q (some (fs6R r)) g H=((2:Nat)=2∧x.length≤4000∧Q .none (some (fs6R { r with w:=x,c:=0,l:=x.length,lb:=0,bra:=0,ket:=x.length })) g H):=by
  rcases hg with rfl | rfl<;>kernel_rfl
theorem e237s (hg:g=1∨g=2):BodyOK T1 (spC sp3) 237 [.self g] Q (some (fs6R r)) g H=((1:Nat)=1∧S237 r (back Q g H)):=by rcases hg with rfl | rfl<;>kernel_rfl
noncomputable def S300s (sp:SPK) (r:R9) (k:KT):Prop:=R237 { r with pV:=0,p1:=0,p2:=0 } <| nR fun r=>sp 265 [] { r with lb:=r.c,c:=r.l } <| nR fun r1=>
  sp 272 [] { r1 with c:=r1.l - (r.l - r.l) } <| onB fun b r2=>match !b with
    | false=>F300 sp (r1.l - (r1.l - (r.l - r.l))) r2 k
    | true=>sp 279 [] { r2 with c:=r2.l - (r1.l - (r1.l - (r.l - r.l))) } <| onB fun b r3=>match !b with
      | false=>F300 sp (r1.l - (r1.l - (r.l - r.l))) r3 k
      | true=>sp 286 [] { r3 with c:=r3.l - (r1.l - (r1.l - (r.l - r.l))) } <| onB fun b r4=>match !b with
        | true=>F300 sp (r1.l - (r1.l - (r.l - r.l))) r4 k
        | false=>F300 sp (r1.l - (r1.l - (r.l - r.l))) r4 k
theorem e300s (hg:g=1∨g=2):BodyOK T1 (both sp s4) 300 [.self g] Q (some (fs6R r)) g H=((1:Nat)=1∧S300s sp r (back Q g H)):=by rcases hg with rfl | rfl<;>kernel_rfl
theorem e189s (hg:g=1∨g=2) {x:List Nat}:BodyOK T1 (both sp s5) 189 [.self g,.str x] Q (some (fs6R r)) g H=((2:Nat)=2∧x.length≤3000 ∧
    R300 { r with w:=x,c:=0,l:=x.length,lb:=0,bra:=0,ket:=x.length,pV:=0,p1:=0,p2:=0 } (nR fun r=>sp 49 [] r (back Q g H))):=by rcases hg with rfl | rfl<;>kernel_rfl
end
end Mine

open PySem PySem.W PyProof.Rows PySem.Calls
set_option maxRecDepth 100000
set_option Elab.async false
set_option backward.match.sparseCases false
namespace Mine
section
variable {C:CT} {r:R9} {H:List AO} {Q:QT} {g:Nat}
theorem e42c (hg:g=1∨g=2) {x:List Nat}:BodyOK T1 C 42 [.self g,.str x] Q (some (fs6R r)) g H=((2:Nat)=2∧x.length≤4000∧Q .none (some (fs6R { r with w:=x,c:=0,l:=x.length,lb:=0,bra:=0,ket:=x.length })) g H):=by
  rcases hg with rfl | rfl<;>kernel_rfl
theorem of_s1 {f:Addr} {rest:List PV} (hg:g=1∨g=2) (h:s1 f rest r (fun v S'=>Q v S' g H)):BodyOK T1 C f (.self g::rest) Q (some (fs6R r)) g H:=by
  exact lookP_is (fun f=>BodyOK T1 C f (.self g::rest) Q (some (fs6R r)) g H) (.cons (fun h=>shX_is (fun l=>BodyOK T1 C 42 (.self g::l) Q (some (fs6R r)) g H) h fun _ h=>(e42c hg).mpr ⟨rfl,ar_1mx0 h.1,h.2⟩) .nil) False.elim h
end
section
variable {prog:Program} {w:World} {K:Frag} {mg mb:Str→Option Value} {Gs:Array GenState} {Os:OsState}
theorem call3:CallOK prog w K mg mb T1 Gs Os 3 (spC sp3):=lift (lift (lift call0 step1) step2) step3
theorem call4:CallOK prog w K mg mb T1 Gs Os 4 (spC sp4):=lift call3 step4
theorem call5:CallOK prog w K mg mb T1 Gs Os 5 (spC sp5):=lift call4 step5
theorem call4s:CallOK prog w K mg mb T1 Gs Os 4 (six s4):=lift call3 fun f args Q S g H hh=>by
  obtain ⟨rest,r,rfl,hg,rfl,h⟩:=six_is hh
  refine .inr ?_
  exact lookP_is (fun f'=>BodyOK T1 (spC sp3) f' (.self g::rest) Q (some (fs6R r)) g H) (.cons (fun h=>sh0_is (fun l=>BodyOK T1 (spC sp3) 237 (.self g::l) Q (some (fs6R r)) g H) h fun h=>(e237s hg).mpr ⟨rfl,f237 h.1.1 h.1.2 h.2⟩) .nil) (of_s1 hg) h
theorem call5s:CallOK prog w K mg mb T1 Gs Os 5 (six s5):=lift (both_ok call4 call4s) fun f args Q S g H hh=>by
  obtain ⟨rest,r,rfl,hg,rfl,h⟩:=six_is hh
  refine .inr ?_
  exact lookP_is (fun f'=>BodyOK T1 (both sp4 s4) f' (.self g::rest) Q (some (fs6R r)) g H) (.cons (fun h=>sh0_is (fun l=>BodyOK T1 (both sp4 s4) 300 (.self g::l) Q (some (fs6R r)) g H) h fun h=>(e300s hg).mpr
    ⟨rfl,f300 (r:={ r with pV:=0,p1:=0,p2:=0 }) h.1.1 h.1.2.1 h.1.2.2 h.2⟩) .nil) (of_s1 hg) h
theorem call6s:CallOK prog w K mg mb T1 Gs Os 6 (six s6):=lift (both_ok call5 call5s) fun f args Q S g H hh=>by
  obtain ⟨rest,r,rfl,hg,rfl,h⟩:=six_is hh
  refine .inr ?_
  exact lookP_is (fun f'=>BodyOK T1 (both sp5 s5) f' (.self g::rest) Q (some (fs6R r)) g H) (.cons (fun h=>shX_is (fun l=>BodyOK T1 (both sp5 s5) 189 (.self g::l) Q (some (fs6R r)) g H) h fun x h=>(e189s hg).mpr
    ⟨rfl,ar_21a0 h.1,⟨⟨rfl,ar_8r1c h.1⟩,h.1,rfl⟩,fun r' e=>show back Q g H (.str r'.w) r' from (show r'.w=stemP x from e).symm▸h.2 r' e⟩) .nil) False.elim h
theorem call6b:CallOK prog w K mg mb T1 Gs Os 6 (both sp6 s6):=both_ok call6 call6s
end
end Mine

open PySem PySem.W PyProof.Rows PySem.Calls
set_option maxRecDepth 100000
set_option Elab.async false
set_option backward.match.sparseCases true
namespace Mine
noncomputable def new6 (x:List Nat):Fs:=fs6R ⟨x,0,x.length,0,0,x.length,0,0,0⟩
noncomputable def isNew (S:Option Fs) (P:Prop):Prop:=match S with
  | some []=>P
  | _=>False
theorem isNew_is {S:Option Fs} {P:Prop} (h:isNew S P):S=some []∧P:=by
  rcases S with _ | ⟨_ | ⟨x,r⟩⟩
  · exact h.elim
  · exact ⟨rfl,h⟩
  · exact h.elim
noncomputable def onB2 (b:Bool) (P:Prop):Prop:=bif b then P else False
theorem onB2_is {b:Bool} {P:Prop} (h:onB2 b P):b=true∧P:=by
  cases b
  · exact h.elim
  · exact ⟨rfl,h⟩
noncomputable def nul42:CT:=fun f args Q S g H=>onB2 (Nat.beq f 42) <| isNew S <| headG args g fun rest=>oneP rest fun p=>txtP p fun x=>x.length≤3000∧Q .none (some (new6 x)) g H
noncomputable def nul35:CT:=fun f args Q S g H=>onB2 (Nat.beq f 35) <| isNew S <| headG args g fun rest=>match rest with
  | []=>Q .none (some (new6 [])) g H
  | _::_=>False
section
variable {C:CT} {H:List AO} {Q:QT} {g:Nat}
theorem e42n (hg:g=1∨g=2) {x:List Nat}:BodyOK T1 C 42 [.self g,.str x] Q (some []) g H=((2:Nat)=2∧x.length≤4000∧Q .none (some (new6 x)) g H):=by rcases hg with rfl | rfl<;>kernel_rfl
theorem e35n (hg:g=1∨g=2):BodyOK T1 nul42 35 [.self g] Q (some []) g H=((1:Nat)=1∧([]:List Nat).length≤3000∧Q .none (some (new6 [])) g H):=by rcases hg with rfl | rfl<;>kernel_rfl
end
section
variable {prog:Program} {w:World} {K:Frag} {mg mb:Str→Option Value} {Gs:Array GenState} {Os:OsState}
theorem call1n:CallOK prog w K mg mb T1 Gs Os 1 nul42:=lift call0 fun f args Q S g H h=>by
  refine .inr ?_
  obtain ⟨q,h⟩:=onB2_is h
  obtain ⟨rfl,h⟩:=isNew_is h
  obtain ⟨rest,rfl,hg,h⟩:=headG_is h
  obtain ⟨p,rfl,h⟩:=oneP_is h
  obtain ⟨x,rfl,h⟩:=txtP_is h
  rw [Nat.eq_of_beq_eq_true q,e42n hg]
  exact ⟨rfl,ar_1mx0 h.1,h.2⟩
theorem call2n:CallOK prog w K mg mb T1 Gs Os 2 nul35:=lift call1n fun f args Q S g H h=>by
  refine .inr ?_
  obtain ⟨q,h⟩:=onB2_is h
  obtain ⟨rfl,h⟩:=isNew_is h
  obtain ⟨rest,rfl,hg,h⟩:=headG_is h
  cases rest with
  | nil=>
    rw [Nat.eq_of_beq_eq_true q,e35n hg]
    exact ⟨rfl,Nat.zero_le _,h⟩
  | cons=>exact h.elim
end
end Mine

open PySem PySem.W PyProof.Rows PySem.Calls
set_option maxRecDepth 100000
set_option Elab.async false
set_option backward.match.sparseCases false
namespace Mine
theorem zip_lookup:∀ (ps:List Str) (vs:List Value) (x:Str),vs.length=ps.length→x∈ps→((ps.zip vs).lookup x).isSome=true
  | [],_,x,_,h=>by cases h
  | p::ps,[],x,h,_=>by simp at h
  | p::ps,v::vs,x,h,hx=>by
    simp only [List.zip_cons_cons,List.lookup_cons]
    cases q:(x==p) with
    | true=>rfl
    | false=>
      rcases List.mem_cons.mp hx with e | hx
      · subst e;simp at q
      · exact zip_lookup ps vs x (by simpa using h) hx
theorem fm_congr {α β:Type} {f g:α→Option β}:∀ (l:List α),(∀ x∈l,f x=g x)→l.filterMap f=l.filterMap g
  | [],_=>rfl
  | a::r,h=>by rw [List.filterMap_cons,List.filterMap_cons,h a (.head _),fm_congr r fun x hx=>h x (.tail _ hx)]
theorem zip_filterMap:∀ (ps:List Str) (vs:List Value),ps.Nodup→vs.length=ps.length→ps.filterMap (fun n=>((ps.zip vs).lookup n).map (n,·))=ps.zip vs:=by
  intro ps vs hn hl
  have gen:∀ (l:List (Str × Value)),(l.map (·.1)).Nodup→(l.map (·.1)).filterMap (fun n=>(l.lookup n).map (n,·))=l:=by
    intro l
    induction l with
    | nil=>intro _;rfl
    | cons a r ih=>
      intro h
      obtain ⟨k,v⟩:=a
      rw [List.map_cons,List.nodup_cons] at h
      rw [List.map_cons,List.filterMap_cons]
      simp only [List.lookup_cons,beq_self_eq_true,Option.map_some]
      congr 1
      refine Eq.trans (fm_congr _ fun x hx=>?_) (ih h.2)
      have:(x==k)=false:=by
        cases q:(x==k) with
        | false=>rfl
        | true=>rw [beq_iff_eq.mp q] at hx;exact absurd hx h.1
      rw [this]
  have:=gen (ps.zip vs) (by rw [zip_keys _ _ hl];exact hn)
  rwa [zip_keys _ _ hl] at this
theorem if_isNil {α β:Type} {l:List α} (h:l=[]) {a b:β}:(if (!l.isEmpty)=true then a else b)=b:=by rw [h];rfl
theorem if_le {a b:Nat} {β:Type} (h:a≤b) {c:Bool} {x y:β}:(if (decide (a > b)&&c)=true then x else y)=y:=by rw [decide_eq_false (Nat.not_lt.mpr h)];rfl
theorem no_missing {ps:List Str} {vs:List Value} (hl:vs.length=ps.length):(ps.filter fun n=>((ps.zip vs).lookup n).isNone)=[]:=by
  rw [List.filter_eq_nil_iff]
  intro x hx
  have:=zip_lookup ps vs x hl hx
  cases q:(ps.zip vs).lookup x with
  | none=>rw [q] at this;cases this
  | some _=>exact Bool.false_ne_true
theorem bind_plain {fd:FuncData} {vs:List Value} (h1:fd.params.posonlyargs=[]) (h2:fd.params.vararg=none) (h3:fd.params.kwonlyargs=[]) (h4:fd.params.kwarg=none) (h5:fd.defaults=.none)
    (hn:(fd.params.args.map (·.arg)).Nodup) (hl:vs.length=(fd.params.args.map (·.arg)).length):bindArgs fd ⟨vs,[]⟩=pure ((fd.params.args.map (·.arg)).zip vs):=by
  obtain ⟨a1,a2,⟨p1,p2,p3,p4,p5,p6,p7⟩,a4,a5,a6,a7,a8,a9,a10,a11,a12,a13,a14,a15⟩:=fd
  dsimp only at h1 h2 h3 h4 h5 hn hl
  subst h1 h2 h3 h4 h5
  refine Eq.trans (if_le (a:=vs.length) (b:=(p2.map fun a:Arg=>a.arg).length) (c:=true) (Nat.le_of_eq hl):_=_) ?_
  dsimp only [Option.getD,Array.toList]
  refine Eq.trans (if_isNil ?_) ?_
  · rw [List.drop_nil]
    show ((((p2.map fun a:Arg=>a.arg)).take ((p2.map fun a:Arg=>a.arg).length - 0)).filter fun n=>(((p2.map fun a:Arg=>a.arg).zip vs).lookup n).isNone)=[]
    rw [Nat.sub_zero,List.take_length];exact no_missing hl
  rw [List.drop_nil,List.zip_nil_right]
  exact congrArg (fun l=>(pure l:Sem (List (Str × Value)))) ((congrArg (List.filterMap _) (List.append_nil _)).trans (zip_filterMap _ vs hn hl))
end Mine

open PySem PySem.W PyProof.Rows PySem.Calls
set_option maxRecDepth 100000
set_option Elab.async false
set_option backward.match.sparseCases true
namespace Mine
noncomputable def fnPart (K:Frag) (f:Addr):Option Fn:=match K.lookup f with
  | some ⟨_,_,.func fd,_⟩=>(match fd.body with | .stmts b=>some ⟨fd.params.args.map (·.arg),fd.scope,b⟩ | _=>none)
  | _=>none
noncomputable def nodupB:List Str→Bool
  | []=>true
  | a::r=>!(r.contains a)&&nodupB r
theorem nodupB_is:∀ {l:List Str},nodupB l=true→l.Nodup
  | [],_=>List.nodup_nil
  | a::r,h=>by
    unfold nodupB at h
    rw [Bool.and_eq_true,Bool.not_eq_true'] at h
    have h1:=h.1
    simp at h1
    exact List.nodup_cons.mpr ⟨h1,nodupB_is h.2⟩
noncomputable def fnGood (K:Frag) (f:Addr):Bool:=match K.lookup f with
  | some ⟨_,_,.func fd,_⟩=>fd.globals==mainGlobals&&fd.builtins==builtinsNs&&fd.closure.isEmpty&&codeIn K fd.code fd.qualname&&decide (fd.scope.kind=.function)&&!fd.scope.isCoroutine&&!fd.scope.isGenerator &&
      fd.scope.names.all (fun x=>!decide (x.2=.cell))&&(fd.params.args.map (·.arg)).all (fun x=>decide (fd.scope.names.lookup x=some .local))&&nodupB (fd.params.args.map (·.arg)) &&
      fd.params.posonlyargs.isEmpty&&fd.params.vararg.isNone&&fd.params.kwonlyargs.isEmpty&&fd.params.kwarg.isNone&&fd.defaults==.none
  | _=>false
theorem fnIn_of {K:Frag} {f:Addr} {F:Fn} (hp:fnPart K f=some F) (hg:fnGood K f=true):fnIn K f F:=by
  unfold fnPart at hp
  unfold fnGood at hg
  split at hp
  · rename_i c d fd sl ho
    rw [ho] at hg
    simp only [Bool.and_eq_true,beq_iff_eq,Bool.not_eq_true',decide_eq_true_eq,List.isEmpty_iff,Option.isNone_iff_eq_none] at hg
    obtain ⟨⟨⟨⟨⟨⟨⟨⟨⟨⟨⟨⟨⟨⟨g1,g2⟩,g3⟩,g4⟩,g5⟩,g6⟩,g7⟩,g8⟩,g9⟩,g10⟩,g11⟩,g12⟩,g13⟩,g14⟩,g15⟩:=hg
    split at hp
    · rename_i b hb
      cases hp
      refine ⟨_,fd,ho,rfl,rfl,hb,g1,g2,g3,fun h X=>codeRec_of X g4,g5,g6,g7,fun x hx=>?_,fun x hx=>?_,nodupB_is g10,fun vs hl=>bind_plain g11 g12 g13 g14 g15 (nodupB_is g10) hl⟩
      · have:=List.all_eq_true.mp g8 x hx
        simpa using this
      · exact of_decide_eq_true (List.all_eq_true.mp g9 x hx)
    · cases hp
  · cases hp
end Mine

open PySem PySem.W PyProof.Rows PySem.Calls
set_option maxRecDepth 100000
set_option Elab.async false
set_option backward.match.sparseCases true
namespace Mine
noncomputable def fnGoodC (K:Frag) (f:Addr):Bool:=match K.lookup f with
  | some ⟨_,_,.func fd,_⟩=>fd.globals==mainGlobals&&fd.builtins==builtinsNs&&fd.closure.isEmpty&&codeIn K fd.code fd.qualname&&decide (fd.scope.kind=.function)&&!fd.scope.isCoroutine&&!fd.scope.isGenerator &&
      nodupB (fd.scope.names.map (·.1))&&(fd.params.args.map (·.arg)).all (fun x=>decide (fd.scope.names.lookup x=some .local)||decide (fd.scope.names.lookup x=some .cell))&&nodupB (fd.params.args.map (·.arg)) &&
      fd.params.posonlyargs.isEmpty&&fd.params.vararg.isNone&&fd.params.kwonlyargs.isEmpty&&fd.params.kwarg.isNone&&fd.defaults==.none
  | _=>false
theorem fnInC_of {K:Frag} {f:Addr} {F:Fn} (hp:fnPart K f=some F) (hg:fnGoodC K f=true):fnInC K f F:=by
  unfold fnPart at hp
  unfold fnGoodC at hg
  split at hp
  · rename_i c d fd sl ho
    rw [ho] at hg
    simp only [Bool.and_eq_true,beq_iff_eq,Bool.not_eq_true',decide_eq_true_eq,List.isEmpty_iff,Option.isNone_iff_eq_none] at hg
    obtain ⟨⟨⟨⟨⟨⟨⟨⟨⟨⟨⟨⟨⟨⟨g1,g2⟩,g3⟩,g4⟩,g5⟩,g6⟩,g7⟩,g8⟩,g9⟩,g10⟩,g11⟩,g12⟩,g13⟩,g14⟩,g15⟩:=hg
    split at hp
    · rename_i b hb
      cases hp
      refine ⟨_,fd,ho,rfl,rfl,hb,g1,g2,g3,fun h X=>codeRec_of X g4,g5,g6,g7,nodupB_is g8,fun x hx=>?_,nodupB_is g10,fun vs hl=>bind_plain g11 g12 g13 g14 g15 (nodupB_is g10) hl⟩
      have:=List.all_eq_true.mp g9 x hx
      rcases Bool.or_eq_true_iff.mp this with h | h
      · exact .inl (of_decide_eq_true h)
      · exact .inr (of_decide_eq_true h)
    · cases hp
  · cases hp
noncomputable abbrev Lk:=Addr→Option Obj
noncomputable def Under (lk:Lk) (K:Frag):Prop:=∀ a o,lk a=some o→K.lookup a=some o
noncomputable def fnPartL (lk:Lk) (f:Addr):Option Fn:=match lk f with
  | some ⟨_,_,.func fd,_⟩=>(match fd.body with | .stmts b=>some ⟨fd.params.args.map (·.arg),fd.scope,b⟩ | _=>none)
  | _=>none
theorem fnPartL_is {lk:Lk} {K:Frag} (u:Under lk K) {f:Addr} {F:Fn} (h:fnPartL lk f=some F):fnPart K f=some F:=by
  unfold fnPartL at h
  split at h
  · rename_i ho
    unfold fnPart
    rw [u _ _ ho]
    exact h
  · cases h
noncomputable def strV (v:Value):Option (List Nat):=match v with
  | .str s _=>some s.cps.toList
  | _=>none
theorem strV_is {v:Value} {l:List Nat} (h:strV v=some l):∃ t,v=.str ⟨l.toArray⟩ t:=by
  cases v<;>first | exact (Option.some_ne_none _ h.symm).elim | skip
  rename_i s t
  exact ⟨t,by rw [← Option.some.inj (h:some s.cps.toList=some l)]⟩
noncomputable def intV (v:Value):Option Int:=match v with
  | .int i _=>some i
  | _=>none
theorem intV_is {v:Value} {l:Int} (h:intV v=some l):∃ t,v=.int l t:=by
  cases v<;>first | exact (Option.some_ne_none _ h.symm).elim | skip
  rename_i s t
  exact ⟨t,by rw [← Option.some.inj (h:some s=some l)]⟩
noncomputable def refV (v:Value):Option Addr:=match v with
  | .ref a=>some a
  | _=>none
theorem refV_is {v:Value} {a:Addr} (h:refV v=some a):v=.ref a:=by
  cases v<;>first | exact (Option.some_ne_none _ h.symm).elim | skip
  rename_i s
  rw [← Option.some.inj (h:some s=some a)]
noncomputable def valIn (x:Str) (o:Obj):Option Value:=(lookIn x o).bind _root_.id
theorem valIn_is {x:Str} {o:Obj} {v:Value} (h:valIn x o=some v):lookIn x o=some (some v):=by
  obtain ⟨y,h1,h2⟩:=Option.bind_eq_some_iff.mp h
  rw [h1];exact congrArg some h2
noncomputable def amFrom (od:Obj):Option Am:=((valIn "s" od).bind strV).bind fun s=>((valIn "substring_i" od).bind intV).bind fun i=>((valIn "result" od).bind intV).map fun j=>⟨s,i,j⟩
theorem amFrom_is {od:Obj} {r:Am} (h:amFrom od=some r):∃ t1 t2 t3,lookIn "s" od=some (some (.str ⟨r.s.toArray⟩ t1))∧lookIn "substring_i" od=some (some (.int r.sub t2))∧lookIn "result" od=some (some (.int r.res t3)):=by
  obtain ⟨s,h1,h2⟩:=Option.bind_eq_some_iff.mp h
  obtain ⟨i,h3,h4⟩:=Option.bind_eq_some_iff.mp h2
  obtain ⟨j,h5,h6⟩:=Option.map_eq_some_iff.mp h4
  obtain ⟨v1,a1,b1⟩:=Option.bind_eq_some_iff.mp h1
  obtain ⟨v2,a2,b2⟩:=Option.bind_eq_some_iff.mp h3
  obtain ⟨v3,a3,b3⟩:=Option.bind_eq_some_iff.mp h5
  obtain ⟨t1,e1⟩:=strV_is b1
  obtain ⟨t2,e2⟩:=intV_is b2
  obtain ⟨t3,e3⟩:=intV_is b3
  rw [← h6]
  exact ⟨t1,t2,t3,by rw [valIn_is a1,e1],by rw [valIn_is a2,e2],by rw [valIn_is a3,e3]⟩
noncomputable def amPart (lk:Lk) (a:Addr):Option Am:=(lk a).bind fun ox=>bif ox.cls==.ref 218&&notCls ox then ox.dict.bind fun dx=>(lk dx).bind amFrom else none
theorem amPart_is {lk:Lk} {K:Frag} (u:Under lk K) {a:Addr} {r:Am} (h:amPart lk a=some r):AmAt K a r:=by
  obtain ⟨ox,h1,h2⟩:=Option.bind_eq_some_iff.mp h
  cases hc:ox.cls==.ref 218&&notCls ox with
  | false=>rw [hc] at h2;exact (Option.some_ne_none _ h2.symm).elim
  | true=>
    rw [hc] at h2
    obtain ⟨dx,h3,h4⟩:=Option.bind_eq_some_iff.mp h2
    obtain ⟨od,h5,h6⟩:=Option.bind_eq_some_iff.mp h4
    obtain ⟨t1,t2,t3,l1,l2,l3⟩:=amFrom_is h6
    rw [Bool.and_eq_true,beq_iff_eq] at hc
    exact ⟨ox,dx,od,t1,t2,t3,u _ _ h1,hc.1,hc.2,h3,u _ _ h5,l1,l2,l3⟩
noncomputable def ams (lk:Lk):List Value→Option (List Am)
  | []=>some []
  | v::r=>((refV v).bind (amPart lk)).bind fun x=>(ams lk r).map (x::·)
theorem ams_is {lk:Lk} {K:Frag} (u:Under lk K):∀ {vs:List Value} {rs:List Am},ams lk vs=some rs→vs.length=rs.length∧∀ (i:Nat) (r:Am),rs[i]?=some r→∃ b,vs[i]?=some (Value.ref b)∧AmAt K b r
  | [],rs,h=>by rw [← Option.some.inj (h:some []=some rs)];exact ⟨rfl,fun i r h=>(Option.some_ne_none _ h.symm).elim⟩
  | v::vs,rs,h=>by
    obtain ⟨x,h1,h2⟩:=Option.bind_eq_some_iff.mp (h:((refV v).bind (amPart lk)).bind (fun x=>(ams lk vs).map (x::·))=some rs)
    obtain ⟨l,h3,rfl⟩:=Option.map_eq_some_iff.mp h2
    obtain ⟨b,h4,h5⟩:=Option.bind_eq_some_iff.mp h1
    obtain ⟨q1,q2⟩:=ams_is u h3
    refine ⟨congrArg (·+1) q1,fun i r hr=>?_⟩
    cases i with
    | zero=>exact ⟨b,congrArg some (refV_is h4),Option.some.inj (hr:some x=some r)▸amPart_is u h5⟩
    | succ i=>exact q2 i r hr
noncomputable def tabPart (lk:Lk) (a:Addr):Option (List Am):=match lk a with
  | some o=>(match o.cls==.type "list",o.data with | true,.seq vs _=>ams lk vs.toList | _,_=>none)
  | none=>none
theorem tabPart_is {lk:Lk} {K:Frag} (u:Under lk K) {a:Addr} {rs:List Am} (h:tabPart lk a=some rs):TabAm K a rs:=by
  unfold tabPart at h
  split at h
  · rename_i o ho
    split at h
    · rename_i vs n hc hd
      obtain ⟨h1,h2⟩:=ams_is u h
      exact ⟨o,vs,n,u _ _ ho,beq_iff_eq.mp hc,hd,by simpa using h1,fun i r hr=>by simpa using h2 i r hr⟩
    · cases h
  · cases h
noncomputable def findC (K:Frag) (x:Str):Option Value:=match findCls K (.ref 925) (.type "type") x with
  | some (.val v)=>(match handedIn v with | true=>some v | false=>none)
  | _=>none
noncomputable def tabSeen (lk:Lk) (K:Frag) (x:Str):Option (List Am):=match findC K x with
  | some (.ref a)=>tabPart lk a
  | _=>none
noncomputable def glList:List (Str × PV):=[(("SpanishStemmer":Str),PV.cls 925),("lab0",.cls 937),("lab1",.cls 950),("lab2",.cls 963),("len",.blt .len),("ord",.blt .ord),("min",.blt .min),("range",.typ .range),("list",.typ .list),
  ("_law_vowels",.fn 973),("_law_letters",.fn 980),("_law_parts",.fn 987),("_law_plain",.fn 996),("_law_nouns",.fn 1003),("_law_ends",.fn 1013),("_law_word",.fn 1020),("_law_end",.fn 1027),("_law_cut",.fn 1034),
  ("_law_less",.fn 1041),("_law_behind",.fn 1048),("_law_first",.fn 1055),("_law_pronoun",.fn 1062),("_law_noun",.fn 1069),("_law_verb",.fn 1076),("_law_stem",.fn 1083),
  ("_law_pronouns",.strs (strsP pw "_law_pronouns")),("_law_before",.strs (strsP pw "_law_before")),("_law_ys",.strs (strsP pw "_law_ys")),("_law_verbs",.strs (strsP pw "_law_verbs")),("_law_last",.strs (strsP pw "_law_last"))]
theorem gl1_is (x:Str):gl1 x=glList.lookup x:=rfl
noncomputable def strsOfV:List Value→Option (List (List Nat))
  | []=>some []
  | .str s _::r=>(match strsOfV r with | some l=>some (s.cps.toList::l) | none=>none)
  | _=>none
theorem strsOfV_is:∀ {vs:List Value} {ss:List (List Nat)},strsOfV vs=some ss→vs.length=ss.length∧∀ (i:Nat) (s:List Nat),ss[i]?=some s→∃ t,vs[i]?=some (Value.str ⟨s.toArray⟩ t)
  | [],ss,h=>by cases h;exact ⟨rfl,fun i s h=>by simp at h⟩
  | v::vs,ss,h=>by
    cases v<;>try (cases h;done)
    rename_i s t
    unfold strsOfV at h
    split at h
    · rename_i l hl
      cases h
      obtain ⟨h1,h2⟩:=strsOfV_is hl
      refine ⟨by simp [h1],fun i x hx=>?_⟩
      cases i with
      | zero=>cases hx;exact ⟨t,by simp⟩
      | succ i=>exact h2 i x hx
    · cases h
noncomputable def strsPart (K:Frag) (a:Addr):Option (List (List Nat)):=match K.lookup a with
  | some o=>(match o.cls==.type "list",o.data with | true,.seq vs _=>strsOfV vs.toList | _,_=>none)
  | none=>none
theorem strsPart_is {K:Frag} {a:Addr} {ss:List (List Nat)} (h:strsPart K a=some ss):StrsAt K a ss:=by
  unfold strsPart at h
  split at h
  · rename_i o ho
    split at h
    · rename_i vs n hc hd
      obtain ⟨h1,h2⟩:=strsOfV_is h
      exact ⟨o,vs,n,ho,beq_iff_eq.mp hc,hd,by simpa using h1,fun i r hr=>by simpa using h2 i r hr⟩
    · cases h
  · cases h
noncomputable def glGood (K:Frag):Bool:=glList.all fun p=>match p.2 with
  | .cls a=>nsIn K 3 p.1==some (some (.ref a))
  | .fn a=>nsIn K 3 p.1==some (some (.ref a))
  | .blt b=>nsIn K 3 p.1==some none&&bootBuiltins p.1==some (.builtin b.id)&&!(p.1==("__name__":Str))
  | .typ b=>nsIn K 3 p.1==some none&&bootBuiltins p.1==some (.type b.id)&&!(p.1==("__name__":Str))
  | .strs l=>(match nsIn K 3 p.1 with | some (some (.ref a))=>strsPart K a==some l | _=>false)
  | _=>false
noncomputable def fA (K:Frag):Bool:=findIn K (.ref 925) "__getattribute__"==some (some (.builtin "object.__getattribute__"))&&(findIn K (.ref 925) "__getattr__"==some none&&(findIn K (.ref 925) "__setattr__"==some (some (.builtin "object.__setattr__")) &&
  (plainOver K 925&&(clsIn K 925).any (·.hasDict))))
noncomputable def fB (K:Frag):Bool:=fieldNames.all (backIn K 925) &&
  ((fnAddrs++cfnAddrs).all (fun q=>q.2.1==("":Str)||(findIn K (.ref 925) q.2.2==some (some (.ref q.1))&&typeIn K (.ref q.1)==some (.type "function"))) &&
  (findIn K (.ref 218) "__getattribute__"==some (some (.builtin "object.__getattribute__"))&&((clsIn K 218).any (·.hasDict)&&(["s","substring_i","result"]:List Str).all (fun x=>findIn K (.ref 218) x==some none))))
noncomputable def fC (K:Frag):Bool:=fnAddrs.all (fun q=>fnGood K q.1)&&(cfnAddrs.all (fun q=>fnGoodC K q.1)&&([937,950,963].all (fun C=>excIn K C [.type "Exception",.type "BaseException",.type "object"] "Exception.__new__") &&
  (readsIn K 925 (.type "type")&&findC K "g_v"==some (.ref 230))))
noncomputable def fD (K:Frag):Bool:=glGood K&&(makesIn K 925&&(findIn K (.ref 925) "__init__"==some (some (.ref 35))&&(typeIn K (.ref 35)==some (.type "function")&&keepIn K (.ref 925))))
noncomputable def factsB (K:Frag):Bool:=fA K&&(fB K&&(fC K&&fD K))
theorem and4 {a b c d e:Bool} (h:(a&&(b&&(c&&(d&&e))))=true):a=true∧b=true∧c=true∧d=true∧e=true:=by
  rw [Bool.and_eq_true,Bool.and_eq_true,Bool.and_eq_true,Bool.and_eq_true] at h;exact h
theorem and3 {a b c d:Bool} (h:(a&&(b&&(c&&d)))=true):a=true∧b=true∧c=true∧d=true:=by
  rw [Bool.and_eq_true,Bool.and_eq_true,Bool.and_eq_true] at h;exact h
noncomputable def lawAt (K:Frag):Bool:=nsIn K 3 "law"==some (some (.ref 1088))
noncomputable def partsA (lk:Lk):List (Addr × Str × Str)→List (Option Fn)
  | []=>[]
  | q::r=>fnPartL lk q.1::partsA lk r
noncomputable def partsB:List (Addr × Str × Str)→List (Option Fn)
  | []=>[]
  | q::r=>fnP pw q.2.1 q.2.2::partsB r
theorem parts_eq {lk:Lk}:∀ {l:List (Addr × Str × Str)},partsA lk l=partsB l→∀ q∈l,fnPartL lk q.1=fnP pw q.2.1 q.2.2
  | [],_,q,h=>by cases h
  | p::r,e,q,h=>by
    injection e with e1 e2
    rcases List.mem_cons.mp h with rfl | h
    · exact e1
    · exact parts_eq e2 q h
noncomputable def tabsA (lk:Lk) (K:Frag):List Str→List (Option (List Am))
  | []=>[]
  | q::r=>tabSeen lk K q::tabsA lk K r
noncomputable def tabsB:List Str→List (Option (List Am))
  | []=>[]
  | q::r=>some (tabP pw q)::tabsB r
theorem tabs_eq {lk:Lk} {K:Frag}:∀ {l:List Str},tabsA lk K l=tabsB l→∀ q∈l,tabSeen lk K q=some (tabP pw q)
  | [],_,q,h=>by cases h
  | p::r,e,q,h=>by
    injection e with e1 e2
    rcases List.mem_cons.mp h with rfl | h
    · exact e1
    · exact tabs_eq e2 q h
noncomputable def partsSeen (lk:Lk):List (Option Fn):=partsA lk (fnAddrs++cfnAddrs)
noncomputable def partsGood:List (Option Fn):=partsB (fnAddrs++cfnAddrs)
noncomputable def tabsSeen (lk:Lk) (K:Frag):List (Option (List Am)):=tabsA lk K tabNames
noncomputable def tabsGood:List (Option (List Am)):=tabsB tabNames
theorem lookup_mem {β:Type}:∀ {l:List (Addr × β)} {a:Addr} {b:β},l.lookup a=some b→(a,b)∈l
  | (k,v)::r,a,b,h=>by
    rw [List.lookup_cons] at h
    cases q:a==k with
    | true=>rw [q] at h;cases h;rw [beq_iff_eq.mp q];exact .head _
    | false=>rw [q] at h;exact .tail _ (lookup_mem h)
section
variable {K:Frag} {h:Heap} {mg:Str→Option Value}
theorem nsIn_ns (X:K.In h) (n:h.Ns 3 mg) {x:Str} {r:Option Value} (e:nsIn K 3 x=some r):mg x=r:=by
  obtain ⟨o,h1,h2⟩:=look_ns n
  unfold nsIn at e
  split at e
  · rename_i c d es ep sl ho
    have:=X _ _ ho
    rw [h1] at this
    cases this
    have z:=h2 x
    unfold lookIn at z
    dsimp only at z
    exact Option.some.inj (z.symm.trans e)
  · cases e
end
section
variable {K:Frag} {lk:Lk} {base:Heap} {mg mb:Str→Option Value}
theorem gl_of (X:K.In base) (hg:base.Ns mainGlobals mg) (hbb:∀ x:Str,x≠"__name__"→mb x=bootBuiltins x) (f16:glGood K=true):∀ x pv,T1.gl x=some pv→∃ v,(∀ ρ,VR K ρ v pv)∧(mg x=some v∨(mg x=none∧mb x=some v)):=by
  intro x pv hx
  have hm:=mem_of_lookup (l:=glList) hx
  have z:=List.all_eq_true.mp f16 _ hm
  have bb:∀ (v:Value),(nsIn K 3 x==some none&&bootBuiltins x==some v&&!(x==("__name__":Str)))=true→mg x=none∧mb x=some v:=by
    intro v q
    simp only [Bool.and_eq_true,beq_iff_eq,Bool.not_eq_true'] at q
    refine ⟨nsIn_ns X hg q.1.1,?_⟩
    rw [hbb x (by intro e;rw [e] at q;simp at q),q.1.2]
  cases pv<;>try (cases z;done)
  · exact ⟨_,fun ρ=>rfl,.inl (nsIn_ns X hg (beq_iff_eq.mp z))⟩
  · exact ⟨_,fun ρ=>rfl,.inl (nsIn_ns X hg (beq_iff_eq.mp z))⟩
  · exact ⟨_,fun ρ=>rfl,.inr (bb _ z)⟩
  · exact ⟨_,fun ρ=>rfl,.inr (bb _ z)⟩
  · dsimp only at z
    split at z
    · rename_i a e
      have e':=nsIn_ns X hg e
      exact ⟨.ref a,fun ρ=>⟨a,rfl,strsPart_is (beq_iff_eq.mp z)⟩,.inl e'⟩
    · cases z
theorem cat_of (u:Under lk K) (tabs:∀ n∈tabNames,tabSeen lk K n=some (tabP pw n)) (f14:readsIn K 925 (.type "type")=true) (f15:findC K "g_v"=some (.ref 230)) :
    ∀ C x pv,T1.cat C x=some pv→∃ v mc,readsIn K C mc=true∧findCls K (.ref C) mc x=some (.val v)∧handedIn v=true∧∀ ρ,VR K ρ v pv:=by
  intro C x pv hc
  have find:∀ v,findC K x=some v→findCls K (.ref 925) (.type "type") x=some (.val v)∧handedIn v=true:=by
    intro v q
    unfold findC at q
    split at q
    · rename_i u e
      split at q
      · rename_i hh;cases q;exact ⟨e,hh⟩
      · cases q
    · cases q
  change cat1 C x=some pv at hc
  unfold cat1 at hc
  split at hc
  · rename_i hC
    obtain rfl:=Nat.eq_of_beq_eq_true hC
    by_cases q:x=("g_v":Str)
    · subst q
      obtain rfl:PV.vset=pv:=Option.some.inj hc
      obtain ⟨a,b⟩:=find _ f15
      exact ⟨_,_,f14,a,b,fun ρ=>rfl⟩
    · have q':(x==("g_v":Str))=false:=by simpa using q
      rw [q'] at hc
      change (bif tabNames.contains x then some (PV.tab (tabP pw x)) else none)=some pv at hc
      cases q2:tabNames.contains x with
      | false=>rw [q2] at hc;cases hc
      | true=>
        rw [q2] at hc
        obtain rfl:=Option.some.inj hc
        have hm:x∈tabNames:=List.contains_iff_mem.mp q2
        have z:=tabs x hm
        unfold tabSeen at z
        split at z
        · rename_i a e
          obtain ⟨a1,b1⟩:=find _ e
          exact ⟨_,_,f14,a1,b1,fun ρ=>⟨a,rfl,tabPart_is u z⟩⟩
        · cases z
  · cases hc
theorem meth_of (f7:((fnAddrs++cfnAddrs).all (fun q=>q.2.1==("":Str)||(findIn K (.ref 925) q.2.2==some (some (.ref q.1))&&typeIn K (.ref q.1)==some (.type "function"))))=true) :
    ∀ m f,T1.meth m=some f→findIn K (.ref 925) m=some (some (.ref f))∧typeIn K (.ref f)=some (.type "function"):=by
  intro m f hm
  change meth1 m=some f at hm
  unfold meth1 at hm
  obtain ⟨q,hq,rfl⟩:=Option.map_eq_some_iff.mp hm
  have hq1:=List.find?_some hq
  have hq2:=List.mem_of_find?_eq_some hq
  simp only [Bool.and_eq_true,Bool.not_eq_true',beq_iff_eq] at hq1
  have z:=List.all_eq_true.mp f7 q hq2
  rw [hq1.1,Bool.false_or,Bool.and_eq_true,beq_iff_eq,beq_iff_eq,hq1.2] at z
  exact z
theorem fns_of (u:Under lk K) (part:∀ q∈fnAddrs++cfnAddrs,fnPartL lk q.1=fnP pw q.2.1 q.2.2) (f11:(fnAddrs.all fun q=>fnGood K q.1)=true):∀ f F,T1.fns f=some F→fnIn K f F:=by
  intro f F hF
  change fns1 f=some F at hF
  unfold fns1 at hF
  split at hF
  · rename_i c m e
    have hm:=lookup_mem e
    have p:=part _ (List.mem_append_left _ hm)
    exact fnIn_of (fnPartL_is u (p.trans hF)) (List.all_eq_true.mp f11 _ hm)
  · cases hF
theorem cfns_of (u:Under lk K) (part:∀ q∈fnAddrs++cfnAddrs,fnPartL lk q.1=fnP pw q.2.1 q.2.2) (f12:(cfnAddrs.all fun q=>fnGoodC K q.1)=true):∀ f F,T1.cfn f=some F→fnInC K f F:=by
  intro f F hF
  change cfn1 f=some F at hF
  unfold cfn1 at hF
  split at hF
  · rename_i c m e
    have hm:=lookup_mem e
    have p:=part _ (List.mem_append_right _ hm)
    exact fnInC_of (fnPartL_is u (p.trans hF)) (List.all_eq_true.mp f12 _ hm)
  · cases hF
theorem exc_of (f13:([937,950,963].all fun C=>excIn K C [.type "Exception",.type "BaseException",.type "object"] "Exception.__new__")=true):∀ C,T1.exc C=true→excIn K C [.type "Exception",.type "BaseException",.type "object"] "Exception.__new__"=true:=by
  intro C hC
  change exc1 C=true at hC
  unfold exc1 at hC
  simp only [Bool.or_eq_true] at hC
  have z:=List.all_eq_true.mp f13
  rcases hC with (hC | hC) | hC
  · rw [Nat.eq_of_beq_eq_true hC];exact z 937 (by simp)
  · rw [Nat.eq_of_beq_eq_true hC];exact z 950 (by simp)
  · rw [Nat.eq_of_beq_eq_true hC];exact z 963 (by simp)
theorem facts_of {prog:Program} {w:World} (u:Under lk K) (hf:factsB K=true) (hp:partsSeen lk=partsGood) (ht:tabsSeen lk K=tabsGood) (X:K.In base) (lim:base.NoLimit) (hg:base.Ns mainGlobals mg) (hb:base.Ns builtinsNs mb)
    (hbb:∀ x:Str,x≠"__name__"→mb x=bootBuiltins x) (set:∃ X n,base.get? 230=some X∧VSet prog w X n):Facts prog w K base mg mb T1:=
  have hh:=and3 hf
  have a:=and4 hh.1
  have b:=and4 hh.2.1
  have c:=and4 hh.2.2.1
  have d:=and4 hh.2.2.2
  { inK:=X,lim:=lim,hg:=hg,hb:=hb,set:=set,gl:=gl_of X hg hbb d.1,cat:=cat_of u (tabs_eq ht) c.2.2.2.1 (beq_iff_eq.mp c.2.2.2.2),ga:=beq_iff_eq.mp a.1,gt:=beq_iff_eq.mp a.2.1,sa:=beq_iff_eq.mp a.2.2.1,po:=a.2.2.2.1,hd:=a.2.2.2.2,
    fld:=fun x hx=>List.all_eq_true.mp b.1 x (List.contains_iff_mem.mp hx),meth:=meth_of b.2.1,aga:=beq_iff_eq.mp b.2.2.1,ahd:=b.2.2.2.1,afl:=b.2.2.2.2,fns:=fns_of u (parts_eq hp) c.1,exc:=exc_of c.2.2.1,cfns:=cfns_of u (parts_eq hp) c.2.1,
    ini:=fun _=>⟨d.2.1,beq_iff_eq.mp d.2.2.1,beq_iff_eq.mp d.2.2.2.1,d.2.2.2.2⟩ }
end
end Mine

open PySem PySem.W PyProof.Rows PySem.Calls
set_option maxRecDepth 100000
set_option Elab.async false
set_option backward.match.sparseCases true
namespace Mine
abbrev rwL:OpenLaw:=PySem.Challenge.rw_ai0038_02
def q1:Program:=view pw [32]
def loose1:List Str:=["_wall","BaseStemmer","Among","SpanishStemmer","lab0","lab1","lab2","_law_vowels","_law_letters","_law_parts","_law_pronouns","_law_before","_law_plain","_law_nouns","_law_ys","_law_verbs","_law_last","_law_ends","_law_word","_law_end","_law_cut","_law_less","_law_behind","_law_first","_law_pronoun","_law_noun","_law_verb","_law_stem"]
noncomputable def Kof (t:BT) (n:Nat):Frag:=([2,3,196,197,217,218,230,924,925,936,937,949,950,962,963]++(fnAddrs++cfnAddrs).flatMap (fun (q:Addr × Str × Str)=>([q.1,Nat.sub q.1 1]:List Addr))++List.range n).filterMap fun a=>(known t a).map fun o=>(a,o)
theorem kof_is {t:BT} {n:Nat} {a:Addr} {o:Obj} (h:(Kof t n).lookup a=some o):known t a=some o:=by
  have hm:=lookup_mem h
  unfold Kof at hm
  obtain ⟨b,_,hb⟩:=List.mem_filterMap.mp hm
  obtain ⟨o',h1,h2⟩:=Option.map_eq_some_iff.mp hb
  cases h2
  exact h1
theorem kof_has {t:BT} {n:Nat} {a:Addr} {o:Obj} (h:known t a=some o) (hn:a < n):(Kof t n).lookup a=some o:=by
  cases q:(Kof t n).lookup a with
  | some o'=>rw [← kof_is q,h]
  | none=>
    rw [List.lookup_eq_none_iff] at q
    have hm:(a,o)∈Kof t n:=by
      unfold Kof
      exact List.mem_filterMap.mpr ⟨a,List.mem_append_right _ (List.mem_range.mpr hn),by rw [h];rfl⟩
    have:=q _ hm
    simp at this
abbrev Xt1:Shared→Bool:=fun s=>xlAt q1 [] s&&recOk [] s
theorem pick {β:Type} {x:Out Fin} {f:KS→β} {b:β} (h:(match x with | some (.ok (.done (.ret .none)),some _,ks)=>some (f ks) | _=>none)=some b) :
    ∃ p ks,x=some (.ok (.done (.ret .none)),some p,ks)∧f ks=b:=by
  split at h
  · rename_i p ks
    exact ⟨p,ks,rfl,Option.some.inj h⟩
  · cases h
noncomputable def seenAt (P:Params) (life:Life) (os:OsState) (ks:KS):=
  ((staticsOk (importedModules pw.main.body) (boot_heap P) (sEnd ks life os).heap&&namesBound pw (sEnd ks life os).heap&&gensDone (sEnd ks life os)&&laidKept (boot_heap P) (sEnd ks life os).heap),
      openSeen q1 loose1 (importedModules pw.main.body) Xt1 true (sEnd ks life os),
      [0,1,4,5,6,7,8,9,10].map (known ks.t),ks.ghost)
noncomputable def seenGood (P:Params):=(true,openGood q1 loose1,[0,1,4,5,6,7,8,9,10].map (known (bt0 P)),some 230)
theorem lk_is (gh:GH) (P:Params) (life:Life) (os:OsState):(match evTop gh P with | some (.ok (.done (.ret .none)),some _,ks)=>some (seenAt P life os ks) | _=>none)=some (seenGood P):=by kernel_rfl
theorem lk_open (gh:GH) (P:Params) (life:Life) (os:OsState):∃ p ks,evTop gh P=some (.ok (.done (.ret .none)),some p,ks)∧seenAt P life os ks=seenGood P:=pick (lk_is gh P life os)
def YP1 (prog:Program) (w:World) (h:Heap):Prop:=(∃ (K:Frag) (lk:Lk),K.In h∧Under lk K∧(factsB K&&lawAt K)=true∧partsSeen lk=partsGood∧tabsSeen lk K=tabsGood)∧∃ X n,h.get? 230=some X∧VSet prog w X n
theorem full_end {prog:Program} {w:World} {s₀:Shared} {ks:KS} {s:Shared} (R:Rel prog w s₀ ks s) (hg:s.gens=#[]) (hd:s.drawn=boot_drawn):s=sEnd ks s.heap.life s.os:=by
  have R':Rel prog w ⟨⟨#[],s.heap.life⟩,s.gens,s.drawn,0,s.os⟩ ⟨ks.t,ks.n,ks.toks,none⟩ s:=
    ⟨R.size,R.kt,R.toks,rfl,rfl,rfl,fun d h=>(by cases h),R.all,fun _=>rfl⟩
  have e:=R'.abs rfl
  unfold absS at e
  unfold sEnd
  rw [hg,hd] at e
  exact e
end Mine

open PySem PySem.W PyProof.Rows PySem.Calls
set_option maxRecDepth 100000
set_option Elab.async false
set_option backward.match.sparseCases true
namespace Mine
noncomputable abbrev endIs {β:Type} (gh:GH) (P:Params) (f:KS→β) (b:β):Prop:=(match evTop gh P with | some (.ok (.done (.ret .none)),some _,ks)=>some (f ks) | _=>none)=some b
theorem endIs_get {β:Type} {gh:GH} {P:Params} {f:KS→β} {b:β} (h:endIs gh P f b) {p:Pos} {ks:KS} (e:evTop gh P=some (.ok (.done (.ret .none)),some p,ks)):f ks=b:=by
  unfold endIs at h
  rw [e] at h
  exact Option.some.inj h
theorem lk_f1 (gh:GH) (P:Params):endIs gh P (fun ks=>factsB (Kof ks.t ks.n)&&lawAt (Kof ks.t ks.n)) true:=by kernel_rfl
theorem lk_f2 (gh:GH) (P:Params):endIs gh P (fun ks=>partsSeen (known ks.t)) partsGood:=by kernel_rfl
theorem lk_f3 (gh:GH) (P:Params):endIs gh P (fun ks=>tabsSeen (known ks.t) (Kof ks.t ks.n)) tabsGood:=by kernel_rfl
end Mine

open PySem PySem.W PyProof.Rows PySem.Calls
set_option maxRecDepth 100000
set_option Elab.async false
set_option backward.match.sparseCases false
namespace Mine
theorem topStub_is:topStub pw=⟨topTree,.builtin "claim.caller" {},default,[]⟩:=by kernel_rfl
theorem chains1:chainsOk q1=true:=by kernel_rfl!
theorem boot_ns (P:Params):(boot_heap P).isNs mainGlobals=true:=by kernel_rfl!
theorem boot_ann (P:Params):(boot_heap P).nsMap mainGlobals "__annotations__"=some (.ref 6):=by kernel_rfl!
theorem top_runs (w:World) (os:OsState) (hz:(sBoot w.params os).asleep):∃ s₁ ks m t,schedN (denote table) pw w m (.single (sBoot w.params os) (topStub pw))=.running (.single s₁ t)∧through t=true ∧
    Rel pw w (sBoot w.params os) ks s₁∧s₁.heap.life=(sBoot w.params os).heap.life∧s₁.gens=#[]∧seenAt w.params s₁.heap.life os ks=seenGood w.params∧(factsB (Kof ks.t ks.n)&&lawAt (Kof ks.t ks.n))=true∧partsSeen (known ks.t)=partsGood∧tabsSeen (known ks.t) (Kof ks.t ks.n)=tabsGood:=by
  obtain ⟨p,ks,he,hs⟩:=lk_open (ghOf pw w (sBoot w.params os)) w.params (sBoot w.params os).heap.life os
  have hs2:=And.intro (endIs_get (lk_f1 _ _) he) (And.intro (endIs_get (lk_f2 _ _) he) (endIs_get (lk_f3 _ _) he))
  have z:=ev_sound (prog:=pw) (w:=w) (s₀:=sBoot w.params os) (evCall_sound 60) topTree (some default) (ks0 w.params) _ he default (sBoot w.params os) rfl (boot_rel w pw os)
  have z':Sem.wp (model pw w) ⟨.builtin "claim.caller" {},none,none,[],none⟩ topTree (fun fin _ s'=>fin=.done (.ret .none)∧Rel pw w (sBoot w.params os) ks s'∧s'.gens=#[]) (fun _ _ _=>False) default (sBoot w.params os):=by
    refine Sem.wp_mono _ _ _ (fun fin q s' y=>?_) (fun e q s' y=>?_) _ _ z
    · obtain ⟨y1,_,y3⟩:=y
      cases y1
      exact ⟨rfl,y3,y3.gens⟩
    · obtain ⟨y1,_⟩:=y
      cases y1
  obtain ⟨m,t,s₁,h1,h2,h3,h4,h5⟩:=thread_runs hz z'
  rw [← topStub_is] at h1
  exact ⟨s₁,ks,m,t,h1,h2,h3,h4,h5,by rw [h4];exact hs,hs2⟩
end Mine

open PySem PySem.W PyProof.Rows PySem.Calls
set_option maxRecDepth 100000
set_option Elab.async false
set_option backward.match.sparseCases false
namespace Mine
theorem boot_get {P:Params} {os:OsState} {b:Addr} {o:Obj} {w:World} (hP:w.params=P) (h:(boot_heap P).get? b=some o):b < 11∧known (bt0 P) b=some o:=by
  subst hP
  have R:=boot_rel w pw os
  have hl:b < 11:=by
    have z:=Heap.lt_size h
    have e:(boot_heap w.params).objs.size=11:=R.size
    rw [e] at z;exact z
  obtain ⟨o',ho'⟩:=R.all b hl
  have z:=R.kt b o' ho'
  have e:(boot_heap w.params).get? b=some o':=z
  rw [h] at e
  cases e
  exact ⟨hl,ho'⟩
theorem behind1:Behind pw q1 loose1 [] (XL q1 []) (YP1 pw):=fun w=>by
  obtain ⟨s₀,hs₀,hv⟩:=Option.map_eq_some_iff.mp (boot_open (N:=600) opening_plain rfl fence_all w)
  rw [← table_eq_tree] at hs₀
  obtain ⟨s,h4,h5⟩:=Option.bind_eq_some_iff.mp hs₀
  have A:=AfterImport.of_importEnds h4
  refine ⟨⟨s,A⟩,fun s' hs'=>?_⟩
  obtain rfl:s'=s:=AfterImport.unique hs' A
  have z:s₀.asleep:=Shared.asleep_of_life (fence_lifeW h5) A.life
  obtain ⟨heap,gens,drawn,toks,os⟩:=s₀
  obtain ⟨rfl,rfl,rfl,rfl⟩:heap=boot_heap w.params∧gens=Array.mk []∧drawn=boot_drawn∧toks=boot_toks:=by simpa using hv
  obtain ⟨s₁,ks,m,t,h1,h2,R,hlife,hg,hseen,hseen2⟩:=top_runs w os z
  obtain ⟨e1,e2⟩:=Prod.mk.inj hseen
  obtain ⟨e2,e3⟩:=Prod.mk.inj e2
  obtain ⟨e3,e4⟩:=Prod.mk.inj e3
  have e5:=e4
  have hend:s₁=sEnd ks s₁.heap.life os:=by
    have q:=full_end R hg R.drawn
    rw [R.os] at q
    exact q
  have hheap:s₁.heap=(sEnd ks s₁.heap.life os).heap:=congrArg Shared.heap hend
  obtain ⟨e1,k4⟩:=Bool.and_eq_true_iff.mp e1
  obtain ⟨e1,k3⟩:=Bool.and_eq_true_iff.mp e1
  obtain ⟨k1,k2⟩:=Bool.and_eq_true_iff.mp e1
  rw [← hheap] at k1 k2 k4
  have e2':openSeen q1 loose1 (importedModules pw.main.body) Xt1 true s₁=openGood q1 loose1:=by rw [hend];exact e2
  have XP:∀ s,Xt1 s=true→(fun mg h=>XL q1 [] mg h∧RecFacts [] h) (s.heap.nsMap mainGlobals) s.heap:=fun s e=>⟨xl_of s (Bool.and_eq_true_iff.mp e).1,recFacts_of (Bool.and_eq_true_iff.mp e).2⟩
  obtain ⟨G,_,g1,g2,g3,g4,g5⟩:=ground_of_open (w:=w) (XP:=fun mg h=>XL q1 [] mg h∧RecFacts [] h) XP chains1 e2'
  refine ⟨_,h5,rfl,s₁,⟨⟨m,t,h1,h2⟩,hlife,Shared.rest_eq R.os,fun b o hb hn=>?_,g2,statics_of_ok k1,g3,g4,g5,?_,names_of_bound k2,laid_of_kept k4⟩,Shared.asleep_of_life hlife z,hg,g1,
    ⟨G.T,G.B,G.D,G.TE,G.TD,G.W,G.X.1,G.cls,G.has,G.apart,G.once,G.K⟩,G.X.2,?_,?_⟩
  · obtain ⟨hl,hk⟩:=boot_get (os:=os) rfl hb
    have hne:b≠mainNs∧b≠cStatics:=⟨fun q=>hn (.inl q),fun q=>hn (.inr (.inl q))⟩
    have hm:b∈[0,1,4,5,6,7,8,9,10]:=by
      have all:∀ b:Nat,b < 11→b≠3→b≠2→b∈[0,1,4,5,6,7,8,9,10]:=by decide
      exact all b hl hne.1 hne.2
    have:=List.map_inj_left.mp e3 b hm
    rw [hk] at this
    exact R.kt b o this
  · intro g hx
    rw [hg] at hx
    simp at hx
  · obtain ⟨q1,q2,q3⟩:=hseen2
    exact ⟨Kof ks.t ks.n,known ks.t,fun a o ho=>R.kt a o (kof_is ho),fun a o ho=>kof_has ho (by have:=Heap.lt_size (R.kt a o ho);rw [R.size] at this;exact this),q1,q2,q3⟩
  · obtain ⟨_,X,n,hX,hs⟩:=R.ghost 230 e5
    exact ⟨X,n,R.kt _ _ hX,hs⟩
end Mine

open PySem PySem.W PyProof.Rows PySem.Calls
set_option maxRecDepth 100000
set_option Elab.async false
set_option backward.match.sparseCases true
namespace Mine
theorem YP1.keeps {prog:Program} (w:World) (h h':Heap) (y:YP1 prog w h) (k:∀ b o,h.get? b=some o→h'.get? b=some o):YP1 prog w h':=
  ⟨let ⟨K,lk,a,b⟩:=y.1;⟨K,lk,a.keeps k,b⟩,let ⟨X,n,hX,hs⟩:=y.2;⟨X,n,k _ _ hX,hs⟩⟩
def lawRec:DefRec:=match defOf q1 "law" with
  | some (d,_)=>d
  | none=>⟨"",⟨[],[],none,[],[],none,[]⟩,[],⟨.function,[],false,false,[]⟩,default⟩
theorem and2 {a b:Bool} (h:a=true) (k:b=true):(a&&b)=true:=by rw [h,k];rfl
set_option maxHeartbeats 40000000 in
theorem said_law:rwL.wellSaid=true:=by
  unfold OpenLaw.wellSaid OpenRow.wellSaid OpenRow.partSaid looksOpen
  repeat' (with_reducible refine and2 ?_ ?_)
  all_goals decide +kernel
set_option maxHeartbeats 4000000 in
theorem holds1 (call:WalkO q1 loose1 (XL q1 []) (YP1 pw) rwL.row.toRowW lawRec [] fun f vs=>PySem.call f vs):rwL.Holds:=by
  w_on
  refine holds_law said_law fun said=>?_
  refine holds_behind (q:=q1) (loose:=loose1) (d:=lawRec) (kwd:=[]) behind1 XL.keeps YP1.keeps ?a ?b ?c ?d said ?e ?f ?g call
  case a=>kernel_rfl
  case b=>kernel_rfl
  case c=>kernel_rfl
  case d=>rfl
  case e=>kernel_rfl
  case g=>w_witness2
  case f=>exact ⟨rfl,rfl,rfl,rfl,rfl,by kernel_rfl⟩
end Mine

open PySem PySem.W PyProof.Rows PySem.Calls
set_option maxRecDepth 100000
set_option Elab.async false
set_option backward.match.sparseCases false
namespace Mine
noncomputable def clean (S:Option Fs) (H:List AO):Prop:=oldS H.length S∧∀ ao∈H,oldO H.length ao
theorem isOld.up {n m:Nat} (h:n≤m) {p:PV} (o:isOld n p):isOld m p:=by
  cases p<;>first | exact trivial | exact Nat.lt_of_lt_of_le o h
theorem oldO.up {n m:Nat} (h:n≤m) {ao:AO} (o:oldO n ao):oldO m ao:=by
  rcases ao with xs | xs | _ | p
  · exact fun p hp=>(o p hp).up h
  · exact fun p hp=>(o p hp).up h
  · exact trivial
  · exact isOld.up h o
theorem oldS.up {n m:Nat} (h:n≤m) {S:Option Fs} (o:oldS n S):oldS m S:=fun l e p hp=>(o l e p hp).up h
theorem oldO_strs (n:Nat) (ss:List (List Nat)):oldO n (.lst (ss.map .str)):=by
  intro p hp
  obtain ⟨x,_,rfl⟩:=List.mem_map.mp hp
  exact trivial
theorem clean.app {S:Option Fs} {H J:List AO} (h:clean S H) (hJ:∀ ao∈J,oldO (H++J).length ao):clean S (H++J):=by
  have hl:H.length≤(H++J).length:=by rw [List.length_append];(exact ar_v1iw)
  refine ⟨h.1.up hl,fun ao ha=>?_⟩
  rcases List.mem_append.mp ha with ha | ha
  · exact (h.2 ao ha).up hl
  · exact hJ ao ha
theorem clean.strs {S:Option Fs} {H:List AO} (h:clean S H) (ss:List (List Nat)):clean S (H++[.lst (ss.map .str)]):=
  h.app fun ao ha=>by
    rw [List.mem_singleton] at ha
    subst ha
    exact oldO_strs _ _
theorem plain_old {v:PV} (h:noRef v=true) (n:Nat):isOld n v:=by
  cases v<;>first | exact trivial | cases h
theorem take_pre {H H':List AO} (h:H <+: H'):H'.take H.length=H:=by
  obtain ⟨J,rfl⟩:=h
  rw [List.take_left]
noncomputable abbrev SpP:=Addr→List PV→List AO→(PV→Prop)→Prop
noncomputable def pureC (P:SpP):CT:=fun f args Q S g H=>clean S H∧P f args H (fun v=>Q v S g H)
noncomputable def BodyP (C:CT) (P:SpP):Prop:=∀ f args S g H k,clean S H→P f args H k→∀ Q:QT,(∀ v H',noRef v=true→H <+: H'→k v→Q v S g H')→BodyOK T1 C f args Q S g H
section
variable {prog:Program} {w:World} {K:Frag} {mg mb:Str→Option Value} {T:Tabs} {Gs:Array GenState} {Os:OsState} {n:Nat} {C D:CT}
noncomputable def bodyAny (C:CT):CT:=fun f args Q S g H=>BodyOK T1 C f args Q S g H
theorem CallOK.mono (CO:CallOK prog w K mg mb T Gs Os n C) (h:∀ f args Q S g H,D f args Q S g H→C f args Q S g H):CallOK prog w K mg mb T Gs Os n D:=
  fun base W f args Q S g H hd=>CO base W f args Q S g H (h f args Q S g H hd)
theorem any_ok (CO:CallOK prog w K mg mb T1 Gs Os n C):CallOK prog w K mg mb T1 Gs Os (n+1) (bodyAny C):=lift CO fun f args Q S g H h=>.inr h
theorem pure_ok {P:SpP} (CO:CallOK prog w K mg mb T1 Gs Os n C) (hb:BodyP C P):CallOK prog w K mg mb T1 Gs Os (n+1) (pureC P):=
  (gc_ok (any_ok CO)).mono fun f args Q S g H h=>by
    obtain ⟨hc,hp⟩:=h
    refine hb f args S g H _ hc hp _ fun v H' hv hpre hk=>?_
    rw [take_pre hpre]
    exact ⟨plain_old hv _,hc.1,hc.2,hk⟩
end
noncomputable def botC:CT:=fun _ _ _ _ _ _=>False
noncomputable def retList (f:Addr):List PySem.Expr:=match ((fns1 f).map Fn.body:Option (List Stmt)) with
  | some [.Return (some (.List es _)) _]=>es
  | _=>[]
noncomputable def vowL:List (List Nat):=(retList 973).map cS
noncomputable def letL:List (List Nat):=(retList 980).map cS
noncomputable def parL:List (List Nat):=(retList 987).map cS
noncomputable def proL:List (List Nat):=strsP pw "_law_pronouns"
noncomputable def befL:List (List Nat):=strsP pw "_law_before"
noncomputable def ysL:List (List Nat):=strsP pw "_law_ys"
noncomputable def vrbL:List (List Nat):=strsP pw "_law_verbs"
noncomputable def lasL:List (List Nat):=strsP pw "_law_last"
noncomputable def plaD:List (List Nat × PV):=(dictOfF T1 996).getD []
noncomputable def nouD:List (List Nat × PV):=(dictOfF T1 1003).getD []
noncomputable def nouL:List (List Nat):=nouD.map (·.1)
noncomputable def endsL:List (List Nat):=proL++befL++nouL++ysL++vrbL++lasL
section
variable {C:CT} {Q:QT} {S:Option Fs} {g:Nat} {H:List AO} {w e:List Nat}
theorem e973:BodyOK T1 C 973 [] Q S g H=((0:Nat)=0∧11≤3000∧Q (.loc H.length) S g (H++[.lst (vowL.map .str)])):=by kernel_rfl
theorem e980:BodyOK T1 C 980 [] Q S g H=((0:Nat)=0∧33≤3000∧Q (.loc H.length) S g (H++[.lst (letL.map .str)])):=by kernel_rfl
theorem e987:BodyOK T1 C 987 [] Q S g H=((0:Nat)=0∧26≤3000∧Q (.loc H.length) S g (H++[.lst (parL.map .str)])):=by kernel_rfl
theorem e1034:BodyOK T1 C 1034 [.str w,.str e] Q S g H=((2:Nat)=2∧w.length≤4000∧e.length≤4000∧w.length≤4000∧Q (.str (slc w none (some ((w.length:Int) - e.length)))) S g H):=by kernel_rfl
end
end Mine

open PySem PySem.W PyProof.Rows PySem.Calls
set_option maxRecDepth 100000
set_option Elab.async false
set_option backward.match.sparseCases false
namespace Mine
noncomputable def lend (x:List Nat) (ss:List (List Nat)):List Nat:=ss.foldl (fun f e=>bif decide (f.length < e.length)&&e.isSuffixOf x then e else f) []
noncomputable abbrev xc (C:CT) (f:Addr) (m:Nat):Px:=px T1 C (FnB f).scope m
noncomputable def l27 (w:List Nat) (L:PV) (low:Int) (f:List Nat) (o:Option (List Nat)):Fs:=("word",.str w)::("ends",L)::("low",.int low)::("found",.str f)::(match o with | none=>[] | some e=>[("end",.str e)])
noncomputable def k27 (C:CT) (Q:QT):Ot→St→Prop:=afterK (xc C 1027 40) ((FnB 1027).body.drop 2) (bodyK Q)
section
variable {C:CT} {Q:QT} {S:Option Fs} {g:Nat} {H:List AO} {w e f:List Nat} {L:PV} {low:Int} {ss:List (List Nat)} {i:Nat} {k:Ot→St→Prop}
theorem e27s:BodyOK T1 C 1027 [.str w,.strs ss,.int low] Q S g H=((3:Nat)=3∧pForI (xc C 1027 39) "end" (whB (stm 1027 1)) (k27 C Q) (fun _=>True) (ss.map .str) ⟨l27 w (.strs ss) low [] none,S,g,H⟩):=by kernel_rfl
theorem e27l:BodyOK T1 C 1027 [.str w,.loc i,.int low] Q S g H=((3:Nat)=3∧(match (H[i]?:Option AO) with
    | some (.lst ps)=>pForI (xc C 1027 39) "end" (whB (stm 1027 1)) (k27 C Q) (fun σ=>σ.H[i]?=some (.lst ps)) ps ⟨l27 w (.loc i) low [] none,S,g,H⟩
    | _=>False)):=by kernel_rfl
theorem b27:pSs (xc C 1027 39) (whB (stm 1027 1)) k ⟨l27 w L low f (some e),S,g,H⟩=(e.length≤4000∧f.length≤4000∧(match decide ((f.length:Int) < (e.length:Int)) with
    | true=>w.length≤4000∧(match e.isSuffixOf (slc w (some low) none) with
      | true=>k .next ⟨l27 w L low e (some e),S,g,H⟩
      | false=>k .next ⟨l27 w L low f (some e),S,g,H⟩)
    | false=>k .next ⟨l27 w L low f (some e),S,g,H⟩)):=by kernel_rfl
theorem z27 {o:Option (List Nat)}:k27 C Q .next ⟨l27 w L low f o,S,g,H⟩=Q (.str f) S g H:=by cases o<;>kernel_rfl
theorem p27 {o:Option (List Nat)}:put "end" (.str e) (l27 w L low f o)=l27 w L low f (some e):=by cases o<;>rfl
end
noncomputable def short (n:Nat) (ss:List (List Nat)):Prop:=∀ s∈ss,s.length≤n
theorem slc_low {w:List Nat} {low:Int} (h:0≤low):slc w (some low) none=w.drop low.toNat:=by
  unfold slc clip
  dsimp only
  rw [if_neg (by (exact ar_kilx h)),List.take_length]
  by_cases q:low.toNat≤w.length
  · rw [Nat.min_eq_left q]
  · rw [Nat.min_eq_right (by (exact ar_nocf q)),List.drop_length,List.drop_eq_nil_of_le (by (exact ar_nocf q))]
section
variable {C:CT} {Q:QT} {S:Option Fs} {g:Nat} {H:List AO} {w:List Nat} {L:PV} {low:Int} {chk:St→Prop}
theorem loop27 (hw:w.length≤4000) (hl:0≤low) (hc:∀ l,chk ⟨l,S,g,H⟩):∀ (ss:List (List Nat)) (f:List Nat) (o:Option (List Nat)),short 4000 ss→f.length≤4000 →
    Q (.str (ss.foldl (fun f e=>bif decide (f.length < e.length)&&e.isSuffixOf (w.drop low.toNat) then e else f) f)) S g H→pForI (xc C 1027 39) "end" (whB (stm 1027 1)) (k27 C Q) chk (ss.map .str) ⟨l27 w L low f o,S,g,H⟩
  | [],f,o,_,_,hq=>⟨hc _,by rw [z27];exact hq⟩
  | e::r,f,o,hs,hf,hq=>by
    refine ⟨hc _,?_⟩
    show pSs _ _ _ ⟨put "end" (.str e) (l27 w L low f o),S,g,H⟩
    rw [p27,b27]
    have he:=hs e (.head _)
    have hr:short 4000 r:=fun s h=>hs s (.tail _ h)
    rw [slc_low hl]
    rw [List.foldl_cons] at hq
    refine ⟨he,hf,?_⟩
    by_cases q:(f.length:Int) < (e.length:Int)
    · have q':f.length < e.length:=by (exact ar_vulk q)
      rw [decide_eq_true q]
      rw [decide_eq_true q',Bool.true_and] at hq
      refine ⟨hw,?_⟩
      cases q2:e.isSuffixOf (w.drop low.toNat) with
      | true=>rw [q2] at hq;exact loop27 hw hl hc r e (some e) hr he hq
      | false=>rw [q2] at hq;exact loop27 hw hl hc r f (some e) hr hf hq
    · have q':¬ f.length < e.length:=by (exact ar_lsoi q)
      rw [decide_eq_false q]
      rw [decide_eq_false q',Bool.false_and] at hq
      exact loop27 hw hl hc r f (some e) hr hf hq
theorem map_str_inj:∀ {a b:List (List Nat)},a.map PV.str=b.map PV.str→a=b
  | [],[],_=>rfl
  | [],_::_,h=>by cases h
  | _::_,[],h=>by cases h
  | x::a,y::b,h=>by
    injection h with h1 h2
    injection h1 with h1
    rw [h1,map_str_inj h2]
noncomputable def endP:SpP:=fun f args H k=>∃ w L low ss,f=1027∧args=[.str w,L,.int low]∧listOf L H=some (ss.map .str)∧w.length≤4000∧0≤low∧short 4000 ss∧k (.str (lend (w.drop low.toNat) ss))
theorem body27:BodyP C endP:=by
  intro f args S g H k hc hp Q hq
  obtain ⟨w,L,low,ss,rfl,rfl,hL,hw,hl,hs,hk⟩:=hp
  unfold listOf at hL
  split at hL
  · rename_i ss'
    have e:ss'=ss:=map_str_inj (Option.some.inj hL)
    subst e
    rw [e27s]
    exact ⟨rfl,loop27 hw hl (fun _=>trivial) _ _ _ hs (by simp) (hq _ _ rfl (List.prefix_refl _) hk)⟩
  · rename_i i
    rw [e27l]
    refine ⟨rfl,?_⟩
    split at hL
    · rename_i p hi
      cases hL
      first | rw [hi] | skip
      exact loop27 hw hl (fun _=>hi) _ _ _ hs (by simp) (hq _ _ rfl (List.prefix_refl _) hk)
    · cases hL
  · cases hL
end
end Mine

open PySem PySem.W PyProof.Rows PySem.Calls
set_option maxRecDepth 100000
set_option Elab.async false
set_option backward.match.sparseCases false
namespace Mine
noncomputable def Lq (C:CT) (Q:QT) (f:Addr) (i:Nat) (n:Nat) (σ:St):Prop:=pWh (xc C f 39) (whT (stm f i)) (whB (stm f i)) [] (afterK (xc C f 40) ((FnB f).body.drop (i+1)) (bodyK Q)) n σ
noncomputable def ifB:Stmt→List Stmt
  | .If _ b _ _=>b
  | _=>[]
section
variable {C:CT} {Q:QT} {S:Option Fs} {g:Nat} {H:List AO} {w e f:List Nat} {L:PV} {low at':Int} {k:Ot→St→Prop} {n:Nat}
theorem e1041:BodyOK T1 C 1041 [.str w,L,.int low] Q S g H=((3:Nat)=3∧C 1027 [.str w,L,.int 0] (fun v S g H=>C 1034 [.str w,v] (fun h S g H=>pFnH .len [h] H fun z=>pCmpH .GtE z (.int low) H fun c=>match c with
    | true=>Q h S g H
    | false=>Q (.str w) S g H) S g H) S g H):=by kernel_rfl
noncomputable def l48 (w:List Nat) (a:Int):Fs:=[("word",.str w),("at",.int a)]
noncomputable def k48 (C:CT) (Q:QT):Ot→St→Prop:=afterK (xc C 1048 40) ((FnB 1048).body.drop 1) (bodyK Q)
noncomputable def k48b (C:CT) (Q:QT):Ot→St→Prop:=afterK (xc C 1048 40) ((FnB 1048).body.drop 2) (bodyK Q)
theorem e1048:BodyOK T1 C 1048 [.str w,.int at'] Q S g H=((2:Nat)=2∧∃ n,Lq C Q 1048 0 n ⟨l48 w at',S,g,H⟩):=by kernel_rfl
theorem s1048a:Lq C Q 1048 0 (n+1) ⟨l48 w at',S,g,H⟩=(w.length≤4000∧(match decide (at' < (w.length:Int)) with
    | true=>0≤at'∧at' < 4000∧∃ c,w[at'.toNat]?=some c∧C 973 [] (fun v S g H=>pCmpH .NotIn (.str [c]) v H fun q=>match q with
      | true=>Lq C Q 1048 0 n ⟨l48 w (at'+1),S,g,H⟩
      | false=>k48 C Q .next ⟨l48 w at',S,g,H⟩) S g H
    | false=>k48 C Q .next ⟨l48 w at',S,g,H⟩)):=by kernel_rfl
theorem z1048a:k48 C Q .next ⟨l48 w at',S,g,H⟩=∃ n,Lq C Q 1048 1 n ⟨l48 w at',S,g,H⟩:=by kernel_rfl
theorem s1048b:Lq C Q 1048 1 (n+1) ⟨l48 w at',S,g,H⟩=(w.length≤4000∧(match decide (at' < (w.length:Int)) with
    | true=>0≤at'∧at' < 4000∧∃ c,w[at'.toNat]?=some c∧C 973 [] (fun v S g H=>pCmpH .In (.str [c]) v H fun q=>match q with
      | true=>Lq C Q 1048 1 n ⟨l48 w (at'+1),S,g,H⟩
      | false=>k48b C Q .next ⟨l48 w at',S,g,H⟩) S g H
    | false=>k48b C Q .next ⟨l48 w at',S,g,H⟩)):=by kernel_rfl
theorem z1048b:k48b C Q .next ⟨l48 w at',S,g,H⟩=(w.length≤4000∧Q (.int (if (w.length:Int) < at'+1 then (w.length:Int) else at'+1)) S g H):=by kernel_rfl
end
end Mine

open PySem PySem.W PyProof.Rows PySem.Calls
set_option maxRecDepth 100000
set_option Elab.async false
set_option backward.match.sparseCases false
namespace Mine
section
variable {C:CT} {Q:QT} {S:Option Fs} {g:Nat} {H:List AO} {w e f:List Nat} {L:PV} {low at':Int} {k:Ot→St→Prop} {n:Nat}
noncomputable def l55 (w:List Nat) (a:Int):Fs:=[("word",.str w),("at",.int a)]
noncomputable def minL (w:List Nat) (a:Int):Int:=if (w.length:Int) < a then (w.length:Int) else a
noncomputable def i55:Stmt:=stm 1055 2
noncomputable def a55 (C:CT) (Q:QT) (n:Nat) (σ:St):Prop:=pWh (xc C 1055 38) (whT ((ifB i55).getD 0 (.Pass default))) (whB ((ifB i55).getD 0 (.Pass default))) []
  (fun o σ₁=>match o with | .next=>pSs (xc C 1055 39) ((ifB i55).drop 1) (afterK (xc C 1055 40) ((FnB 1055).body.drop 3) (bodyK Q)) σ₁ | o=>afterK (xc C 1055 40) ((FnB 1055).body.drop 3) (bodyK Q) o σ₁) n σ
theorem e1055:BodyOK T1 C 1055 [.str w] Q S g H=((1:Nat)=1∧w.length≤4000∧(match decide ((w.length:Int) < 2) with
    | true=>w.length≤4000∧Q (.int w.length) S g H
    | false=>(0:Int)≤1∧(1:Int) < 4000∧∃ c,w[(1:Int).toNat]?=some c∧C 973 [] (fun v S g H=>pCmpH .NotIn (.str [c]) v H fun q=>match q with
      | true=>∃ n,a55 C Q n ⟨l55 w 2,S,g,H⟩
      | false=>(0:Int)≤0∧(0:Int) < 4000∧∃ c,w[(0:Int).toNat]?=some c∧C 973 [] (fun v S g H=>pCmpH .NotIn (.str [c]) v H fun q=>match q with
        | true=>w.length≤4000∧Q (.int (minL w 3)) S g H
        | false=>∃ n,Lq C Q 1055 4 n ⟨l55 w 2,S,g,H⟩) S g H) S g H)):=by kernel_rfl
theorem s1055a:a55 C Q (n+1) ⟨l55 w at',S,g,H⟩=(w.length≤4000∧(match decide (at' < (w.length:Int)) with
    | true=>0≤at'∧at' < 4000∧∃ c,w[at'.toNat]?=some c∧C 973 [] (fun v S g H=>pCmpH .NotIn (.str [c]) v H fun q=>match q with
      | true=>a55 C Q n ⟨l55 w (at'+1),S,g,H⟩
      | false=>w.length≤4000∧Q (.int (minL w (at'+1))) S g H) S g H
    | false=>w.length≤4000∧Q (.int (minL w (at'+1))) S g H)):=by kernel_rfl
theorem s1055b:Lq C Q 1055 4 (n+1) ⟨l55 w at',S,g,H⟩=(w.length≤4000∧(match decide (at' < (w.length:Int)) with
    | true=>0≤at'∧at' < 4000∧∃ c,w[at'.toNat]?=some c∧C 973 [] (fun v S g H=>pCmpH .In (.str [c]) v H fun q=>match q with
      | true=>Lq C Q 1055 4 n ⟨l55 w (at'+1),S,g,H⟩
      | false=>w.length≤4000∧Q (.int (minL w (at'+1))) S g H) S g H
    | false=>w.length≤4000∧Q (.int (minL w (at'+1))) S g H)):=by kernel_rfl
noncomputable def l62 (w:List Nat) (first:Int) (p r v h:List Nat):Fs:=[("word",.str w),("first",.int first),("pronoun",.str p),("rest",.str r),("verb",.str v),("head",.str h)]
noncomputable def K62 (C:CT) (Q:QT) (σ:St):Prop:=pSs (xc C 1062 40) ((FnB 1062).body.drop 4) (bodyK Q) σ
theorem e1062 {first:Int}:BodyOK T1 C 1062 [.str w,.int first] Q S g H=((2:Nat)=2∧C 1027 [.str w,.strs proL,.int 0] (fun p S g H=>C 1034 [.str w,p] (fun r S g H=>
    C 1027 [r,.strs befL,.int 0] (fun v S g H=>C 1034 [r,v] (fun h S g H=>K62 C Q ⟨[("word",.str w),("first",.int first),("pronoun",p),("rest",r),("verb",v),("head",h)],S,g,H⟩) S g H) S g H) S g H) S g H):=by kernel_rfl
noncomputable def txU:List Nat:=[117]
noncomputable def txYendo:List Nat:=[121,101,110,100,111]
theorem z1062 {first:Int} {p r v h:List Nat}:K62 C Q ⟨l62 w first p r v h,S,g,H⟩=(match decide (p=[]) with
    | true=>Q (.str w) S g H
    | false=>(match decide (v=[]) with
      | true=>Q (.str w) S g H
      | false=>h.length≤4000∧(match decide ((h.length:Int) < first) with
        | true=>Q (.str w) S g H
        | false=>(match hasKey plaD v with
          | true=>(match plaD.lookup v with
            | some x=>pBinH .Add (.str h) x (fun z σ=>Q z σ.S σ.g σ.H) ⟨l62 w first p r v h,S,g,H⟩
            | none=>False)
          | false=>(match decide (v=txYendo) with
            | true=>h.length≤4000∧(match !decide (slc h (some (-1)) none=txU) with
              | true=>Q (.str w) S g H
              | false=>Q (.str r) S g H)
            | false=>Q (.str r) S g H))))):=by kernel_rfl
end
end Mine

open PySem PySem.W PyProof.Rows PySem.Calls
set_option maxRecDepth 100000
set_option Elab.async false
set_option backward.match.sparseCases false
namespace Mine
section
variable {C:CT} {Q:QT} {S:Option Fs} {g:Nat} {H:List AO} {w e f:List Nat} {L:PV} {low at':Int} {k:Ot→St→Prop} {n:Nat} {first one two:Int}
noncomputable def K76 (C:CT) (Q:QT) (σ:St):Prop:=pSs (xc C 1076 40) ((FnB 1076).body.drop 2) (bodyK Q) σ
noncomputable def K76b (C:CT) (Q:QT) (σ:St):Prop:=pSs (xc C 1076 40) ((FnB 1076).body.drop 5) (bodyK Q) σ
noncomputable def l76 (w:List Nat) (first:Int) (e h:PV):Fs:=[("word",.str w),("first",.int first),("end",e),("head",h)]
noncomputable def txGu:List Nat:=[103,117]
noncomputable def gusL:List (List Nat):=[[101,110],[101,115],[233,105,115],[101,109,111,115]]
theorem e1076:BodyOK T1 C 1076 [.str w,.int first] Q S g H=((2:Nat)=2∧C 1027 [.str w,.strs ysL,.int first] (fun e S g H=>C 1034 [.str w,e] (fun h S g H=>K76 C Q ⟨l76 w first e h,S,g,H⟩) S g H) S g H):=by kernel_rfl
noncomputable def r76 (C:CT) (Q:QT) (w:List Nat) (first:Int) (S:Option Fs) (g:Nat) (H:List AO):Prop:=
  C 1027 [.str w,.strs vrbL,.int first] (fun e S g H=>C 1034 [.str w,e] (fun h S g H=>K76b C Q ⟨l76 w first e h,S,g,H⟩) S g H) S g H
theorem z1076 {e h:List Nat}:K76 C Q ⟨l76 w first (.str e) (.str h),S,g,H⟩=(match !decide (e=[]) with
    | true=>h.length≤4000∧(match decide (slc h (some (-1)) none=txU) with
      | true=>Q (.str h) S g H
      | false=>r76 C Q w first S g H)
    | false=>r76 C Q w first S g H):=by kernel_rfl
theorem z1076b {e h:List Nat}:K76b C Q ⟨l76 w first (.str e) (.str h),S,g,H⟩=(4≤3000∧pCmpH .In (.str e) (.loc H.length) (H++[.lst (gusL.map .str)]) fun c=>match c with
    | true=>h.length≤4000∧(match decide (slc h (some (-2)) none=txGu) with
      | true=>h.length≤4000∧Q (.str (slc h none (some (-1)))) S g (H++[.lst (gusL.map .str)])
      | false=>Q (.str h) S g (H++[.lst (gusL.map .str)]))
    | false=>Q (.str h) S g (H++[.lst (gusL.map .str)])):=by kernel_rfl
noncomputable def l69 (w:List Nat) (one two:Int) (e h:PV):Fs:=[("word",.str w),("one",.int one),("two",.int two),("end",e),("head",h)]
noncomputable def K69 (C:CT) (Q:QT) (σ:St):Prop:=pSs (xc C 1069 40) ((FnB 1069).body.drop 2) (bodyK Q) σ
noncomputable def K69b (C:CT) (Q:QT) (σ:St):Prop:=pSs (xc C 1069 40) ((FnB 1069).body.drop 4) (bodyK Q) σ
theorem e1069:BodyOK T1 C 1069 [.str w,.int one,.int two] Q S g H=((3:Nat)=3∧C 1027 [.str w,.loc H.length,.int 0] (fun e S g H=>C 1034 [.str w,e] (fun h S g H=>K69 C Q ⟨l69 w one two e h,S,g,H⟩) S g H) S g (H++[.lst (nouD.map fun p=>.str p.1)])):=by kernel_rfl
noncomputable def txAm:List Nat:=[97,109,101,110,116,101]
noncomputable def n69 (C:CT) (Q:QT) (w:List Nat) (one two:Int) (e h:List Nat) (S:Option Fs) (g:Nat) (H:List AO) (c:Bool):Prop:=match c with
  | true=>Q .none S g H
  | false=>(match nouD.lookup e with
    | some r=>K69b C Q ⟨l69 w one two (.str e) (.str h)++([("kind",r)]:Fs),S,g,H⟩
    | none=>False)
theorem z1069 {e h:List Nat}:K69 C Q ⟨l69 w one two (.str e) (.str h),S,g,H⟩=(match decide (e=[]) with
    | true=>Q .none S g H
    | false=>h.length≤4000∧(match decide (e=txAm) with
      | true=>n69 C Q w one two e h S g H (decide ((h.length:Int) < one))
      | false=>n69 C Q w one two e h S g H (decide ((h.length:Int) < two)))):=by kernel_rfl
noncomputable def txs (l:List Nat):List PV:=[.str l]
noncomputable def ic2:List Nat:=[105,99]
noncomputable def at2:List Nat:=[97,116]
noncomputable def iv2:List Nat:=[105,118]
noncomputable def txLog:List Nat:=[108,111,103]
noncomputable def txEnte:List Nat:=[101,110,116,101]
noncomputable def s3L:List (List Nat):=[[105,99],[97,100],[111,115],[105,118]]
noncomputable def s4L:List (List Nat):=[[97,98,108,101],[105,98,108,101],[97,110,116,101]]
noncomputable def s5L:List (List Nat):=[[105,99],[97,98,105,108],[105,118]]
noncomputable def K69c (C:CT) (Q:QT) (σ:St):Prop:=pSs (xc C 1069 39) ((ifB (stm 1069 8)).drop 2) (afterK (xc C 1069 40) ((FnB 1069).body.drop 9) (bodyK Q)) σ
theorem z1069b {e h:List Nat} {kd:Int}:K69b C Q ⟨l69 w one two (.str e) (.str h)++([("kind",.int kd)]:Fs),S,g,H⟩=(match decide (kd=2) with
    | true=>1≤3000∧C 1041 [.str h,.loc H.length,.int two] Q S g (H++[.lst [.str ic2]])
    | false=>(match decide (kd=3) with
      | true=>h.length+3≤4000∧Q (.str (h++txLog)) S g H
      | false=>(match decide (kd=4) with
        | true=>h.length+1≤4000∧Q (.str (h++txU)) S g H
        | false=>(match decide (kd=5) with
          | true=>h.length+4≤4000∧Q (.str (h++txEnte)) S g H
          | false=>(match decide (kd=6) with
            | true=>4≤3000∧C 1027 [.str h,.loc H.length,.int 0] (fun m S g H=>4≤3000∧C 1041 [.str h,.loc H.length,.int two] (fun l S g H=>
                K69c C Q ⟨l69 w one two (.str e) (.str h)++([("kind",.int kd),("more",m),("less",l)]:Fs),S,g,H⟩) S g (H++[.lst (s3L.map .str)])) S g (H++[.lst (s3L.map .str)])
            | false=>(match decide (kd=7) with
              | true=>3≤3000∧C 1041 [.str h,.loc H.length,.int two] Q S g (H++[.lst (s4L.map .str)])
              | false=>(match decide (kd=8) with
                | true=>3≤3000∧C 1041 [.str h,.loc H.length,.int two] Q S g (H++[.lst (s5L.map .str)])
                | false=>(match decide (kd=9) with
                  | true=>1≤3000∧C 1041 [.str h,.loc H.length,.int two] Q S g (H++[.lst [.str at2]])
                  | false=>Q (.str h) S g H)))))))):=by kernel_rfl
theorem z1069c {e h m l:List Nat} {kd:Int}:K69c C Q ⟨l69 w one two (.str e) (.str h)++([("kind",.int kd),("more",.str m),("less",.str l)]:Fs),S,g,H⟩=(match decide (m=iv2) with
    | true=>(match !decide (l=h) with
      | true=>1≤3000∧C 1041 [.str l,.loc H.length,.int two] Q S g (H++[.lst [.str at2]])
      | false=>Q (.str l) S g H)
    | false=>Q (.str l) S g H):=by kernel_rfl
end
end Mine

open PySem PySem.W PyProof.Rows PySem.Calls
set_option maxRecDepth 100000
set_option Elab.async false
set_option backward.match.sparseCases false
namespace Mine
section
variable {C:CT} {Q:QT} {S:Option Fs} {g:Nat} {H:List AO} {w e f:List Nat} {L:PV} {low at':Int} {k:Ot→St→Prop} {n:Nat} {first one two:Int}
noncomputable def l83 (w:PV) (first one two:Int) (td:PV):Fs:=[("word",w),("first",.int first),("one",.int one),("two",.int two),("told",td)]
noncomputable def l83b (w:PV) (first one two:Int) (td e h:PV):Fs:=l83 w first one two td++([("end",e),("head",h)]:Fs)
noncomputable def forT:Stmt→Ex
  | .For t _ _ _ _=>t
  | _=>.Constant .none 0 default
noncomputable def forI:Stmt→Ex
  | .For _ i _ _ _=>i
  | _=>.Constant .none 0 default
noncomputable def kk83 (C:CT) (Q:QT):Ot→St→Prop:=preK (FnB 1083).scope (xc C 1083 40) (forT (stm 1083 9)) (forI (stm 1083 9)) (whB (stm 1083 9)) ((FnB 1083).body.drop 10) (bodyK Q)
noncomputable def K83 (C:CT) (Q:QT) (i:Nat) (σ:St):Prop:=pSs (xc C 1083 40) (((FnB 1083).body.take 9).drop i) (kk83 C Q) σ
theorem e1083:BodyOKT T1 C 9 1083 [.str w] Q S g H=((1:Nat)=1∧(0:Nat) < 1∧C 1055 [.str w] (fun f S g H=>C 1048 [.str w,.int 0] (fun o S g H=>C 1048 [.str w,o] (fun t S g H=>C 1062 [.str w,f] (fun w' S g H=>C 1069 [w',o,t] (fun td S g H=>
    K83 C Q 5 ⟨[("word",w'),("first",f),("one",o),("two",t),("told",td)],S,g,H⟩) S g H) S g H) S g H) S g H) S g H):=by kernel_rfl
theorem z1083a:K83 C Q 5 ⟨l83 (.str w) first one two .none,S,g,H⟩=C 1076 [.str w,.int first] (fun v S g H=>K83 C Q 6 ⟨l83 v first one two .none,S,g,H⟩) S g H:=by kernel_rfl
theorem z1083b {x:List Nat}:K83 C Q 5 ⟨l83 (.str w) first one two (.str x),S,g,H⟩=K83 C Q 6 ⟨l83 (.str x) first one two (.str x),S,g,H⟩:=by kernel_rfl
theorem z1083c {td:PV}:K83 C Q 6 ⟨l83 (.str w) first one two td,S,g,H⟩=C 1027 [.str w,.strs lasL,.int 0] (fun e S g H=>C 1034 [.str w,e] (fun h S g H=>K83 C Q 8 ⟨l83b (.str w) first one two td e h,S,g,H⟩) S g H) S g H:=by kernel_rfl
noncomputable def aeL:List (List Nat):=[[101],[233]]
theorem z1083d {td:PV} {e h:List Nat}:K83 C Q 8 ⟨l83b (.str w) first one two td (.str e) (.str h),S,g,H⟩=(match !decide (e=[]) with
    | true=>h.length≤4000∧(match decide (first≤(h.length:Int)) with
      | true=>2≤3000∧pCmpH .In (.str e) (.loc H.length) (H++[.lst (aeL.map .str)]) fun c=>match c with
        | true=>h.length≤4000∧(match decide (slc h (some (-2)) none=txGu) with
          | true=>h.length≤4000∧(match decide (first < (h.length:Int)) with
            | true=>h.length≤4000∧K83 C Q 9 ⟨l83b (.str (slc h none (some (-1)))) first one two td (.str e) (.str h),S,g,H++[.lst (aeL.map .str)]⟩
            | false=>K83 C Q 9 ⟨l83b (.str h) first one two td (.str e) (.str h),S,g,H++[.lst (aeL.map .str)]⟩)
          | false=>K83 C Q 9 ⟨l83b (.str h) first one two td (.str e) (.str h),S,g,H++[.lst (aeL.map .str)]⟩)
        | false=>K83 C Q 9 ⟨l83b (.str h) first one two td (.str e) (.str h),S,g,H++[.lst (aeL.map .str)]⟩
      | false=>K83 C Q 9 ⟨l83b (.str w) first one two td (.str e) (.str h),S,g,H⟩)
    | false=>K83 C Q 9 ⟨l83b (.str w) first one two td (.str e) (.str h),S,g,H⟩):=by kernel_rfl
noncomputable def rp (w a b:List Nat) (P:List Nat→Prop):Prop:=∀ t u:Tok,t≠0→u≠0→t≠u→(t≠0∧u≠0∧t≠u∧a≠b∧w.length≤4000∧b.length≤10)∧P (repl w a b)
theorem z1083e {td e h:PV}:K83 C Q 9 ⟨l83b (.str w) first one two td e h,S,g,H⟩=rp w [225] [97] fun w=>rp w [233] [101] fun w=>rp w [237] [105] fun w=>rp w [243] [111] fun w=>rp w [250] [117] fun w=>Q (.str w) S g H:=by kernel_rfl
end
end Mine

open PySem PySem.W PyProof.Rows PySem.Calls
set_option maxRecDepth 100000
set_option Elab.async false
set_option backward.match.sparseCases false
namespace Mine
section
variable {C:CT} {Q:QT} {S:Option Fs} {g:Nat} {H:List AO} {w:List Nat} {L:PV} {k:Ot→St→Prop} {i:Nat} {z kk:Int}
inductive O20 where
  | no | nf (z f:PV) | nfk (z f k:PV)
noncomputable def l20 (i:Nat) (L:PV) (w:List Nat) (o:O20):Fs:=("numbers",.loc i)::("ends",L)::("word",.str w)::(match o with | .no=>[] | .nf z f=>[("number",z),("free",f)] | .nfk z f k=>[("number",z),("free",f),("k",k)])
noncomputable def o20 (z f:PV):O20→O20
  | .nfk _ _ k=>.nfk z f k
  | _=>.nf z f
noncomputable def ok20 (z f k:PV):O20→O20:=fun _=>.nfk z f k
noncomputable def k20 (C:CT) (Q:QT):Ot→St→Prop:=afterK (xc C 1020 40) ((FnB 1020).body.drop 2) (bodyK Q)
theorem e1020:BodyOK T1 C 1020 [.loc i,L] Q S g H=((2:Nat)=2∧(match (H[i]?:Option AO) with
    | some (.lst ps)=>pForI (xc C 1020 39) "number" (whB (stm 1020 1)) (k20 C Q) (fun σ=>σ.H[i]?=some (.lst ps)) ps ⟨l20 i L [] .no,S,g,H⟩
    | _=>False)):=by kernel_rfl
theorem z20 {o:O20}:k20 C Q .next ⟨l20 i L w o,S,g,H⟩=Q (.str w) S g H:=by cases o<;>kernel_rfl
noncomputable def b20 (C:CT):List Stmt:=whB (stm 1020 1)
noncomputable def el:Stmt→List Stmt
  | .If _ _ e _=>e
  | _=>[]
noncomputable def f20:Stmt:=(ifB ((whB (stm 1020 1)).getD 1 (.Pass default))).getD 0 (.Pass default)
noncomputable def in20 (C:CT) (k:Ot→St→Prop) (σ:St):Prop:=pSs (xc C 1020 37) (whB f20) k σ
noncomputable def e20 (C:CT) (k:Ot→St→Prop) (σ:St):Prop:=pSs (xc C 1020 38) (el ((whB (stm 1020 1)).getD 1 (.Pass default))) k σ
theorem b20o {o:O20}:pSs (xc C 1020 39) (whB (stm 1020 1)) k ⟨put "number" (.int z) (l20 i L w o),S,g,H⟩=((0 < (3:Int)∧(3:Int) < 1000000000)∧(0:Int) < 3∧(match decide (z % 3=0) with
    | true=>(0:Int) < 5∧(-4000≤z / 3 % 5∧z / 3 % 5≤4000)∧pFor (xc C 1020 37) "k" (whB f20) (afterK (xc C 1020 39) [] k) (rangeL 0 1 (rangeN 0 (z / 3 % 5) 1)) ⟨l20 i L w (o20 (.int z) (.int (z / 3)) o),S,g,H⟩
    | false=>(0:Int) < 3∧(match decide (z % 3=1) with
      | true=>pFnH .len [L] H fun n=>pBin .Mod (.int (z / 3)) n fun ix=>pItemH L ix H fun e=>pBinH .Add (.str w) e (fun r σ=>k .next { σ with l:=put "word" r σ.l }) ⟨l20 i L w (o20 (.int z) (.int (z / 3)) o),S,g,H⟩
      | false=>C 987 [] (fun P S g H=>C 987 [] (fun P2 S g H=>pFnH .len [P2] H fun n=>pBin .Mod (.int (z / 3)) n fun ix=>pItemH P ix H fun e=>pBinH .Add (.str w) e (fun r σ=>k .next { σ with l:=put "word" r σ.l })
          ⟨l20 i L w (o20 (.int z) (.int (z / 3)) o),S,g,H⟩) S g H) S g H))):=by cases o<;>kernel_rfl
theorem i20 {z fr kk:Int} {o:O20} (ho:o=.nf (.int z) (.int fr)∨∃ k0,o=.nfk (.int z) (.int fr) k0):pSs (xc C 1020 37) (whB f20) k ⟨put "k" (.int kk) (l20 i L w o),S,g,H⟩=C 980 [] (fun P S g H=>(0 < (5:Int)∧(5:Int) < 1000000000)∧(0≤kk∧kk≤1000∧(0:Int)≤64∧(64:Int) < 1000000000) ∧
    (0 < (64:Int) ^ kk.toNat∧(64:Int) ^ kk.toNat < 1000000000)∧(0:Int) < 64∧C 980 [] (fun P2 S g H=>pFnH .len [P2] H fun n=>pBin .Mod (.int (fr / 5 / 64 ^ kk.toNat % 64)) n fun ix=>pItemH P ix H fun e=>
      pBinH .Add (.str w) e (fun r σ=>k .next { σ with l:=put "word" r σ.l }) ⟨l20 i L w (.nfk (.int z) (.int fr) (.int kk)),S,g,H⟩) S g H) S g H:=by
  rcases ho with rfl | ⟨k0,rfl⟩<;>kernel_rfl
end
end Mine

open PySem PySem.W PyProof.Rows PySem.Calls
set_option maxRecDepth 100000
set_option Elab.async false
set_option backward.match.sparseCases false
namespace Mine
noncomputable def Has (P:SpP) (C:CT):Prop:=∀ f args Q S g H,pureC P f args Q S g H→C f args Q S g H
noncomputable def HasV (C:CT):Prop:=∀ (Q:QT) S g H,Q (.loc H.length) S g (H++[.lst (vowL.map .str)])→C 973 [] Q S g H
noncomputable def HasL (C:CT):Prop:=∀ (Q:QT) S g H,Q (.loc H.length) S g (H++[.lst (letL.map .str)])→C 980 [] Q S g H
noncomputable def HasP (C:CT):Prop:=∀ (Q:QT) S g H,Q (.loc H.length) S g (H++[.lst (parL.map .str)])→C 987 [] Q S g H
noncomputable def leafC:CT:=fun f args Q S g H=>(f=973∧args=[]∧Q (.loc H.length) S g (H++[.lst (vowL.map .str)]))∨(f=980∧args=[]∧Q (.loc H.length) S g (H++[.lst (letL.map .str)]))∨(f=987∧args=[]∧Q (.loc H.length) S g (H++[.lst (parL.map .str)]))
theorem leaf_body {C:CT} {f:Addr} {args:List PV} {Q:QT} {S:Option Fs} {g:Nat} {H:List AO} (h:leafC f args Q S g H):BodyOK T1 C f args Q S g H:=by
  rcases h with ⟨rfl,rfl,h⟩ | ⟨rfl,rfl,h⟩ | ⟨rfl,rfl,h⟩
  · rw [e973];exact ⟨rfl,by decide,h⟩
  · rw [e980];exact ⟨rfl,by decide,h⟩
  · rw [e987];exact ⟨rfl,by decide,h⟩
noncomputable def lcut (w e:List Nat):List Nat:=w.take (w.length - e.length)
theorem lcut_len (w e:List Nat):(lcut w e).length=w.length - e.length:=by unfold lcut;rw [List.length_take];(exact ar_plsu)
theorem slc_cut {w e:List Nat} (h:e.length≤w.length):slc w none (some ((w.length:Int) - e.length))=lcut w e:=by
  unfold slc clip lcut
  dsimp only
  rw [if_neg (by (exact ar_tw58 h)),List.drop_zero]
  congr 1
  (exact ar_srsd)
theorem lend_suf (x:List Nat) (ss:List (List Nat)):∀ f,f <:+ x→ss.foldl (fun f e=>bif decide (f.length < e.length)&&e.isSuffixOf x then e else f) f <:+ x:=by
  induction ss with
  | nil=>intro f h;exact h
  | cons e r ih=>
    intro f h
    rw [List.foldl_cons]
    apply ih
    cases q:decide (f.length < e.length)&&e.isSuffixOf x with
    | true=>exact List.isSuffixOf_iff_suffix.mp (Bool.and_eq_true_iff.mp q).2
    | false=>exact h
theorem lend_sfx (x:List Nat) (ss:List (List Nat)):lend x ss <:+ x:=lend_suf x ss [] (List.nil_suffix)
theorem lend_len (x:List Nat) (ss:List (List Nat)):(lend x ss).length≤x.length:=(lend_sfx x ss).length_le
noncomputable def cutP:SpP:=fun f args H k=>∃ w e,f=1034∧args=[.str w,.str e]∧w.length≤4000∧e.length≤w.length∧k (.str (lcut w e))
theorem body1034 {C:CT}:BodyP C cutP:=by
  intro f args S g H k hc hp Q hq
  obtain ⟨w,e,rfl,rfl,hw,he,hk⟩:=hp
  rw [e1034,slc_cut he]
  exact ⟨rfl,hw,by (exact ar_izyy hw he),hw,hq _ _ rfl (List.prefix_refl _) hk⟩
noncomputable def lless (w:List Nat) (ss:List (List Nat)) (low:Int):List Nat:=(fun h:List Nat=>bif decide (low≤(h.length:Int)) then h else w) (lcut w (lend w ss))
noncomputable def lessP:SpP:=fun f args H k=>∃ w L low ss,f=1041∧args=[.str w,L,.int low]∧listOf L H=some (ss.map .str)∧w.length≤4000∧short 4000 ss∧k (.str (lless w ss low))
theorem body1041 {C:CT} (h1:Has endP C) (h2:Has cutP C):BodyP C lessP:=by
  intro f args S g H k hc hp Q hq
  obtain ⟨w,L,low,ss,rfl,rfl,hL,hw,hs,hk⟩:=hp
  rw [e1041]
  refine ⟨rfl,h1 _ _ _ _ _ _ ⟨hc,w,L,0,ss,rfl,rfl,hL,hw,by decide,hs,?_⟩⟩
  show C 1034 [.str w,.str (lend w ss)] _ S g H
  have hl:=lend_len w ss
  refine h2 _ _ _ _ _ _ ⟨hc,w,lend w ss,rfl,rfl,hw,hl,?_⟩
  have hcl:=lcut_len w (lend w ss)
  show (lcut w (lend w ss)).length≤4000∧(match decide (low≤((lcut w (lend w ss)).length:Int)) with | true=>_ | false=>_:Prop)
  refine ⟨by (exact ar_v19n hw hcl),?_⟩
  unfold lless at hk
  dsimp only at hk
  cases q:decide (low≤((lcut w (lend w ss)).length:Int)) with
  | true=>rw [q] at hk;exact hq _ _ rfl (List.prefix_refl _) hk
  | false=>rw [q] at hk;exact hq _ _ rfl (List.prefix_refl _) hk
theorem vow_has:∀ c:Nat,vowL.contains [c]=isV c:=by
  have e:vowL=[[97],[101],[105],[111],[117],[225],[233],[237],[243],[250],[252]]:=by kernel_rfl
  intro c
  rw [e]
  unfold isV
  simp only [List.contains_cons,List.contains_nil]
  have h:∀ a b:Nat,(([a]:List Nat)==[b])=(a==b):=fun a b=>by
    rw [Bool.eq_iff_iff];simp
  simp only [h]
theorem strsOf_strs:∀ ss:List (List Nat),strsOf (ss.map .str)=some ss
  | []=>rfl
  | s::r=>by
    show (strsOf (r.map .str)).map (s::·)=_
    rw [strsOf_strs r];rfl
theorem last_get {H:List AO} {ao:AO}:(H++[ao])[H.length]?=some ao:=by
  rw [List.getElem?_append_right (Nat.le_refl _),Nat.sub_self];rfl
theorem cmp_in {H:List AO} {ss:List (List Nat)} {c:List Nat} {k:Bool→Prop} (h:k (ss.contains c)):pCmpH .In (.str c) (.loc H.length) (H++[.lst (ss.map .str)]) k:=by
  unfold pCmpH lstStrs
  dsimp only
  rw [last_get]
  dsimp only
  rw [strsOf_strs]
  exact h
theorem cmp_notin {H:List AO} {ss:List (List Nat)} {c:List Nat} {k:Bool→Prop} (h:k (!ss.contains c)):pCmpH .NotIn (.str c) (.loc H.length) (H++[.lst (ss.map .str)]) k:=by
  unfold pCmpH lstStrs
  dsimp only
  rw [last_get]
  dsimp only
  rw [strsOf_strs]
  exact h
theorem pre_snoc {H H':List AO} {ao:AO} (h:H <+: H'):H <+: H'++[ao]:=h.trans (List.prefix_append _ _)
theorem skip_loop {C:CT} (hV:HasV C) {b:Bool} {op:CmpOp} (hop:(b=true∧op=.In)∨(b=false∧op=.NotIn)) {w:List Nat} (hw:w.length≤3000) {S:Option Fs} {g:Nat} {Lo:Nat→Int→Option Fs→Nat→List AO→Prop} {Fin:Int→Option Fs→Nat→List AO→Prop}
    (step:∀ n a S g H,Lo (n+1) a S g H=(w.length≤4000∧(match decide (a < (w.length:Int)) with
      | true=>0≤a∧a < 4000∧∃ c,w[a.toNat]?=some c∧C 973 [] (fun v S g H=>pCmpH op (.str [c]) v H fun q=>match q with
        | true=>Lo n (a+1) S g H
        | false=>Fin a S g H) S g H
      | false=>Fin a S g H))):∀ (m:Nat) (a:Int),((w.length:Int) - a).toNat=m→0≤a→∀ H,(∀ H',H <+: H'→Fin (skipV b w a) S g H')→∃ n,Lo n a S g H:=by
  intro m
  induction m with
  | zero=>
    intro a hm h0 H hf
    refine ⟨1,?_⟩
    rw [step]
    refine ⟨by (exact ar_1mx0 hw),?_⟩
    rw [decide_eq_false (by (exact ar_5si4 hm))]
    have:=hf H (List.prefix_refl _)
    rwa [skipV_end (by (exact ar_s33v hm))] at this
  | succ m ih=>
    intro a hm h0 H hf
    have hlt:a < (w.length:Int):=by (exact ar_pxi4 hm)
    have hlt':a.toNat < w.length:=by (exact ar_l2rk h0 hlt)
    have hc:w[a.toNat]?=some w[a.toNat]:=List.getElem?_eq_getElem hlt'
    generalize w[a.toNat]=c at hc
    rw [skipV_step h0 hc] at hf
    have key:∃ n,Lo (n+1) a S g H:=by
      cases q:(isV c==b) with
      | true=>
        rw [if_pos q] at hf
        obtain ⟨n,hn⟩:=ih (a+1) (by (exact ar_15yu hm)) (by (exact ar_khmm h0)) (H++[.lst (vowL.map .str)]) fun H' h'=>hf H' ((List.prefix_append _ _).trans h')
        refine ⟨n,?_⟩
        rw [step]
        refine ⟨by (exact ar_1mx0 hw),?_⟩
        rw [decide_eq_true hlt]
        refine ⟨h0,by (exact ar_6mvh hw hlt),c,hc,hV _ _ _ _ ?_⟩
        rcases hop with ⟨rfl,rfl⟩ | ⟨rfl,rfl⟩
        · refine cmp_in ?_
          rw [vow_has]
          have:isV c=true:=by simpa using q
          rw [this];exact hn
        · refine cmp_notin ?_
          rw [vow_has]
          have:isV c=false:=by simpa using q
          rw [this];exact hn
      | false=>
        rw [if_neg (by rw [q];exact Bool.false_ne_true)] at hf
        refine ⟨0,?_⟩
        rw [step]
        refine ⟨by (exact ar_1mx0 hw),?_⟩
        rw [decide_eq_true hlt]
        refine ⟨h0,by (exact ar_6mvh hw hlt),c,hc,hV _ _ _ _ ?_⟩
        have hn:=hf _ (pre_snoc (ao:=.lst (vowL.map .str)) (List.prefix_refl H))
        rcases hop with ⟨rfl,rfl⟩ | ⟨rfl,rfl⟩
        · refine cmp_in ?_
          rw [vow_has]
          have:isV c=false:=by simpa using q
          rw [this];exact hn
        · refine cmp_notin ?_
          rw [vow_has]
          have:isV c=true:=by simpa using q
          rw [this];exact hn
    obtain ⟨n,hn⟩:=key
    exact ⟨n+1,hn⟩
end Mine

open PySem PySem.W PyProof.Rows PySem.Calls
set_option maxRecDepth 100000
set_option Elab.async false
set_option backward.match.sparseCases false
namespace Mine
noncomputable def lbehind (w:List Nat) (a:Int):Int:=minL w (skipV true w (skipV false w a)+1)
noncomputable def behP:SpP:=fun f args H k=>∃ w a,f=1048∧args=[.str w,.int a]∧w.length≤3000∧0≤a∧k (.int (lbehind w a))
theorem skipV_ge (b:Bool) (w:List Nat) (c:Int):c≤skipV b w c:=by unfold skipV;(exact ar_x67q)
theorem body1048 {C:CT} (hV:HasV C):BodyP C behP:=by
  intro f args S g H k hc hp Q hq
  obtain ⟨w,a,rfl,rfl,hw,ha,hk⟩:=hp
  rw [e1048]
  refine ⟨rfl,?_⟩
  refine skip_loop hV (b:=false) (.inr ⟨rfl,rfl⟩) hw (Lo:=fun n a S g H=>Lq C Q 1048 0 n ⟨l48 w a,S,g,H⟩) (Fin:=fun a S g H=>k48 C Q .next ⟨l48 w a,S,g,H⟩) (fun n a S g H=>s1048a) _ a rfl ha H fun H' h'=>?_
  show k48 C Q .next ⟨l48 w (skipV false w a),S,g,H'⟩
  rw [z1048a]
  have h2:=skipV_ge false w a
  refine skip_loop hV (b:=true) (.inl ⟨rfl,rfl⟩) hw (Lo:=fun n a S g H=>Lq C Q 1048 1 n ⟨l48 w a,S,g,H⟩) (Fin:=fun a S g H=>k48b C Q .next ⟨l48 w a,S,g,H⟩) (fun n a S g H=>s1048b) _ _ rfl (by (exact ar_zu20 ha h2)) H' fun H2 h2=>?_
  show k48b C Q .next ⟨l48 w (skipV true w (skipV false w a)),S,g,H2⟩
  rw [z1048b]
  exact ⟨by (exact ar_1mx0 hw),hq _ _ rfl (h'.trans h2) hk⟩
noncomputable def lfirst (w:List Nat):Int:=bif decide ((w.length:Int) < 2) then (w.length:Int) else bif isAt false w 1 then minL w (skipV false w 2+1) else bif isAt false w 0 then minL w 3 else minL w (skipV true w 2+1)
noncomputable def firP:SpP:=fun f args H k=>∃ w,f=1055∧args=[.str w]∧w.length≤3000∧k (.int (lfirst w))
theorem isAt_get {w:List Nat} {i:Int} {c:Nat} (h:w[i.toNat]?=some c):isAt false w i=!isV c:=by
  unfold isAt;rw [h];show (isV c==false)=_;cases isV c<;>rfl
theorem body1055 {C:CT} (hV:HasV C):BodyP C firP:=by
  intro f args S g H k hc hp Q hq
  obtain ⟨w,rfl,rfl,hw,hk⟩:=hp
  rw [e1055]
  refine ⟨rfl,by (exact ar_1mx0 hw),?_⟩
  unfold lfirst at hk
  by_cases h2:(w.length:Int) < 2
  · rw [decide_eq_true h2] at hk ⊢
    exact ⟨by (exact ar_1mx0 hw),hq _ _ rfl (List.prefix_refl _) hk⟩
  · rw [decide_eq_false h2] at hk ⊢
    have g1:w[(1:Int).toNat]?=some (w[1]'(by (exact ar_zlfe h2))):=List.getElem?_eq_getElem (by show 1 < w.length;(exact ar_zlfe h2))
    have g0:w[(0:Int).toNat]?=some (w[0]'(by (exact ar_bxnx h2))):=List.getElem?_eq_getElem (by show 0 < w.length;(exact ar_bxnx h2))
    generalize w[1]'(by (exact ar_zlfe h2))=c1 at g1
    generalize w[0]'(by (exact ar_bxnx h2))=c0 at g0
    refine ⟨by decide,by decide,c1,g1,hV _ _ _ _ (cmp_notin ?_)⟩
    rw [vow_has]
    have P1:=List.prefix_append H [AO.lst (vowL.map .str)]
    rw [isAt_get g1] at hk
    cases q:isV c1 with
    | false=>
      rw [q] at hk
      refine skip_loop hV (b:=false) (.inr ⟨rfl,rfl⟩) hw (Lo:=fun n a S g H=>a55 C Q n ⟨l55 w a,S,g,H⟩) (Fin:=fun a S g H=>w.length≤4000∧Q (.int (minL w (a+1))) S g H) (fun n a S g H=>s1055a) _ 2 rfl (by decide) _ fun H' h'=>?_
      exact ⟨by (exact ar_1mx0 hw),hq _ _ rfl (P1.trans h') hk⟩
    | true=>
      rw [q] at hk
      refine ⟨by decide,by decide,c0,g0,hV _ _ _ _ (cmp_notin ?_)⟩
      rw [vow_has]
      have P2:=pre_snoc (ao:=AO.lst (vowL.map .str)) P1
      rw [isAt_get g0] at hk
      cases q0:isV c0 with
      | false=>rw [q0] at hk;exact ⟨by (exact ar_1mx0 hw),hq _ _ rfl P2 hk⟩
      | true=>
        rw [q0] at hk
        refine skip_loop hV (b:=true) (.inl ⟨rfl,rfl⟩) hw (Lo:=fun n a S g H=>Lq C Q 1055 4 n ⟨l55 w a,S,g,H⟩) (Fin:=fun a S g H=>w.length≤4000∧Q (.int (minL w (a+1))) S g H) (fun n a S g H=>s1055b) _ 2 rfl (by decide) _ fun H' h'=>?_
        exact ⟨by (exact ar_1mx0 hw),hq _ _ rfl (P2.trans h') hk⟩
theorem lk_mem {α β:Type} [BEq α] [LawfulBEq α]:∀ {l:List (α × β)} {a:α} {b:β},l.lookup a=some b→(a,b)∈l
  | (k,v)::r,a,b,h=>by
    rw [List.lookup_cons] at h
    cases q:a==k with
    | true=>rw [q] at h;cases h;rw [beq_iff_eq.mp q];exact .head _
    | false=>rw [q] at h;exact .tail _ (lk_mem h)
theorem use_end {C:CT} (h1:Has endP C) {w:List Nat} {L:PV} {ss:List (List Nat)} {Q:QT} {S:Option Fs} {g:Nat} {H:List AO} (hc:clean S H) (hL:listOf L H=some (ss.map .str)) (hw:w.length≤4000) (hs:short 4000 ss) (hk:Q (.str (lend w ss)) S g H) :
    C 1027 [.str w,L,.int 0] Q S g H:=h1 _ _ _ _ _ _ ⟨hc,w,L,0,ss,rfl,rfl,hL,hw,Int.le_refl _,hs,hk⟩
theorem use_endl {C:CT} (h1:Has endP C) {w:List Nat} {L:PV} {low:Int} {ss:List (List Nat)} {Q:QT} {S:Option Fs} {g:Nat} {H:List AO} (hc:clean S H) (hL:listOf L H=some (ss.map .str)) (hw:w.length≤4000) (h0:0≤low) (hs:short 4000 ss) (hk:Q (.str (lend (w.drop low.toNat) ss)) S g H) :
    C 1027 [.str w,L,.int low] Q S g H:=h1 _ _ _ _ _ _ ⟨hc,w,L,low,ss,rfl,rfl,hL,hw,h0,hs,hk⟩
theorem use_cut {C:CT} (h2:Has cutP C) {w e:List Nat} {Q:QT} {S:Option Fs} {g:Nat} {H:List AO} (hc:clean S H) (hw:w.length≤4000) (he:e.length≤w.length) (hk:Q (.str (lcut w e)) S g H) :
    C 1034 [.str w,.str e] Q S g H:=h2 _ _ _ _ _ _ ⟨hc,w,e,rfl,rfl,hw,he,hk⟩
theorem short_all {l:List (List Nat)} {n:Nat} (h:(l.all fun x=>Nat.ble x.length n)=true):short n l:=fun x hx=>Nat.le_of_ble_eq_true (List.all_eq_true.mp h x hx)
theorem short_pro:short 4000 proL:=short_all (by decide +kernel)
theorem short_bef:short 4000 befL:=short_all (by decide +kernel)
theorem short_ys:short 4000 ysL:=short_all (by decide +kernel)
theorem short_vrb:short 4000 vrbL:=short_all (by decide +kernel)
theorem short_las:short 4000 lasL:=short_all (by decide +kernel)
theorem short_nou:short 4000 nouL:=short_all (by decide +kernel)
noncomputable def plaL (v:List Nat):Option (List Nat):=match plaD.lookup v with
  | some (.str x)=>some x
  | _=>none
theorem pla_strs:(plaD.all fun p=>match p.2 with | .str l=>Nat.ble l.length 10 | _=>false)=true:=by decide +kernel
theorem pla_get {v:List Nat} {x:PV} (h:plaD.lookup v=some x):∃ l,x=.str l∧l.length≤10:=by
  have:=List.all_eq_true.mp pla_strs _ (lk_mem h)
  dsimp only at this
  split at this
  · rename_i l
    exact ⟨l,rfl,Nat.le_of_ble_eq_true this⟩
  · cases this
noncomputable def lpron4 (w:List Nat) (first:Int) (p r v h:List Nat):List Nat:=bif decide (p=[]) then w else bif decide (v=[]) then w else bif decide ((h.length:Int) < first) then w else match plaL v with
  | some x=>h++x
  | none=>bif decide (v=txYendo) then (bif !decide (slc h (some (-1)) none=txU) then w else r) else r
noncomputable def lpron (w:List Nat) (first:Int):List Nat:=(fun p=>(fun r=>(fun v=>lpron4 w first p r v (lcut r v)) (lend r befL)) (lcut w p)) (lend w proL)
noncomputable def proP:SpP:=fun f args H k=>∃ w first,f=1062∧args=[.str w,.int first]∧w.length≤3000∧k (.str (lpron w first))
theorem body1062 {C:CT} (h1:Has endP C) (h2:Has cutP C):BodyP C proP:=by
  intro f args S g H k hc hp Q hq
  obtain ⟨w,first,rfl,rfl,hw,hk⟩:=hp
  rw [e1062]
  unfold lpron at hk
  dsimp only at hk
  have hl:=lend_len w proL
  refine ⟨rfl,use_end h1 hc rfl (by (exact ar_1mx0 hw)) short_pro ?_⟩
  generalize lend w proL=p at hk hl ⊢
  refine use_cut h2 hc (by (exact ar_1mx0 hw)) hl ?_
  have hr:=lcut_len w p
  generalize lcut w p=r at hk hr ⊢
  have hvl:=lend_len r befL
  refine use_end h1 hc rfl (by (exact ar_6vee hw hr)) short_bef ?_
  generalize lend r befL=v at hk hvl ⊢
  refine use_cut h2 hc (by (exact ar_6vee hw hr)) hvl ?_
  have hh:=lcut_len r v
  generalize lcut r v=h at hk hh ⊢
  show K62 C Q ⟨l62 w first p r v h,S,g,H⟩
  rw [z1062]
  have fin:∀ x,k (.str x)→Q (.str x) S g H:=fun x hx=>hq _ _ rfl (List.prefix_refl _) hx
  unfold lpron4 at hk
  cases q1:decide (p=[]) with
  | true=>rw [q1] at hk;exact fin _ hk
  | false=>
    rw [q1] at hk
    cases q2:decide (v=[]) with
    | true=>rw [q2] at hk;exact fin _ hk
    | false=>
      rw [q2] at hk
      refine ⟨by (exact ar_cnwe hw hr hh),?_⟩
      cases q3:decide ((h.length:Int) < first) with
      | true=>rw [q3] at hk;exact fin _ hk
      | false=>
        rw [q3] at hk
        unfold hasKey
        unfold plaL at hk
        cases q4:plaD.lookup v with
        | some x=>
          obtain ⟨l,rfl,hl10⟩:=pla_get q4
          rw [q4] at hk
          show h.length+l.length≤4000∧Q (.str (h++l)) S g H
          exact ⟨by (exact ar_u6g1 hw hr hh hl10),fin _ hk⟩
        | none=>
          rw [q4] at hk
          dsimp only [Option.isSome] at hk ⊢
          cases q5:decide (v=txYendo) with
          | false=>rw [q5] at hk;exact fin _ hk
          | true=>
            rw [q5] at hk
            refine ⟨by (exact ar_cnwe hw hr hh),?_⟩
            cases q6:decide (slc h (some (-1)) none=txU) with
            | false=>rw [q6] at hk;exact fin _ hk
            | true=>rw [q6] at hk;exact fin _ hk
end Mine

open PySem PySem.W PyProof.Rows PySem.Calls
set_option maxRecDepth 100000
set_option Elab.async false
set_option backward.match.sparseCases false
namespace Mine
noncomputable def lverb2 (h e:List Nat):List Nat:=bif gusL.contains e&&decide (slc h (some (-2)) none=txGu) then slc h none (some (-1)) else h
noncomputable def lverbB (w:List Nat) (first:Int):List Nat:=(fun e=>lverb2 (lcut w e) e) (lend (w.drop first.toNat) vrbL)
noncomputable def lverb (w:List Nat) (first:Int):List Nat:=(fun e=>bif !decide (e=[])&&decide (slc (lcut w e) (some (-1)) none=txU) then lcut w e else lverbB w first) (lend (w.drop first.toNat) ysL)
noncomputable def verP:SpP:=fun f args H k=>∃ w first,f=1076∧args=[.str w,.int first]∧w.length≤3000∧0≤first∧k (.str (lverb w first))
theorem lend_drop_len (w:List Nat) (n:Nat) (ss:List (List Nat)):(lend (w.drop n) ss).length≤w.length:=by
  have:=lend_len (w.drop n) ss
  rw [List.length_drop] at this;(exact ar_dvk1 this)
theorem body1076 {C:CT} (h1:Has endP C) (h2:Has cutP C):BodyP C verP:=by
  intro f args S g H k hc hp Q hq
  obtain ⟨w,first,rfl,rfl,hw,h0,hk⟩:=hp
  rw [e1076]
  unfold lverb at hk
  dsimp only at hk
  have fin:∀ x H',H <+: H'→k (.str x)→Q (.str x) S g H':=fun x H' hp hx=>hq _ _ rfl hp hx
  have rest:k (.str (lverbB w first))→r76 C Q w first S g H:=by
    intro hk
    unfold lverbB at hk
    dsimp only at hk
    have hl:=lend_drop_len w first.toNat vrbL
    refine use_endl h1 hc rfl (by (exact ar_1mx0 hw)) h0 short_vrb ?_
    generalize lend (w.drop first.toNat) vrbL=e at hk hl ⊢
    refine use_cut h2 hc (by (exact ar_1mx0 hw)) hl ?_
    have hh:=lcut_len w e
    generalize lcut w e=h at hk hh ⊢
    show K76b C Q ⟨l76 w first (.str e) (.str h),S,g,H⟩
    rw [z1076b]
    refine ⟨by decide,cmp_in ?_⟩
    have P:=List.prefix_append H [AO.lst (gusL.map .str)]
    unfold lverb2 at hk
    cases q1:gusL.contains e with
    | false=>rw [q1,Bool.false_and,cond_false] at hk;exact fin _ _ P hk
    | true=>
      rw [q1,Bool.true_and] at hk
      refine ⟨by (exact ar_6vee hw hh),?_⟩
      cases q2:decide (slc h (some (-2)) none=txGu) with
      | false=>rw [q2,cond_false] at hk;exact fin _ _ P hk
      | true=>rw [q2,cond_true] at hk;exact ⟨by (exact ar_6vee hw hh),fin _ _ P hk⟩
  have hl:=lend_drop_len w first.toNat ysL
  refine ⟨rfl,use_endl h1 hc rfl (by (exact ar_1mx0 hw)) h0 short_ys ?_⟩
  generalize lend (w.drop first.toNat) ysL=e at hk hl ⊢
  refine use_cut h2 hc (by (exact ar_1mx0 hw)) hl ?_
  have hh:=lcut_len w e
  generalize lcut w e=h at hk hh ⊢
  show K76 C Q ⟨l76 w first (.str e) (.str h),S,g,H⟩
  rw [z1076]
  cases q1:decide (e=[]) with
  | true=>rw [q1,Bool.not_true,Bool.false_and,cond_false] at hk;exact rest hk
  | false=>
    rw [q1,Bool.not_false,Bool.true_and] at hk
    refine ⟨by (exact ar_6vee hw hh),?_⟩
    cases q2:decide (slc h (some (-1)) none=txU) with
    | true=>rw [q2,cond_true] at hk;exact fin _ _ (List.prefix_refl _) hk
    | false=>rw [q2,cond_false] at hk;exact rest hk
theorem lend_mem_go (x:List Nat) (ss:List (List Nat)):∀ f,(ss.foldl (fun f e=>bif decide (f.length < e.length)&&e.isSuffixOf x then e else f) f=f)∨ss.foldl (fun f e=>bif decide (f.length < e.length)&&e.isSuffixOf x then e else f) f∈ss:=by
  induction ss with
  | nil=>intro f;exact .inl rfl
  | cons e r ih=>
    intro f
    rw [List.foldl_cons]
    cases q:decide (f.length < e.length)&&e.isSuffixOf x with
    | true=>
      rcases ih e with h | h
      · exact .inr (by show _∈e::r;rw [cond_true,h];exact .head _)
      · exact .inr (.tail _ h)
    | false=>
      rcases ih f with h | h
      · exact .inl h
      · exact .inr (.tail _ h)
theorem lend_mem (x:List Nat) (ss:List (List Nat)):lend x ss=[]∨lend x ss∈ss:=lend_mem_go x ss []
theorem nou_ints:(nouD.all fun p=>match p.2 with | .int _=>true | _=>false)=true:=by decide +kernel
noncomputable def nouK (e:List Nat):Int:=match nouD.lookup e with
  | some (.int k)=>k
  | _=>0
theorem nou_get {e:List Nat} (h:e∈nouL):nouD.lookup e=some (.int (nouK e)):=by
  cases q:nouD.lookup e with
  | none=>
    rw [List.lookup_eq_none_iff] at q
    obtain ⟨p,hp,rfl⟩:=List.mem_map.mp h
    have:=q p hp
    simp at this
  | some x=>
    have:=List.all_eq_true.mp nou_ints _ (lk_mem q)
    dsimp only at this
    unfold nouK
    rw [q]
    split at this
    · rfl
    · cases this
noncomputable def lkind6 (two:Int) (h m l:List Nat):List Nat:=bif decide (m=iv2)&&!decide (l=h) then lless l [at2] two else l
noncomputable def lkind (kd two:Int) (h:List Nat):List Nat:=bif decide (kd=2) then lless h [ic2] two else bif decide (kd=3) then h++txLog else bif decide (kd=4) then h++txU else bif decide (kd=5) then h++txEnte else
  bif decide (kd=6) then lkind6 two h (lend h s3L) (lless h s3L two) else bif decide (kd=7) then lless h s4L two else bif decide (kd=8) then lless h s5L two else bif decide (kd=9) then lless h [at2] two else h
noncomputable def lnoun2 (one two:Int) (h e:List Nat):Option (List Nat):=bif decide (e=[]) then none else bif (bif decide (e=txAm) then decide ((h.length:Int) < one) else decide ((h.length:Int) < two)) then none else some (lkind (nouK e) two h)
noncomputable def lnoun (w:List Nat) (one two:Int):Option (List Nat):=(fun e=>lnoun2 one two (lcut w e) e) (lend w nouL)
noncomputable def optS:Option (List Nat)→PV
  | none=>.none
  | some x=>.str x
noncomputable def nouP:SpP:=fun f args H k=>∃ w one two,f=1069∧args=[.str w,.int one,.int two]∧w.length≤3000∧k (optS (lnoun w one two))
theorem use_less {C:CT} (h1:Has lessP C) {w:List Nat} {low:Int} {ss:List (List Nat)} {Q:QT} {S:Option Fs} {g:Nat} {H:List AO} (hc:clean S H) (hw:w.length≤4000) (hs:short 4000 ss) (hk:Q (.str (lless w ss low)) S g (H++[.lst (ss.map .str)])) :
    C 1041 [.str w,.loc H.length,.int low] Q S g (H++[.lst (ss.map .str)]):=h1 _ _ _ _ _ _ ⟨hc.strs ss,w,_,low,ss,rfl,rfl,by unfold listOf;dsimp only;rw [last_get],hw,hs,hk⟩
theorem lless_len (w:List Nat) (ss:List (List Nat)) (low:Int):(lless w ss low).length≤w.length:=by
  unfold lless
  dsimp only
  have:=lcut_len w (lend w ss)
  cases decide (low≤((lcut w (lend w ss)).length:Int))
  · exact Nat.le_refl _
  · show (lcut w (lend w ss)).length≤_;(exact ar_g0lk this)
theorem short_s3:short 4000 s3L:=short_all (by decide +kernel)
theorem short_s4:short 4000 s4L:=short_all (by decide +kernel)
theorem short_s5:short 4000 s5L:=short_all (by decide +kernel)
theorem short_ic:short 4000 [ic2]:=short_all (by decide +kernel)
theorem short_at:short 4000 [at2]:=short_all (by decide +kernel)
set_option maxHeartbeats 1000000 in
theorem kind_ok {C:CT} (h1:Has endP C) (h3:Has lessP C) {Q:QT} {S:Option Fs} {g:Nat} {H:List AO} (hc:clean S H) {w h e:List Nat} {one two kd:Int} (hh:h.length≤3000) (fin:∀ H',H <+: H'→Q (.str (lkind kd two h)) S g H') :
    K69b C Q ⟨l69 w one two (.str e) (.str h)++([("kind",.int kd)]:Fs),S,g,H⟩:=by
  rw [z1069b]
  unfold lkind at fin
  have P:∀ ao:AO,H <+: H++[ao]:=fun ao=>List.prefix_append _ _
  cases q2:decide (kd=2) with
  | true=>rw [q2,cond_true] at fin;exact ⟨by decide,use_less h3 hc (by (exact ar_1mx0 hh)) short_ic (fin _ (P _))⟩
  | false=>
  rw [q2,cond_false] at fin
  cases q3:decide (kd=3) with
  | true=>rw [q3,cond_true] at fin;exact ⟨by (exact ar_16ga hh),fin _ (List.prefix_refl _)⟩
  | false=>
  rw [q3,cond_false] at fin
  cases q4:decide (kd=4) with
  | true=>rw [q4,cond_true] at fin;exact ⟨by (exact ar_3quf hh),fin _ (List.prefix_refl _)⟩
  | false=>
  rw [q4,cond_false] at fin
  cases q5:decide (kd=5) with
  | true=>rw [q5,cond_true] at fin;exact ⟨by (exact ar_zz10 hh),fin _ (List.prefix_refl _)⟩
  | false=>
  rw [q5,cond_false] at fin
  cases q6:decide (kd=6) with
  | true=>
    rw [q6,cond_true] at fin
    refine ⟨by decide,use_end h1 (hc.strs s3L) (by unfold listOf;dsimp only;rw [last_get]) (by (exact ar_1mx0 hh)) short_s3 ?_⟩
    refine ⟨by decide,use_less h3 (hc.strs s3L) (by (exact ar_1mx0 hh)) short_s3 ?_⟩
    have hl:=lless_len h s3L two
    unfold lkind6 at fin
    generalize lend h s3L=m at fin ⊢
    generalize lless h s3L two=l at fin hl ⊢
    rw [z1069c]
    have P2:H <+: H++[AO.lst (s3L.map .str)]++[AO.lst (s3L.map .str)]:=(P _).trans (List.prefix_append _ _)
    cases q7:decide (m=iv2) with
    | false=>rw [q7,Bool.false_and,cond_false] at fin;exact fin _ P2
    | true=>
      rw [q7,Bool.true_and] at fin
      cases q8:decide (l=h) with
      | true=>rw [q8,Bool.not_true,cond_false] at fin;exact fin _ P2
      | false=>
        rw [q8,Bool.not_false,cond_true] at fin
        exact ⟨by decide,use_less h3 ((hc.strs s3L).strs s3L) (by (exact ar_mguc hh hl)) short_at (fin _ (P2.trans (List.prefix_append _ _)))⟩
  | false=>
  rw [q6,cond_false] at fin
  cases q7:decide (kd=7) with
  | true=>rw [q7,cond_true] at fin;exact ⟨by decide,use_less h3 hc (by (exact ar_1mx0 hh)) short_s4 (fin _ (P _))⟩
  | false=>
  rw [q7,cond_false] at fin
  cases q8:decide (kd=8) with
  | true=>rw [q8,cond_true] at fin;exact ⟨by decide,use_less h3 hc (by (exact ar_1mx0 hh)) short_s5 (fin _ (P _))⟩
  | false=>
  rw [q8,cond_false] at fin
  cases q9:decide (kd=9) with
  | true=>rw [q9,cond_true] at fin;exact ⟨by decide,use_less h3 hc (by (exact ar_1mx0 hh)) short_at (fin _ (P _))⟩
  | false=>rw [q9,cond_false] at fin;exact fin _ (List.prefix_refl _)
theorem body1069 {C:CT} (h1:Has endP C) (h2:Has cutP C) (h3:Has lessP C):BodyP C nouP:=by
  intro f args S g H k hc hp Q hq
  obtain ⟨w,one,two,rfl,rfl,hw,hk⟩:=hp
  rw [e1069]
  have eL:(nouD.map fun p=>PV.str p.1)=nouL.map .str:=by unfold nouL;rw [List.map_map];rfl
  rw [eL]
  unfold lnoun at hk
  dsimp only at hk
  have hl:=lend_len w nouL
  have hm:=lend_mem w nouL
  have hc':=hc.strs nouL
  have P:=List.prefix_append H [AO.lst (nouL.map .str)]
  refine ⟨rfl,use_end h1 hc' (by unfold listOf;dsimp only;rw [last_get]) (by (exact ar_1mx0 hw)) short_nou ?_⟩
  generalize lend w nouL=e at hk hl hm ⊢
  refine use_cut h2 hc' (by (exact ar_1mx0 hw)) hl ?_
  have hh:=lcut_len w e
  generalize lcut w e=h at hk hh ⊢
  show K69 C Q ⟨l69 w one two (.str e) (.str h),S,g,_⟩
  rw [z1069]
  unfold lnoun2 at hk
  cases q1:decide (e=[]) with
  | true=>rw [q1,cond_true] at hk;exact hq _ _ rfl P hk
  | false=>
    rw [q1,cond_false] at hk
    have he:e∈nouL:=by
      rcases hm with rfl | hm
      · rw [decide_eq_true rfl] at q1;cases q1
      · exact hm
    have go:∀ c:Bool,k (optS (bif c then none else some (lkind (nouK e) two h)))→n69 C Q w one two e h S g (H++[.lst (nouL.map .str)]) c:=by
      intro c hk
      unfold n69
      cases c with
      | true=>exact hq _ _ rfl P hk
      | false=>
        dsimp only
        rw [nou_get he]
        exact kind_ok h1 h3 hc' (by (exact ar_q41b hw hh)) fun H' h'=>hq _ _ rfl (P.trans h') hk
    refine ⟨by (exact ar_6vee hw hh),?_⟩
    cases q2:decide (e=txAm) with
    | true=>rw [q2,cond_true] at hk;exact go _ hk
    | false=>rw [q2,cond_false] at hk;exact go _ hk
end Mine

open PySem PySem.W PyProof.Rows PySem.Calls PySem.Builtin PySem.Builtin.Str
set_option maxRecDepth 100000
set_option Elab.async false
set_option backward.match.sparseCases false
namespace Mine
noncomputable def sub1 (a b c:Nat):Nat:=if c=a then b else c
theorem map_free {a b:Nat}:∀ {l:List Nat},a∉l→l.map (sub1 a b)=l
  | [],_=>rfl
  | c::r,h=>by
    rw [List.mem_cons,not_or] at h
    rw [List.map_cons,map_free h.2]
    unfold sub1
    rw [if_neg fun e=>h.1 e.symm]
theorem sub_join {a b:Nat}:∀ parts:List Str,(∀ p∈parts,a∉p.cps.toList)→(Str.join ⟨#[a]⟩ parts).cps.toList.map (sub1 a b)=(Str.join ⟨#[b]⟩ parts).cps.toList
  | [],_=>rfl
  | [p],h=>map_free (h p (List.mem_singleton.mpr rfl))
  | p::q::r,h=>by
    have ih:=sub_join (b:=b) (q::r) fun c hc=>h c (List.mem_cons_of_mem _ hc)
    show (p++⟨#[a]⟩++Str.join ⟨#[a]⟩ (q::r)).cps.toList.map (sub1 a b)=(p++⟨#[b]⟩++Str.join ⟨#[b]⟩ (q::r)).cps.toList
    simp only [Str.cps_append,Array.toList_append,List.map_append]
    rw [ih,map_free (h p (List.mem_cons_self ..))]
    have:[a].map (sub1 a b)=[b]:=by simp [sub1]
    show p.cps.toList++[a].map (sub1 a b)++_=_
    rw [this]
theorem repl_one (x:List Nat) (a b:Nat):repl x [a] [b]=x.map (sub1 a b):=by
  have h:(Txt.replace ⟨x.toArray⟩ ⟨#[a]⟩ ⟨#[b]⟩).cps.toList=x.map (sub1 a b):=by
    rw [StrLaws.replace_one,← sub_join _ (StrLaws.split_free _ a),StrLaws.join_split]
  exact h
theorem rp_ok {w:List Nat} {a b:Nat} {P:List Nat→Prop} (hab:a≠b) (hw:w.length≤4000) (h:P (w.map (sub1 a b))):rp w [a] [b] P:=by
  intro t u t0 u0 tu
  refine ⟨⟨t0,u0,tu,fun e=>hab (by simpa using e),hw,by simp⟩,?_⟩
  rw [repl_one];exact h
noncomputable def lsub (w:List Nat):List Nat:=((((w.map (sub1 225 97)).map (sub1 233 101)).map (sub1 237 105)).map (sub1 243 111)).map (sub1 250 117)
noncomputable def llast2 (first:Int) (h e:List Nat):List Nat:=bif aeL.contains e&&(decide (slc h (some (-2)) none=txGu)&&decide (first < (h.length:Int))) then slc h none (some (-1)) else h
noncomputable def llast (first:Int) (w:List Nat):List Nat:=(fun e=>bif !decide (e=[])&&decide (first≤((lcut w e).length:Int)) then llast2 first (lcut w e) e else w) (lend w lasL)
noncomputable def lmid (first one two:Int) (w:List Nat):List Nat:=match lnoun w one two with
  | none=>lverb w first
  | some x=>x
noncomputable def lstem (w:List Nat):List Nat:=lsub (llast (lfirst w) (lmid (lfirst w) (lbehind w 0) (lbehind w (lbehind w 0)) (lpron w (lfirst w))))
theorem slc_len {α:Type} (x:List α) (lo hi:Option Int):(slc x lo hi).length≤x.length:=by
  unfold slc;simp;(exact ar_xkrs)
theorem plaL_len {v x:List Nat} (h:plaL v=some x):x.length≤10:=by
  unfold plaL at h
  split at h
  · rename_i y q
    cases h
    obtain ⟨l,e,hl⟩:=pla_get q
    cases e;exact hl
  · cases h
theorem lpron_len (w:List Nat) (first:Int):(lpron w first).length≤w.length+10:=by
  unfold lpron
  dsimp only
  generalize lend w proL=p
  have hr:=lcut_len w p
  generalize lcut w p=r at hr ⊢
  generalize lend r befL=v
  have hh:=lcut_len r v
  generalize lcut r v=h at hh ⊢
  unfold lpron4
  cases decide (p=[]) with
  | true=>rw [cond_true];(exact ar_pl02)
  | false=>
  rw [cond_false]
  cases decide (v=[]) with
  | true=>rw [cond_true];(exact ar_pl02)
  | false=>
  rw [cond_false]
  cases decide ((h.length:Int) < first) with
  | true=>rw [cond_true];(exact ar_pl02)
  | false=>
  rw [cond_false]
  cases q:plaL v with
  | some x=>have:=plaL_len q;dsimp only;rw [List.length_append];(exact ar_okaz hr hh this)
  | none=>
    dsimp only
    cases decide (v=txYendo) with
    | false=>rw [cond_false];(exact ar_16ld hr)
    | true=>
      rw [cond_true]
      cases decide (slc h (some (-1)) none=txU) with
      | false=>rw [Bool.not_false,cond_true];(exact ar_pl02)
      | true=>rw [Bool.not_true,cond_false];(exact ar_16ld hr)
theorem lverb_len (w:List Nat) (first:Int):(lverb w first).length≤w.length:=by
  have hB:(lverbB w first).length≤w.length:=by
    unfold lverbB lverb2
    dsimp only
    generalize lend (w.drop first.toNat) vrbL=e
    have h:=lcut_len w e
    generalize lcut w e=h' at h ⊢
    cases gusL.contains e&&decide (slc h' (some (-2)) none=txGu) with
    | true=>rw [cond_true];have:=slc_len h' none (some (-1));(exact ar_9mf4 h this)
    | false=>rw [cond_false];(exact ar_g0lk h)
  unfold lverb
  dsimp only
  generalize lend (w.drop first.toNat) ysL=e
  have h:=lcut_len w e
  cases !decide (e=[])&&decide (slc (lcut w e) (some (-1)) none=txU) with
  | true=>rw [cond_true];(exact ar_g0lk h)
  | false=>rw [cond_false];exact hB
theorem lkind_len (kd two:Int) (h:List Nat):(lkind kd two h).length≤h.length+4:=by
  have L:∀ ss,(lless h ss two).length≤h.length+4:=fun ss=>by have:=lless_len h ss two;(exact ar_tb2v this)
  unfold lkind
  cases decide (kd=2) with
  | true=>rw [cond_true];exact L _
  | false=>
  rw [cond_false]
  cases decide (kd=3) with
  | true=>rw [cond_true,List.length_append];show _+3≤_;(exact ar_j2i4)
  | false=>
  rw [cond_false]
  cases decide (kd=4) with
  | true=>rw [cond_true,List.length_append];show _+1≤_;(exact ar_itef)
  | false=>
  rw [cond_false]
  cases decide (kd=5) with
  | true=>rw [cond_true,List.length_append];show _+4≤_;(exact ar_1wh9)
  | false=>
  rw [cond_false]
  cases decide (kd=6) with
  | true=>
    rw [cond_true]
    unfold lkind6
    have:=lless_len h s3L two
    generalize lend h s3L=m
    generalize lless h s3L two=l at this ⊢
    cases decide (m=iv2)&&!decide (l=h) with
    | true=>rw [cond_true];have:=lless_len l [at2] two;(exact ar_zr0x (by assumption) this)
    | false=>rw [cond_false];(exact ar_tb2v this)
  | false=>
  rw [cond_false]
  cases decide (kd=7) with
  | true=>rw [cond_true];exact L _
  | false=>
  rw [cond_false]
  cases decide (kd=8) with
  | true=>rw [cond_true];exact L _
  | false=>
  rw [cond_false]
  cases decide (kd=9) with
  | true=>rw [cond_true];exact L _
  | false=>rw [cond_false];(exact ar_7tkd)
theorem lnoun_len {w x:List Nat} {one two:Int} (h:lnoun w one two=some x):x.length≤w.length+4:=by
  unfold lnoun at h
  dsimp only at h
  generalize lend w nouL=e at h
  have hc:=lcut_len w e
  generalize lcut w e=c at h hc
  unfold lnoun2 at h
  cases q:decide (e=[]) with
  | true=>rw [q,cond_true] at h;cases h
  | false=>
    rw [q,cond_false] at h
    cases q2:(bif decide (e=txAm) then decide ((c.length:Int) < one) else decide ((c.length:Int) < two)) with
    | true=>rw [q2,cond_true] at h;cases h
    | false=>
      rw [q2,cond_false] at h
      cases h
      have:=lkind_len (nouK e) two c
      (exact ar_k8ss hc this)
theorem lmid_len (first one two:Int) (w:List Nat):(lmid first one two w).length≤w.length+4:=by
  unfold lmid
  cases q:lnoun w one two with
  | none=>have:=lverb_len w first;dsimp only;(exact ar_tb2v this)
  | some x=>exact lnoun_len q
theorem minL_nonneg {w:List Nat} {a:Int} (h:0≤a):0≤minL w a:=by unfold minL;split<;>(first | exact ar_fpix | exact h)
theorem lbehind_nonneg {w:List Nat} {a:Int} (h:0≤a):0≤lbehind w a:=by
  have h1:=skipV_ge false w a
  have h2:=skipV_ge true w (skipV false w a)
  exact minL_nonneg (by (exact ar_ss2r h h1 h2))
theorem lfirst_nonneg (w:List Nat):0≤lfirst w:=by
  have h1:=skipV_ge false w 2
  have h2:=skipV_ge true w 2
  unfold lfirst
  cases decide ((w.length:Int) < 2) with
  | true=>rw [cond_true];(exact ar_fpix)
  | false=>
    rw [cond_false]
    cases isAt false w 1 with
    | true=>rw [cond_true];exact minL_nonneg (by (exact ar_vy5k h1))
    | false=>
      rw [cond_false]
      cases isAt false w 0 with
      | true=>rw [cond_true];exact minL_nonneg (by decide)
      | false=>rw [cond_false];exact minL_nonneg (by (exact ar_vy5k h2))
noncomputable def stmP:SpP:=fun f args H k=>∃ w,f=1083∧args=[.str w]∧w.length≤2500∧k (.str (lstem w))
theorem body1083 {C:CT} (h1:Has endP C) (h2:Has cutP C) (h3:Has firP C) (h4:Has behP C) (h5:Has proP C) (h6:Has nouP C) (h7:Has verP C) {f:Addr} {args:List PV} {S:Option Fs} {g:Nat} {H:List AO} {k:PV→Prop} (hc:clean S H) (hp:stmP f args H k)
    (Q:QT) (hq:∀ v H',noRef v=true→H <+: H'→k v→Q v S g H'):BodyOKT T1 C 9 f args Q S g H:=by
  obtain ⟨w,rfl,rfl,hw,hk⟩:=hp
  rw [e1083]
  unfold lstem at hk
  have f0:=lfirst_nonneg w
  refine ⟨rfl,by decide,h3 _ _ _ _ _ _ ⟨hc,w,rfl,rfl,by (exact ar_cxje hw),?_⟩⟩
  generalize lfirst w=first at hk f0 ⊢
  have o0:=lbehind_nonneg (w:=w) (a:=0) (Int.le_refl _)
  refine h4 _ _ _ _ _ _ ⟨hc,w,0,rfl,rfl,by (exact ar_cxje hw),Int.le_refl _,?_⟩
  generalize lbehind w 0=one at hk o0 ⊢
  refine h4 _ _ _ _ _ _ ⟨hc,w,one,rfl,rfl,by (exact ar_cxje hw),o0,?_⟩
  generalize lbehind w one=two at hk ⊢
  have hp:=lpron_len w first
  refine h5 _ _ _ _ _ _ ⟨hc,w,first,rfl,rfl,by (exact ar_cxje hw),?_⟩
  generalize lpron w first=w1 at hk hp ⊢
  refine h6 _ _ _ _ _ _ ⟨hc,w1,one,two,rfl,rfl,by (exact ar_7k4b hw hp),?_⟩
  show K83 C Q 5 ⟨l83 (.str w1) first one two (optS (lnoun w1 one two)),S,g,H⟩
  have hm:=lmid_len first one two w1
  have next:∀ td,K83 C Q 6 ⟨l83 (.str (lmid first one two w1)) first one two td,S,g,H⟩:=by
    intro td
    generalize lmid first one two w1=w2 at hk hm ⊢
    rw [z1083c]
    unfold llast at hk
    dsimp only at hk
    have hl:=lend_len w2 lasL
    refine use_end h1 hc rfl (by (exact ar_buwp hw hp hm)) short_las ?_
    generalize lend w2 lasL=e at hk hl ⊢
    refine use_cut h2 hc (by (exact ar_buwp hw hp hm)) hl ?_
    have hh:=lcut_len w2 e
    generalize lcut w2 e=h at hk hh ⊢
    show K83 C Q 8 ⟨l83b (.str w2) first one two td (.str e) (.str h),S,g,H⟩
    rw [z1083d]
    have fin:∀ x H',x.length≤4000→H <+: H'→k (.str (lsub x))→K83 C Q 9 ⟨l83b (.str x) first one two td (.str e) (.str h),S,g,H'⟩:=by
      intro x H' hx hH hk
      rw [z1083e]
      refine rp_ok (by decide) hx (rp_ok (by decide) (by rw [List.length_map];exact hx) (rp_ok (by decide) (by rw [List.length_map,List.length_map];exact hx) (rp_ok (by decide) (by rw [List.length_map,List.length_map,List.length_map];exact hx)
        (rp_ok (by decide) (by rw [List.length_map,List.length_map,List.length_map,List.length_map];exact hx) ?_))))
      exact hq _ _ rfl hH hk
    cases q1:decide (e=[]) with
    | true=>rw [q1,Bool.not_true,Bool.false_and,cond_false] at hk;exact fin _ _ (by (exact ar_buwp hw hp hm)) (List.prefix_refl _) hk
    | false=>
      rw [q1,Bool.not_false,Bool.true_and] at hk
      refine ⟨by (exact ar_bm34 hw hp hm hh),?_⟩
      cases q2:decide (first≤(h.length:Int)) with
      | false=>rw [q2,cond_false] at hk;exact fin _ _ (by (exact ar_buwp hw hp hm)) (List.prefix_refl _) hk
      | true=>
        rw [q2,cond_true] at hk
        have P:=List.prefix_append H [AO.lst (aeL.map .str)]
        unfold llast2 at hk
        refine ⟨by decide,cmp_in ?_⟩
        cases q3:aeL.contains e with
        | false=>rw [q3,Bool.false_and,cond_false] at hk;exact fin _ _ (by (exact ar_bm34 hw hp hm hh)) P hk
        | true=>
          rw [q3,Bool.true_and] at hk
          refine ⟨by (exact ar_bm34 hw hp hm hh),?_⟩
          cases q4:decide (slc h (some (-2)) none=txGu) with
          | false=>rw [q4,Bool.false_and,cond_false] at hk;exact fin _ _ (by (exact ar_bm34 hw hp hm hh)) P hk
          | true=>
            rw [q4,Bool.true_and] at hk
            refine ⟨by (exact ar_bm34 hw hp hm hh),?_⟩
            cases q5:decide (first < (h.length:Int)) with
            | false=>rw [q5,cond_false] at hk;exact fin _ _ (by (exact ar_bm34 hw hp hm hh)) P hk
            | true=>rw [q5,cond_true] at hk;exact ⟨by (exact ar_bm34 hw hp hm hh),fin _ _ (by have:=slc_len h none (some (-1));(exact ar_3fj2 hw hp hm hh this)) P hk⟩
  unfold lmid at next
  cases q:lnoun w1 one two with
  | none=>
    rw [q] at next
    show K83 C Q 5 ⟨l83 (.str w1) first one two .none,S,g,H⟩
    rw [z1083a]
    exact h7 _ _ _ _ _ _ ⟨hc,w1,first,rfl,rfl,by (exact ar_7k4b hw hp),f0,next _⟩
  | some x=>
    rw [q] at next
    show K83 C Q 5 ⟨l83 (.str w1) first one two (.str x),S,g,H⟩
    rw [z1083b]
    exact next _
end Mine

open PySem PySem.W PyProof.Rows PySem.Calls
set_option maxRecDepth 100000
set_option Elab.async false
set_option backward.match.sparseCases false
namespace Mine
noncomputable def okC (w:List Nat):Bool:=w.all fun c=>decide (c < 0x110000)
noncomputable def okE (ss:List (List Nat)):Bool:=ss.all fun x=>Nat.ble x.length 20&&okC x
theorem okE_get {ss:List (List Nat)} (h:okE ss=true) {e:List Nat} (he:e∈ss):e.length≤20∧okC e=true:=by
  have:=List.all_eq_true.mp h e he
  rw [Bool.and_eq_true] at this
  exact ⟨Nat.le_of_ble_eq_true this.1,this.2⟩
theorem okC_app {a b:List Nat} (ha:okC a=true) (hb:okC b=true):okC (a++b)=true:=by unfold okC at *;rw [List.all_append,ha,hb];rfl
theorem ok_let:okE letL=true:=by decide +kernel
theorem ok_par:okE parL=true:=by decide +kernel
theorem let_len:letL.length=33:=by decide +kernel
theorem par_len:parL.length=26:=by decide +kernel
theorem menu_ok {H:List AO} {i j:Nat} {ss:List (List Nat)} {x:Int} {k:PV→Prop} (hi:H[i]?=some (.lst (ss.map .str))) (hj:H[j]?=some (.lst (ss.map .str))) (h0:0 < ss.length) (hl:ss.length≤3000) (hk:∀ e∈ss,k (.str e)) :
    pFnH .len [.loc j] H fun n=>pBin .Mod (.int x) n fun ix=>pItemH (.loc i) ix H k:=by
  show (match (H[j]?:Option AO) with | some (.lst p)=>p.length≤4000∧_ | _=>False:Prop)
  rw [hj]
  dsimp only
  rw [List.length_map]
  refine ⟨by (exact ar_1mx0 hl),?_⟩
  show 0 < ((ss.length:Nat):Int)∧pItemH (.loc i) (.int (x % (ss.length:Int))) H k
  refine ⟨by (exact ar_znwl h0),?_⟩
  have b0:0≤x % (ss.length:Int):=Int.emod_nonneg _ (by (exact ar_f9ot h0))
  have b1:x % (ss.length:Int) < (ss.length:Int):=Int.emod_lt_of_pos _ (by (exact ar_znwl h0))
  generalize x % (ss.length:Int)=z at b0 b1
  show (match (H[i]?:Option AO),(PV.int z) with | some (.lst p),.int z=>0≤z∧z < 4000∧(match p[z.toNat]? with | some x=>k x | none=>False) | _,_=>False:Prop)
  rw [hi]
  have hlt:z.toNat < ss.length:=by (exact ar_l2rk b0 b1)
  refine ⟨b0,by (exact ar_6mvh hl b1),?_⟩
  rw [List.getElem?_map,List.getElem?_eq_getElem hlt]
  exact hk _ (List.getElem_mem hlt)
theorem mid_get {H:List AO} {a b:AO}:(H++[a]++[b])[H.length]?=some a:=by
  rw [List.append_assoc,List.getElem?_append_right (Nat.le_refl _),Nat.sub_self];rfl
theorem last_get2 {H:List AO} {a b:AO}:(H++[a]++[b])[(H++[a]).length]?=some b:=last_get
theorem pre_get {H H':List AO} (h:H <+: H') {i:Nat} {ao:AO} (hi:H[i]?=some ao):H'[i]?=some ao:=by
  obtain ⟨J,rfl⟩:=h
  have:=(List.getElem?_eq_some_iff.mp hi).1
  rw [List.getElem?_append_left this];exact hi
noncomputable def wrdP:SpP:=fun f args H k=>∃ (i j:Nat) (ns:List Int) (es:List (List Nat)),f=1020∧args=[.loc i,.loc j]∧H[i]?=some (.lst (ns.map .int))∧H[j]?=some (.lst (es.map .str))∧ns.length≤4∧0 < es.length∧es.length≤3000∧okE es=true ∧
  ∀ w,w.length≤400→okC w=true→k (.str w)
section
variable {C:CT} {Q:QT} {S:Option Fs} {g:Nat} {i:Nat} {L:PV}
theorem loop_k (hL:HasL C) {k:Ot→St→Prop} {H0:List AO} {z fr:Int}:∀ (n:Nat) (a:Int) (w:List Nat) (o:O20) (H:List AO),0≤a→a+n≤5→H0 <+: H→w.length+20 * n≤3000→okC w=true→(o=.nf (.int z) (.int fr)∨∃ k0,o=.nfk (.int z) (.int fr) k0) →
    (∀ w' o' H',w'.length≤w.length+20 * n→okC w'=true→H0 <+: H'→k .next ⟨l20 i L w' o',S,g,H'⟩)→pFor (xc C 1020 37) "k" (whB f20) k (rangeL a 1 n) ⟨l20 i L w o,S,g,H⟩
  | 0,a,w,o,H,h0,h5,hp,hw,hc,ho,hk=>hk w o H (by (exact ar_a1xg)) hc hp
  | n+1,a,w,o,H,h0,h5,hp,hw,hc,ho,hk=>by
    show pSs (xc C 1020 37) (whB f20) _ ⟨put "k" (.int a) (l20 i L w o),S,g,H⟩
    rw [i20 ho]
    refine hL _ _ _ _ ?_
    have pw:(64:Int) ^ a.toNat < 1000000000∧0 < (64:Int) ^ a.toNat:=by
      have:a.toNat≤4:=by (exact ar_lepo h5)
      have h:a.toNat=0∨a.toNat=1∨a.toNat=2∨a.toNat=3∨a.toNat=4:=by (exact ar_1t2t this)
      rcases h with h | h | h | h | h<;>rw [h]<;>decide
    refine ⟨⟨by decide,by decide⟩,⟨h0,by (exact ar_v0h6 h5),by decide,by decide⟩,⟨pw.2,pw.1⟩,by decide,hL _ _ _ _ ?_⟩
    refine menu_ok mid_get last_get2 (by rw [let_len];decide) (by rw [let_len];decide) fun e he=>?_
    obtain ⟨e1,e2⟩:=okE_get ok_let he
    show w.length+e.length≤4000∧_
    refine ⟨by (exact ar_jwzu hw e1),?_⟩
    have hp':H0 <+: H++[AO.lst (letL.map .str)]++[AO.lst (letL.map .str)]:=(hp.trans (List.prefix_append _ _)).trans (List.prefix_append _ _)
    exact loop_k hL n (a+1) (w++e) (.nfk (.int z) (.int fr) (.int a)) _ (by (exact ar_khmm h0)) (by (exact ar_y3hk h5)) hp' (by rw [List.length_append];(exact ar_1udh hw e1)) (okC_app hc e2) (.inr ⟨_,rfl⟩) fun w' o' H' h1 h2 h3=>hk w' o' H' (by rw [List.length_append] at h1;(exact ar_p2vs e1 h1)) h2 h3
theorem o20_is (z f:PV) (o:O20):o20 z f o=.nf z f∨∃ k0,o20 z f o=.nfk z f k0:=by
  cases o with
  | no=>exact .inl rfl
  | nf _ _=>exact .inl rfl
  | nfk _ _ k=>exact .inr ⟨k,rfl⟩
theorem loop_w (hL:HasL C) (hP:HasP C) {j:Nat} {es:List (List Nat)} {its:List PV} {H0:List AO} (hi:H0[i]?=some (.lst its)) (hj:H0[j]?=some (.lst (es.map .str))) (h0:0 < es.length) (h1:es.length≤3000) (hes:okE es=true) :
    ∀ (ns:List Int) (w:List Nat) (o:O20) (H:List AO),H0 <+: H→w.length+100 * ns.length≤400→okC w=true→(∀ w' H',w'.length≤400→okC w'=true→H0 <+: H'→Q (.str w') S g H') →
    pForI (xc C 1020 39) "number" (whB (stm 1020 1)) (k20 C Q) (fun σ=>σ.H[i]?=some (.lst its)) (ns.map .int) ⟨l20 i (.loc j) w o,S,g,H⟩
  | [],w,o,H,hp,hw,hc,hq=>⟨pre_get hp hi,by rw [z20];exact hq w H (by (exact ar_7hh3 hw)) hc hp⟩
  | z::r,w,o,H,hp,hw,hc,hq=>by
    rw [List.length_cons] at hw
    have next:∀ w' o' H',w'.length≤w.length+100→okC w'=true→H0 <+: H'→pForI (xc C 1020 39) "number" (whB (stm 1020 1)) (k20 C Q) (fun σ=>σ.H[i]?=some (.lst its)) (r.map .int) ⟨l20 i (.loc j) w' o',S,g,H'⟩:=
      fun w' o' H' a b c=>loop_w hL hP hi hj h0 h1 hes r w' o' H' c (by (exact ar_fuu2 hw a)) b hq
    refine ⟨pre_get hp hi,?_⟩
    show pSs (xc C 1020 39) (whB (stm 1020 1)) _ ⟨put "number" (.int z) (l20 i (.loc j) w o),S,g,H⟩
    rw [b20o]
    refine ⟨⟨by decide,by decide⟩,by decide,?_⟩
    have ho:=o20_is (.int z) (.int (z / 3)) o
    have add:∀ (e:List Nat) (H':List AO) (o':O20),e.length≤20→okC e=true→H0 <+: H'→pBinH .Add (.str w) (.str e) (fun r' σ=>(fun q σ₂=>match q with | .next=>pForI (xc C 1020 39) "number" (whB (stm 1020 1)) (k20 C Q) (fun σ=>σ.H[i]?=some (.lst its)) (r.map .int) σ₂ | .cont=>pForI (xc C 1020 39) "number" (whB (stm 1020 1)) (k20 C Q) (fun σ=>σ.H[i]?=some (.lst its)) (r.map .int) σ₂ | .brk=>k20 C Q .next σ₂ | q=>k20 C Q q σ₂:Ot→St→Prop) .next { σ with l:=put "word" r' σ.l }) ⟨l20 i (.loc j) w o',S,g,H'⟩:=by
      intro e H' o' he hce hp'
      show w.length+e.length≤4000∧_
      refine ⟨by (exact ar_luk8 hw he),?_⟩
      have:=next (w++e) o' H' (by rw [List.length_append];(exact ar_4010 he)) (okC_app hc hce) hp'
      cases o'<;>exact this
    cases q0:decide (z % 3=0) with
    | true=>
      have b0:0≤z / 3 % 5:=Int.emod_nonneg _ (by decide)
      have b1:z / 3 % 5 < 5:=Int.emod_lt_of_pos _ (by decide)
      refine ⟨by decide,⟨by (exact ar_3nez),by (exact ar_x1nv)⟩,?_⟩
      have hN:rangeN 0 (z / 3 % 5) 1=(z / 3 % 5).toNat:=by unfold rangeN;rw [if_pos rfl];congr 1;(exact ar_hr72)
      rw [hN]
      refine loop_k (H0:=H0) (z:=z) (fr:=z / 3) hL _ 0 w _ H (by decide) (by (exact ar_9ha5)) hp (by (exact ar_e35p hw)) hc ho fun w' o' H' a b c=>?_
      exact next w' o' H' (by (exact ar_9f32 a)) b c
    | false=>
      refine ⟨by decide,?_⟩
      cases q1:decide (z % 3=1) with
      | true=>
        refine menu_ok (pre_get hp hj) (pre_get hp hj) h0 h1 fun e he=>?_
        obtain ⟨e1,e2⟩:=okE_get hes he
        exact add e H _ e1 e2 hp
      | false=>
        refine hP _ _ _ _ (hP _ _ _ _ ?_)
        refine menu_ok mid_get last_get2 (by rw [par_len];decide) (by rw [par_len];decide) fun e he=>?_
        obtain ⟨e1,e2⟩:=okE_get ok_par he
        exact add e _ _ e1 e2 ((hp.trans (List.prefix_append _ _)).trans (List.prefix_append _ _))
theorem body1020 (hL:HasL C) (hP:HasP C):BodyP C wrdP:=by
  intro f args S g H k hc hp Q hq
  obtain ⟨i,j,ns,es,rfl,rfl,hi,hj,hn,h0,h1,hes,hk⟩:=hp
  rw [e1020]
  refine ⟨rfl,?_⟩
  rw [hi]
  exact loop_w hL hP hi hj h0 h1 hes ns [] .no H (List.prefix_refl _) (by show 0+_≤_;(exact ar_l1l9 hn)) rfl fun w' H' a b c=>hq _ _ rfl c (hk w' a b)
end
end Mine

open PySem PySem.W PyProof.Rows PySem.Calls
set_option maxRecDepth 100000
set_option Elab.async false
set_option backward.match.sparseCases false
namespace Mine
noncomputable def A1:CT:=fun f args Q S g H=>leafC f args Q S g H∨pureC endP f args Q S g H∨pureC cutP f args Q S g H
noncomputable def A2:CT:=fun f args Q S g H=>A1 f args Q S g H∨pureC lessP f args Q S g H∨pureC behP f args Q S g H∨pureC firP f args Q S g H∨pureC proP f args Q S g H∨pureC verP f args Q S g H∨pureC wrdP f args Q S g H
noncomputable def A3:CT:=fun f args Q S g H=>A2 f args Q S g H∨pureC nouP f args Q S g H
theorem has1_end:Has endP A1:=fun _ _ _ _ _ _ h=>.inr (.inl h)
theorem has1_cut:Has cutP A1:=fun _ _ _ _ _ _ h=>.inr (.inr h)
theorem has1_V:HasV A1:=fun _ _ _ _ h=>.inl (.inl ⟨rfl,rfl,h⟩)
theorem has1_L:HasL A1:=fun _ _ _ _ h=>.inl (.inr (.inl ⟨rfl,rfl,h⟩))
theorem has1_P:HasP A1:=fun _ _ _ _ h=>.inl (.inr (.inr ⟨rfl,rfl,h⟩))
theorem has2_end:Has endP A2:=fun _ _ _ _ _ _ h=>.inl (has1_end _ _ _ _ _ _ h)
theorem has2_cut:Has cutP A2:=fun _ _ _ _ _ _ h=>.inl (has1_cut _ _ _ _ _ _ h)
theorem has2_less:Has lessP A2:=fun _ _ _ _ _ _ h=>.inr (.inl h)
theorem has3_end:Has endP A3:=fun _ _ _ _ _ _ h=>.inl (has2_end _ _ _ _ _ _ h)
theorem has3_cut:Has cutP A3:=fun _ _ _ _ _ _ h=>.inl (has2_cut _ _ _ _ _ _ h)
theorem has3_beh:Has behP A3:=fun _ _ _ _ _ _ h=>.inl (.inr (.inr (.inl h)))
theorem has3_fir:Has firP A3:=fun _ _ _ _ _ _ h=>.inl (.inr (.inr (.inr (.inl h))))
theorem has3_pro:Has proP A3:=fun _ _ _ _ _ _ h=>.inl (.inr (.inr (.inr (.inr (.inl h)))))
theorem has3_ver:Has verP A3:=fun _ _ _ _ _ _ h=>.inl (.inr (.inr (.inr (.inr (.inr (.inl h))))))
theorem has3_nou:Has nouP A3:=fun _ _ _ _ _ _ h=>.inr h
section
variable {prog:Program} {w:World} {K:Frag} {mg mb:Str→Option Value} {Gs:Array GenState} {Os:OsState}
theorem call_A1:CallOK prog w K mg mb T1 Gs Os 1 A1:=
  or_ok (lift call_bot fun _ _ _ _ _ _ h=>.inr (leaf_body h)) (or_ok (pure_ok call_bot body27) (pure_ok call_bot body1034))
theorem call_wrd:CallOK prog w K mg mb T1 Gs Os 2 (pureC wrdP):=pure_ok call_A1 (body1020 has1_L has1_P)
theorem call_A2:CallOK prog w K mg mb T1 Gs Os 2 A2:=
  or_ok (call_A1.up (by decide)) (or_ok (pure_ok call_A1 (body1041 has1_end has1_cut)) (or_ok (pure_ok call_A1 (body1048 has1_V)) (or_ok (pure_ok call_A1 (body1055 has1_V)) (or_ok (pure_ok call_A1 (body1062 has1_end has1_cut))
    (or_ok (pure_ok call_A1 (body1076 has1_end has1_cut)) call_wrd)))))
theorem call_A3:CallOK prog w K mg mb T1 Gs Os 3 A3:=or_ok (call_A2.up (by decide)) (pure_ok call_A2 (body1069 has2_end has2_cut has2_less))
noncomputable def bodyT (C:CT):CT:=fun f args Q S g H=>BodyOKT T1 C 9 f args Q S g H
theorem call_stm:CallOK prog w K mg mb T1 Gs Os 4 (pureC stmP):=
  (gc_ok (liftT (C':=bodyT A3) 9 call_A3 fun _ _ _ _ _ _ h=>h)).mono fun f args Q S g H h=>by
    obtain ⟨hc,hp⟩:=h
    refine body1083 has3_end has3_cut has3_fir has3_beh has3_pro has3_nou has3_ver hc hp _ fun v H' hv hpre hk=>?_
    rw [take_pre hpre]
    exact ⟨plain_old hv _,hc.1,hc.2,hk⟩
end
section
variable {C:CT} {Q:QT} {S:Option Fs} {g:Nat} {h0 h1:AO}
noncomputable def sL (ss:List (List Nat)):List PV:=ss.map .str
noncomputable def nouS:List PV:=nouD.map fun p=>.str p.1
noncomputable def en1:List PV:=sL proL++sL befL
noncomputable def en2:List PV:=en1++nouS
noncomputable def en3:List PV:=en2++sL ysL
noncomputable def en4:List PV:=en3++sL vrbL
noncomputable def en5:List PV:=en4++sL lasL
theorem e1013:BodyOK T1 C 1013 [] Q S g [h0,h1]=((0:Nat)=0∧(sL proL).length+(sL befL).length≤4000∧en1.length+nouS.length≤4000∧en2.length+(sL ysL).length≤4000∧en3.length+(sL vrbL).length≤4000∧en4.length+(sL lasL).length≤4000 ∧
    Q (.loc 7) S g [h0,h1,.lst en1,.lst nouS,.lst en2,.lst en3,.lst en4,.lst en5]):=by kernel_rfl
end
end Mine

open PySem PySem.W PyProof.Rows PySem.Calls
set_option maxRecDepth 100000
set_option Elab.async false
set_option backward.match.sparseCases false
namespace Mine
noncomputable def nF:Fn:=⟨[],⟨.function,[],false,false,[]⟩,[]⟩
noncomputable def stAt (F:Fn) (i:Nat):Stmt:=(F.body[i]?).getD (.Pass ⟨0,0,0,0⟩)
noncomputable def exOf:Stmt→PySem.Expr
  | .Assign _ e _=>e
  | .Return (some e) _=>e
  | .If t _ _ _=>t
  | _=>.Name "" ⟨0,0,0,0⟩
noncomputable def leftOf:PySem.Expr→PySem.Expr
  | .BinOp l _ _ _=>l
  | .Compare l _ _ _=>l
  | e=>e
noncomputable def compE:PySem.Expr→PySem.Expr
  | .ListComp e _ _ _=>e
  | e=>e
noncomputable def compS:PySem.Expr→Scope
  | .ListComp _ _ s _=>s
  | _=>nF.scope
noncomputable def boolL:PySem.Expr→List PySem.Expr
  | .BoolOp _ l _=>l
  | _=>[]
noncomputable def F94:Fn:=(cfn1 194).getD nF
noncomputable def F88:Fn:=(cfn1 1088).getD nF
noncomputable def X88 (C:CT):Px:=px T1 C F88.scope 40
noncomputable def st (l:Fs) (S:Option Fs) (g:Nat) (H:List AO):St:=⟨l,S,g,H⟩
noncomputable def K94 (C:CT) (x:Px) (m:Str) (args:List PySem.Expr) (k:PV→St→Prop) (ov:PV) (σ₁:St):Prop:=match ov with
    | .self g=>(match Nat.beq g σ₁.g,σ₁.S,T1.meth m with
      | true,some fs,some f=>(match fs.lookup m with
        | none=>pFnCall T1 C x f [ov] args k σ₁
        | some _=>False)
      | _,_,_=>False)
    | .str l=>(match strMeth m with
      | some i=>pEs x args (fun vs σ₂=>pStrM i l vs fun r=>k r σ₂) σ₁
      | none=>False)
    | _=>False
noncomputable def argsE:PySem.Expr→List PySem.Expr
  | .Call _ a _ _=>a
  | _=>[]
noncomputable def E94:PySem.Expr:=exOf (stAt F94 0)
section
variable {C:CT} {Q:QT} {k:PV→St→Prop} {S:Option Fs} {g:Nat} {H:List AO} {n j:Nat} {v:PV} {x:List Nat} {r:R9}
noncomputable def el94 (C:CT):EK:=(pxA T1 C 38 (relabS F94.scope (compS E94))).E (compE E94)
noncomputable def l94 (j:Nat) (o:Option PV):Fs:=("self",.loc j)::(match o with | none=>[] | some v=>[("word",v)])
theorem e94a:BodyOKC T1 C 194 [.self 1,.loc n] Q S 1 H=((2:Nat)=2∧(match ((H++[.cell (some (.self 1))])[n]?:Option AO) with
    | some (.lst ps)=>ps.length≤3000∧pLC (pxA T1 C 38 (relabS F94.scope (compS E94))).E (compE E94) "word" (fun σ=>σ.H[n]?=some (.lst ps)) (fun acc σ₂=>Q (.loc σ₂.H.length) σ₂.S σ₂.g (σ₂.H++[.lst acc])) ps [] (st (l94 H.length none) S 1 (H++[.cell (some (.self 1))]))
    | _=>False)):=by kernel_rfl
theorem e94b:el94 C k (st (l94 j (some v)) S g H)=(match (H[j]?:Option AO) with
    | some (.cell (some ov))=>K94 C (pxA T1 C 37 (relabS F94.scope (compS E94))) "stemWord" (argsE (compE E94)) k ov (st (l94 j (some v)) S g H)
    | _=>False):=by kernel_rfl
theorem e94n:K94 C (pxA T1 C 37 (relabS F94.scope (compS E94))) "stemWord" (argsE (compE E94)) k (.self 1) (st (l94 j (some v)) (some (new6 x)) 1 H)=C 189 [.self 1,v] (fun u S g H=>k u (st (l94 j (some v)) S g H)) (some (new6 x)) 1 H:=by kernel_rfl
theorem e94u:K94 C (pxA T1 C 37 (relabS F94.scope (compS E94))) "stemWord" (argsE (compE E94)) k (.self 1) (st (l94 j (some v)) (some (fsR r)) 1 H)=C 189 [.self 1,v] (fun u S g H=>k u (st (l94 j (some v)) S g H)) (some (fsR r)) 1 H:=by kernel_rfl
end
section
variable {C:CT} {Q:QT} {k:PV→St→Prop} {K:Ot→St→Prop} {S:Option Fs} {g:Nat} {H rest:List AO} {n d:Nat} {v:PV} {xs:List Int} {r:R9} {z:Int}
noncomputable def la:Fs:=[("script",.loc 0),("ends",.loc 1),("stemmer",.self 1)]
noncomputable def lb (n:Nat):Fs:=la++([("words",.loc n)]:Fs)
noncomputable def lc (n d:Nat):Fs:=la++([("words",.loc n),("due",.loc d)]:Fs)
theorem e88a:BodyOKC T1 C 1088 [.ints xs] Q none 0 []=((1:Nat)=1∧C 35 [.self 1] (fun v S g H=>match v with
    | .none=>C 1013 [] (fun v S g H=>match (H[1]?:Option AO) with
      | some (.cell _)=>pSs (X88 C) (F88.body.drop 2) (bodyK Q) (st la S g (H.set 1 (.cell (some v))))
      | _=>False) S g H
    | _=>False) (some []) 1 [.cell (some (.ints xs)),.cell none]):=by kernel_rfl
noncomputable def E2:PySem.Expr:=leftOf (exOf (stAt F88 2))
noncomputable def nItems (xs:List Int):Nat:=(((if (8:Int) < xs.length then (8:Int) else (xs.length:Int)) - 0+3) / 4).toNat
theorem e88b:pSs (X88 C) (F88.body.drop 2) (bodyK Q) (st la S g (.cell (some (.ints xs))::.cell (some (.loc 7))::rest))=(xs.length≤4000∧(4:Int)=4 ∧
    (-4000≤(0:Int)∧(0:Int)≤4000∧-4000≤(if (8:Int) < xs.length then (8:Int) else (xs.length:Int))∧(if (8:Int) < xs.length then (8:Int) else (xs.length:Int))≤4000)∧(rangeL 0 4 (nItems xs)).length≤3000 ∧
    pLC (pxA T1 C 37 (relabS F88.scope (compS E2))).E (compE E2) "k" (fun _=>True) (fun acc σ₂=>1≤3000∧pBinH .Add (.loc σ₂.H.length) (.loc (σ₂.H++[AO.lst acc]).length) (fun v σ=>pSs (X88 C) (F88.body.drop 3) (bodyK Q) { σ with l:=put "words" v σ.l })
      (st la σ₂.S σ₂.g (σ₂.H++[.lst acc]++[.lst [.str []]]))) (rangeL 0 4 (nItems xs)) [] (st (compL (compS E2) la) S g (.cell (some (.ints xs))::.cell (some (.loc 7))::rest))):=by kernel_rfl
theorem cl2:compL (compS E2) la=([("ends",.loc 1),("script",.loc 0)]:Fs):=by kernel_rfl
noncomputable def l2s (o:Option Int):Fs:=("ends",.loc 1)::("script",.loc 0)::(match o with | none=>[] | some z=>[("k",.int z)])
theorem e88c:(pxA T1 C 37 (relabS F88.scope (compS E2))).E (compE E2) k (st (l2s (some z)) S g (.cell (some (.ints xs))::.cell (some (.loc 7))::rest)) =
    (xs.length≤4000∧C 1020 [.loc (AO.cell (some (.ints xs))::AO.cell (some (.loc 7))::rest).length,.loc 7] (fun u S g H=>k u (st (l2s (some z)) S g H)) S g
      ((.cell (some (.ints xs))::.cell (some (.loc 7))::rest)++[.lst ((slc xs (some z) (some (z+4))).map .int)])):=by kernel_rfl
noncomputable def E3:PySem.Expr:=exOf (stAt F88 3)
theorem cl3 {n:Nat}:compL (compS E3) (lb n)=([]:Fs):=by kernel_rfl
theorem e88d:pSs (X88 C) (F88.body.drop 3) (bodyK Q) (st (lb n) S g H)=(match (H[n]?:Option AO) with
    | some (.lst ps)=>ps.length≤3000∧pLC (pxA T1 C 39 (relabS F88.scope (compS E3))).E (compE E3) "word" (fun σ=>σ.H[n]?=some (.lst ps)) (fun acc σ₂=>pSs (X88 C) (F88.body.drop 4) (bodyK Q) (st (lc n σ₂.H.length) σ₂.S σ₂.g (σ₂.H++[.lst acc])))
        ps [] (st (compL (compS E3) (lb n)) S g H)
    | _=>False):=by kernel_rfl
theorem e88e:(pxA T1 C 39 (relabS F88.scope (compS E3))).E (compE E3) k (st [("word",v)] S g H)=C 1083 [v] (fun u S g H=>k u (st [("word",v)] S g H)) S g H:=by kernel_rfl
theorem e88f {x:List Nat}:pSs (X88 C) (F88.body.drop 4) (bodyK Q) (st (lc n d) (some (new6 x)) 1 H)=C 194 [.self 1,.loc n] (fun v S g H=>pCmpH .NotEq v (.loc d) H fun c=>match c with
    | true=>Q (.bool false) S g H
    | false=>pSs (X88 C) (F88.body.drop 5) (bodyK Q) (st (lc n d) S g H)) (some (new6 x)) 1 H:=by kernel_rfl
noncomputable def B5:List Stmt:=whB (stAt F88 5)
noncomputable def Ke (C:CT) (Q:QT):Ot→St→Prop:=afterK (X88 C) (F88.body.drop 6) (bodyK Q)
theorem e88g:pSs (X88 C) (F88.body.drop 5) (bodyK Q) (st (lc n d) S g H)=pFnH .len [.loc n] H fun b=>sForR (pxA T1 C 39 F88.scope) "k" [b] B5 (Ke C Q) (st (lc n d) S g H):=by kernel_rfl
noncomputable def lz (n d:Nat) (o:Option (Int × PV)):Fs:=("script",.loc 0)::("ends",.loc 1)::("stemmer",.self 1)::("words",.loc n)::("due",.loc d)::(match o with | none=>[] | some (z,a)=>[("k",.int z),("at",a)])
noncomputable def t5 (C:CT) (K:Ot→St→Prop) (σ:St):Prop:=pAll (pxA T1 C 37 F88.scope) .Or ((boolL (exOf (B5.getD 1 (.Pass default)))).drop 1) (fun b σ=>match b with | true=>K (.ret (.bool false)) σ | false=>K .next σ) σ
theorem e88h {o:Option (Int × PV)}:pSs (pxA T1 C 39 F88.scope) B5 K (st (put "k" (.int z) (lz n d o)) (some (fsR r)) 1 H)=pFnH .len [.loc n] H fun b=>pBin .Sub b (.int 1) fun c=>pBin .Sub c (.int z) fun a=>pItemH (.loc n) a H fun w=>
    C 189 [.self 1,w] (fun v S g H=>pItemH (.loc d) a H fun x=>pCmpH .NotEq v x H fun c=>match c with
      | true=>K (.ret (.bool false)) (st (lz n d (some (z,a))) S g H)
      | false=>t5 C K (st (lz n d (some (z,a))) S g H)) (some (fsR r)) 1 H:=by rcases o with _ | ⟨_,_⟩<;>kernel_rfl
theorem e88i {a:PV}:t5 C K (st (lz n d (some (z,a))) (some (fsR r)) 1 H)=C 49 [.self 1] (fun v S g H=>pItemH (.loc d) a H fun x=>pCmpH .NotEq v x H fun c=>match c with
      | true=>K (.ret (.bool false)) (st (lz n d (some (z,a))) S g H)
      | false=>K .next (st (lz n d (some (z,a))) S g H)) (some (fsR r)) 1 H:=by kernel_rfl
noncomputable def kl (Q:QT) (d:Nat):PV→St→Prop:=fun u σ=>pItemH (.loc d) (.int 0) σ.H fun b=>pCmpH .Eq u b σ.H fun c=>Q (.bool c) σ.S σ.g σ.H
theorem e88k {a:PV}:pSs (X88 C) (F88.body.drop 6) (bodyK Q) (st (lz n d (some (z,a))) S 1 H)=C 35 [.self 2] (fun v S g H=>match v with
    | .none=>K94 C (pxA T1 C 37 F88.scope) "stemWord" (argsE (leftOf (exOf (stAt F88 6)))) (kl Q d) (.self 2) (st (lz n d (some (z,a))) S g H)
    | _=>False) (some []) 2 H:=by kernel_rfl
theorem e88l {a:PV}:K94 C (pxA T1 C 37 F88.scope) "stemWord" (argsE (leftOf (exOf (stAt F88 6)))) (kl Q d) (.self 2) (st (lz n d (some (z,a))) (some (new6 [])) 2 H)=pItemH (.loc n) (.int 0) H fun w=>
    C 189 [.self 2,w] (fun u S g H=>kl Q d u (st (lz n d (some (z,a))) S g H)) (some (new6 [])) 2 H:=by kernel_rfl
end
end Mine

open PySem PySem.W PyProof.Rows PySem.Calls
set_option maxRecDepth 100000
set_option Elab.async false
set_option backward.match.sparseCases false
namespace Mine
noncomputable def endsC:CT:=fun f args Q S g H=>∃ h0 h1,f=1013∧args=[]∧H=[h0,h1]∧Q (.loc 7) S g [h0,h1,.lst en1,.lst nouS,.lst en2,.lst en3,.lst en4,.lst en5]
theorem en_lens:(Nat.ble ((sL proL).length+(sL befL).length) 4000&&(Nat.ble (en1.length+nouS.length) 4000&&(Nat.ble (en2.length+(sL ysL).length) 4000&&(Nat.ble (en3.length+(sL vrbL).length) 4000&&Nat.ble (en4.length+(sL lasL).length) 4000))))=true:=by decide +kernel
noncomputable def wordsC:CT:=fun f args Q S g H=>∃ (n:Nat) (ws:List (List Nat)),f=194∧args=[.self 1,.loc n]∧S=some (new6 [])∧g=1∧H[n]?=some (.lst (sL ws))∧0 < ws.length∧ws.length≤3000∧short 2000 ws ∧
  ∀ r',Q (.loc (H.length+1)) (some (fsR r')) 1 (H++[.cell (some (.self 1))]++[.lst (sL (ws.map stemP))])
theorem both_new {x:List Nat} {Q:QT} {g:Nat} {H:List AO} {w:List Nat} (hg:g=1∨g=2) (hl:w.length≤2000) (h:∀ r',r'.w=stemP w→Q (.str (stemP w)) (some (fsR r')) g H):both sp6 s6 189 [.self g,.str w] Q (some (new6 x)) g H:=by
  rcases hg with rfl | rfl
  · show six s6 189 [.self 1,.str w] Q (some (new6 x)) 1 H
    exact ⟨hl,h⟩
  · show six s6 189 [.self 2,.str w] Q (some (new6 x)) 2 H
    exact ⟨hl,h⟩
theorem both_used {r:R9} {Q:QT} {H:List AO} {w:List Nat} (hl:w.length≤2000) (h:∀ r',r'.w=stemP w→Q (.str (stemP w)) (some (fsR r')) 1 H):both sp6 s6 189 [.self 1,.str w] Q (some (fsR r)) 1 H:=by
  show spC sp6 189 [.self 1,.str w] Q (some (fsR r)) 1 H
  exact ⟨hl,h⟩
theorem both_get {r:R9} {Q:QT} {H:List AO} (h:Q (.str r.w) (some (fsR r)) 1 H):both sp6 s6 49 [.self 1] Q (some (fsR r)) 1 H:=by
  show spC sp6 49 [.self 1] Q (some (fsR r)) 1 H
  exact h
theorem sL_cons (w:List Nat) (r:List (List Nat)):sL (w::r)=.str w::sL r:=rfl
theorem sL_snoc (acc:List (List Nat)) (w:List Nat):sL acc++[.str w]=sL (acc++[w]):=by unfold sL;rw [List.map_append];rfl
theorem put_word {v:PV} {j:Nat} {o:Option PV}:put "word" v (l94 j o)=l94 j (some v):=by cases o<;>rfl
section
variable {Q:QT} {H:List AO} {n j:Nat} {its:List PV}
theorem words_used (hn:H[n]?=some (.lst its)) (hj:H[j]?=some (.cell (some (.self 1)))) {k:List PV→St→Prop}:∀ (ws acc:List (List Nat)) (o:Option PV) (r:R9),short 2000 ws →
    (∀ o' r',k (sL (acc++ws.map stemP)) (st (l94 j o') (some (fsR r')) 1 H)) →
    pLC (pxA T1 (both sp6 s6) 38 (relabS F94.scope (compS E94))).E (compE E94) "word" (fun σ=>σ.H[n]?=some (.lst its)) k (sL ws) (sL acc) (st (l94 j o) (some (fsR r)) 1 H)
  | [],acc,o,r,_,hk=>⟨hn,by have:=hk o r;simpa using this⟩
  | w::ws,acc,o,r,hs,hk=>by
    rw [sL_cons]
    refine ⟨hn,?_⟩
    show el94 (both sp6 s6) _ (st (put "word" (.str w) (l94 j o)) (some (fsR r)) 1 H)
    rw [put_word,e94b,hj]
    dsimp only
    rw [e94u]
    refine both_used (hs w (.head _)) fun r' _=>?_
    rw [sL_snoc]
    exact words_used hn hj ws (acc++[stemP w]) _ r' (fun s h=>hs s (.tail _ h)) fun o' r2=>by
      have:=hk o' r2
      rw [List.map_cons] at this
      rw [List.append_assoc]
      exact this
end
section
variable {prog:Program} {w:World} {K:Frag} {mg mb:Str→Option Value} {Gs:Array GenState} {Os:OsState}
theorem call_ends:CallOK prog w K mg mb T1 Gs Os 1 endsC:=lift call_bot fun f args Q S g H h=>by
  obtain ⟨h0,h1,rfl,rfl,rfl,hq⟩:=h
  refine .inr ?_
  rw [e1013]
  have:=en_lens
  simp only [Bool.and_eq_true] at this
  obtain ⟨a,b,c,d,e⟩:=this
  exact ⟨rfl,Nat.le_of_ble_eq_true a,Nat.le_of_ble_eq_true b,Nat.le_of_ble_eq_true c,Nat.le_of_ble_eq_true d,Nat.le_of_ble_eq_true e,hq⟩
theorem call_words:CallOK prog w K mg mb T1 Gs Os 7 wordsC:=liftC call6b fun f args Q S g H h=>by
  obtain ⟨n,ws,rfl,rfl,rfl,rfl,hn,h0,h1,hs,hq⟩:=h
  refine .inr ?_
  rw [e94a]
  have hn':(H++[AO.cell (some (.self 1))])[n]?=some (.lst (sL ws)):=pre_get (List.prefix_append _ _) hn
  have hj:(H++[AO.cell (some (.self 1))])[H.length]?=some (.cell (some (.self 1))):=last_get
  refine ⟨rfl,?_⟩
  rw [hn']
  refine ⟨by unfold sL;rw [List.length_map];exact h1,?_⟩
  cases ws with
  | nil=>exact absurd h0 (Nat.lt_irrefl _)
  | cons w ws=>
    rw [sL_cons]
    refine ⟨by rw [sL_cons] at hn';exact hn',?_⟩
    show el94 (both sp6 s6) _ (st (put "word" (.str w) (l94 H.length none)) (some (new6 [])) 1 (H++[AO.cell (some (.self 1))]))
    rw [put_word,e94b,hj]
    dsimp only
    rw [e94n]
    refine both_new (.inl rfl) (hs w (.head _)) fun r' _=>?_
    show pLC _ _ _ _ _ (sL ws) (sL [stemP w]) _
    refine words_used (by rw [sL_cons] at hn';exact hn') hj ws [stemP w] _ r' (fun s h=>hs s (.tail _ h)) fun o' r2=>?_
    have:=hq r2
    show Q (.loc (H++[AO.cell (some (.self 1))]).length) _ _ _
    rw [List.length_append]
    exact this
end
end Mine

open PySem PySem.W PyProof.Rows PySem.Calls
set_option maxRecDepth 100000
set_option Elab.async false
set_option backward.match.sparseCases false
namespace Mine
noncomputable def allC:CT:=fun f args Q S g H=>endsC f args Q S g H∨pureC wrdP f args Q S g H∨pureC stmP f args Q S g H∨nul35 f args Q S g H∨wordsC f args Q S g H∨both sp6 s6 f args Q S g H
structure PlainLaw:Prop where
  eq:∀ w:List Nat,w.length≤2000→stemP w=lstem w
  ok:∀ w:List Nat,okC w=true→okC (lstem w)=true
noncomputable def lawC:CT:=fun f args Q S g H=>∃ xs:List Int,f=1088∧args=[.ints xs]∧S=none∧g=0∧H=[]∧xs.length≤63∧∀ S' g' H',Q (.bool true) S' g' H'
theorem new_old (n:Nat):oldS n (some (new6 [])):=by
  intro l e p hp
  cases e
  unfold new6 fs6R at hp
  simp only [List.mem_cons,List.not_mem_nil,or_false] at hp
  rcases hp with rfl | rfl | rfl | rfl | rfl | rfl<;>exact trivial
theorem oldO_ints (n:Nat) (ns:List Int):oldO n (.lst (ns.map .int)):=by
  intro p hp
  obtain ⟨x,_,rfl⟩:=List.mem_map.mp hp
  exact trivial
theorem clean.snoc {S:Option Fs} {H:List AO} {ao:AO} (h:clean S H) (ho:∀ n,oldO n ao):clean S (H++[ao]):=h.app fun a ha=>by
  rw [List.mem_singleton] at ha
  subst ha
  exact ho _
theorem en5_is:en5=sL endsL:=by
  have e:nouS=sL nouL:=by unfold nouS nouL sL;rw [List.map_map];rfl
  unfold en5 en4 en3 en2 en1 endsL
  rw [e]
  unfold sL
  simp only [List.map_append]
theorem ok_ends:okE endsL=true:=by decide +kernel
theorem ends_len:endsL.length=188:=by decide +kernel
noncomputable def base8 (xs:List Int):List AO:=[.cell (some (.ints xs)),.cell (some (.loc 7)),.lst en1,.lst nouS,.lst en2,.lst en3,.lst en4,.lst en5]
noncomputable def rest6:List AO:=[.lst en1,.lst nouS,.lst en2,.lst en3,.lst en4,.lst en5]
theorem base8_is (xs:List Int):base8 xs=.cell (some (.ints xs))::.cell (some (.loc 7))::rest6:=rfl
theorem sL_old (n:Nat) (ss:List (List Nat)):oldO n (.lst (sL ss)):=oldO_strs n ss
theorem clean8 (xs:List Int):clean (some (new6 [])) (base8 xs):=by
  have e1:en1=sL (proL++befL):=by unfold en1 sL;rw [List.map_append]
  have e0:nouS=sL nouL:=by unfold nouS nouL sL;rw [List.map_map];rfl
  have e2:en2=sL (proL++befL++nouL):=by unfold en2;rw [e1,e0];unfold sL;simp only [List.map_append]
  have e3:en3=sL (proL++befL++nouL++ysL):=by unfold en3;rw [e2];unfold sL;simp only [List.map_append]
  have e4:en4=sL (proL++befL++nouL++ysL++vrbL):=by unfold en4;rw [e3];unfold sL;simp only [List.map_append]
  refine ⟨new_old _,fun ao ha=>?_⟩
  unfold base8 at ha
  simp only [List.mem_cons,List.not_mem_nil,or_false] at ha
  rcases ha with rfl | rfl | rfl | rfl | rfl | rfl | rfl | rfl
  · exact trivial
  · show 7 < 8;decide
  · rw [e1];exact sL_old _ _
  · rw [e0];exact sL_old _ _
  · rw [e2];exact sL_old _ _
  · rw [e3];exact sL_old _ _
  · rw [e4];exact sL_old _ _
  · rw [en5_is];exact sL_old _ _
noncomputable def okW (w:List Nat):Prop:=w.length≤400∧okC w=true
theorem slc4_len (xs:List Int) (a:Int) (h:0≤a):(slc xs (some a) (some (a+4))).length≤4:=by
  unfold slc clip
  dsimp only
  rw [if_neg (by (exact ar_kilx h)),if_neg (by (exact ar_wkk8 h)),List.length_drop,List.length_take]
  (exact ar_a64b)
theorem put_k {z:Int} {o:Option Int}:put "k" (.int z) (l2s o)=l2s (some z):=by cases o<;>rfl
theorem words_loop {xs:List Int} (hx:xs.length≤4000) {K:List PV→St→Prop}:∀ (m:Nat) (a:Int) (acc:List (List Nat)) (o:Option Int) (H:List AO),0≤a→base8 xs <+: H→clean (some (new6 [])) H→(∀ w∈acc,okW w) →
    (∀ acc' o' H',base8 xs <+: H'→clean (some (new6 [])) H'→(∀ w∈acc',okW w)→acc'.length=acc.length+m→K (sL acc') (st (l2s o') (some (new6 [])) 1 H')) →
    pLC (pxA T1 allC 37 (relabS F88.scope (compS E2))).E (compE E2) "k" (fun _=>True) K (rangeL a 4 m) (sL acc) (st (l2s o) (some (new6 [])) 1 H)
  | 0,a,acc,o,H,_,hp,hc,hw,hk=>⟨trivial,hk acc o H hp hc hw rfl⟩
  | m+1,a,acc,o,H,h0,hp,hc,hw,hk=>by
    refine ⟨trivial,?_⟩
    obtain ⟨J,rfl⟩:=hp
    show (pxA T1 allC 37 (relabS F88.scope (compS E2))).E (compE E2) _ (st (put "k" (.int a) (l2s o)) (some (new6 [])) 1 (.cell (some (.ints xs))::.cell (some (.loc 7))::(rest6++J)))
    rw [put_k,e88c]
    refine ⟨hx,?_⟩
    show allC 1020 [.loc (base8 xs++J).length,.loc 7] _ (some (new6 [])) 1 ((base8 xs++J)++[.lst ((slc xs (some a) (some (a+4))).map .int)])
    have hp':base8 xs <+: (base8 xs++J)++[.lst ((slc xs (some a) (some (a+4))).map .int)]:=(List.prefix_append _ _).trans (List.prefix_append _ _)
    have hc':clean (some (new6 [])) ((base8 xs++J)++[.lst ((slc xs (some a) (some (a+4))).map .int)]):=hc.snoc fun n=>oldO_ints n _
    generalize hS:slc xs (some a) (some (a+4))=sl at hp' hc' ⊢
    have hsl:sl.length≤4:=by rw [← hS];exact slc4_len xs a h0
    refine .inr (.inl ⟨hc',_,7,sl,endsL,rfl,rfl,last_get,?_,hsl,by rw [ends_len];decide,by rw [ends_len];decide,ok_ends,fun w hl hok=>?_⟩)
    · refine pre_get hp' ?_
      show some (AO.lst en5)=_
      rw [en5_is];rfl
    · dsimp only
      rw [sL_snoc]
      refine words_loop hx m (a+4) (acc++[w]) _ _ (by (exact ar_5p3n h0)) hp' hc' (fun v hv=>?_) fun acc' o' H' a1 a2 a3 a4=>hk acc' o' H' a1 a2 a3 (by rw [a4,List.length_append];show acc.length+1+m=_;(exact ar_xh1x))
      rcases List.mem_append.mp hv with hv | hv
      · exact hw v hv
      · rw [List.mem_singleton] at hv;subst hv;exact ⟨hl,hok⟩
theorem due_loop {n:Nat} {its:List PV} {H:List AO} (hn:H[n]?=some (.lst its)) (hc:clean (some (new6 [])) H) {K:List PV→St→Prop}:∀ (ws acc:List (List Nat)) (l:Fs),(l=[]∨∃ v,l=([("word",v)]:Fs))→(∀ w∈ws,okW w) →
    (∀ l',K (sL (acc++ws.map lstem)) (st l' (some (new6 [])) 1 H)) →
    pLC (pxA T1 allC 39 (relabS F88.scope (compS E3))).E (compE E3) "word" (fun σ=>σ.H[n]?=some (.lst its)) K (sL ws) (sL acc) (st l (some (new6 [])) 1 H)
  | [],acc,l,_,_,hk=>⟨hn,by have:=hk l;simpa using this⟩
  | w::ws,acc,l,hl,hw,hk=>by
    rw [sL_cons]
    refine ⟨hn,?_⟩
    have hp:put "word" (.str w) l=([("word",.str w)]:Fs):=by rcases hl with rfl | ⟨u,rfl⟩<;>rfl
    show (pxA T1 allC 39 (relabS F88.scope (compS E3))).E (compE E3) _ (st (put "word" (.str w) l) (some (new6 [])) 1 H)
    rw [hp,e88e]
    refine .inr (.inr (.inl ⟨hc,w,rfl,rfl,by have:=(hw w (.head _)).1;(exact ar_z4uc this),?_⟩))
    dsimp only
    rw [sL_snoc]
    refine due_loop hn hc ws (acc++[lstem w]) _ (.inr ⟨_,rfl⟩) (fun v hv=>hw v (.tail _ hv)) fun l'=>?_
    have:=hk l'
    rw [List.map_cons] at this
    rw [List.append_assoc]
    exact this
end Mine

open PySem PySem.W PyProof.Rows PySem.Calls
set_option maxRecDepth 100000
set_option Elab.async false
set_option backward.match.sparseCases false
namespace Mine
theorem item_at {H:List AO} {i:Nat} {ss:List (List Nat)} {z:Int} {j:Nat} {x:List Nat} {k:PV→Prop} (hH:H[i]?=some (.lst (sL ss))) (hz:z=(j:Int)) (hj:j < 4000) (hx:ss[j]?=some x) (hk:k (.str x)):pItemH (.loc i) (.int z) H k:=by
  subst hz
  unfold pItemH
  dsimp only
  rw [hH]
  dsimp only
  have e:((j:Nat):Int).toNat=j:=by (exact ar_nrvs)
  unfold sL
  rw [e,List.getElem?_map,hx]
  exact ⟨by (exact ar_fpix),by (exact ar_v274 hj),hk⟩
theorem len_at {H:List AO} {i:Nat} {ss:List (List Nat)} {k:PV→Prop} (hH:H[i]?=some (.lst (sL ss))) (hl:ss.length≤4000) (hk:k (.int ss.length)):pFnH .len [.loc i] H k:=by
  show (match (H[i]?:Option AO) with | some (.lst p)=>p.length≤4000∧k (.int p.length) | _=>False:Prop)
  rw [hH]
  dsimp only
  unfold sL
  rw [List.length_map]
  exact ⟨hl,hk⟩
section
variable {Q:QT} {H:List AO} {n d:Nat} {ws:List (List Nat)}
theorem law_loop (PL:PlainLaw) (hn:H[n]?=some (.lst (sL ws))) (hd:H[d]?=some (.lst (sL (ws.map lstem)))) (hl:ws.length≤1000) (hs:short 2000 ws) {K:Ot→St→Prop}:∀ (m:Nat) (z:Nat) (o:Option (Int × PV)) (r:R9),z+m=ws.length →
    (∀ o' r',(m=0→o'=o)→(0 < m→∃ z a,o'=some (z,a))→K .next (st (lz n d o') (some (fsR r')) 1 H))→pFor (pxA T1 allC 39 F88.scope) "k" B5 K (rangeL z 1 m) (st (lz n d o) (some (fsR r)) 1 H)
  | 0,z,o,r,_,hk=>hk o r (fun _=>rfl) (fun h=>absurd h (Nat.lt_irrefl _))
  | m+1,z,o,r,hz,hk=>by
    show pSs (pxA T1 allC 39 F88.scope) B5 _ (st (put "k" (.int z) (lz n d o)) (some (fsR r)) 1 H)
    rw [e88h]
    have hlt:ws.length - 1 - z < ws.length:=by (exact ar_9y93 hz)
    have hw:ws[ws.length - 1 - z]?=some ws[ws.length - 1 - z]:=List.getElem?_eq_getElem hlt
    have hwm:ws[ws.length - 1 - z]∈ws:=List.getElem_mem hlt
    generalize hx:ws[ws.length - 1 - z]=x at hw hwm
    have hdx:(ws.map lstem)[ws.length - 1 - z]?=some (lstem x):=by rw [List.getElem?_map,hw];rfl
    refine len_at hn (by (exact ar_z7ij hl)) ?_
    show pItemH (.loc n) (.int ((ws.length:Int) - 1 - (z:Int))) H _
    have ea:(ws.length:Int) - 1 - (z:Int)=((ws.length - 1 - z:Nat):Int):=by (exact ar_dgyw hz)
    refine item_at hn ea (by (exact ar_aci8 hl)) hw ?_
    have hxl:=hs x hwm
    refine .inr (.inr (.inr (.inr (.inr (both_used hxl fun r' hr'=>?_)))))
    refine item_at hd ea (by (exact ar_aci8 hl)) hdx ?_
    show (match !decide (stemP x=lstem x) with | true=>_ | false=>_:Prop)
    rw [decide_eq_true (PL.eq x hxl)]
    show t5 allC _ (st (lz n d (some ((z:Int),.int ((ws.length:Int) - 1 - (z:Int))))) (some (fsR r')) 1 H)
    rw [e88i]
    refine .inr (.inr (.inr (.inr (.inr (both_get ?_)))))
    refine item_at hd ea (by (exact ar_aci8 hl)) hdx ?_
    show (match !decide (r'.w=lstem x) with | true=>_ | false=>_:Prop)
    rw [decide_eq_true (hr'.trans (PL.eq x hxl))]
    show pFor (pxA T1 allC 39 F88.scope) "k" B5 K (rangeL ((z:Int)+1) 1 m) (st (lz n d _) (some (fsR r')) 1 H)
    have e1:((z:Int)+1)=((z+1:Nat):Int):=by (exact ar_zwd2)
    rw [e1]
    refine law_loop PL hn hd hl hs m (z+1) _ r' (by (exact ar_vjh6 hz)) fun o' r2 h0 h1=>hk o' r2 (fun h=>by cases h) fun _=>?_
    cases m with
    | zero=>exact ⟨_,_,h0 rfl⟩
    | succ m=>exact h1 (Nat.succ_pos _)
end
section
variable {prog:Program} {w:World} {K:Frag} {mg mb:Str→Option Value} {Gs:Array GenState} {Os:OsState}
theorem call_all:CallOK prog w K mg mb T1 Gs Os 7 allC:=
  or_ok (call_ends.up (by decide)) (or_ok (call_wrd.up (by decide)) (or_ok (call_stm.up (by decide)) (or_ok (call2n.up (by decide)) (or_ok call_words (call6b.up (by decide))))))
theorem nItems_le (xs:List Int):nItems xs≤2:=by
  unfold nItems
  split<;>(first | exact ar_4cv0 | exact ar_kn8u (by assumption))
theorem short_all400 {ws:List (List Nat)} (h:∀ w∈ws,okW w):short 2000 ws:=fun w hw=>by have:=(h w hw).1;(exact ar_p3pe this)
set_option maxHeartbeats 1000000 in
theorem call_law (PL:PlainLaw):CallOK prog w K mg mb T1 Gs Os 8 lawC:=liftC call_all fun f args Q S g H h=>by
  obtain ⟨xs,rfl,rfl,rfl,rfl,rfl,hl,hq⟩:=h
  refine .inr ?_
  rw [e88a]
  refine ⟨rfl,.inr (.inr (.inr (.inl ?_)))⟩
  show allC 1013 [] _ (some (new6 [])) 1 [.cell (some (.ints xs)),.cell none]
  refine .inl ⟨_,_,rfl,rfl,rfl,?_⟩
  show pSs (X88 allC) (F88.body.drop 2) (bodyK Q) (st la (some (new6 [])) 1 (.cell (some (.ints xs))::.cell (some (.loc 7))::rest6))
  rw [e88b]
  have hn2:=nItems_le xs
  refine ⟨by (exact ar_6zr2 hl),rfl,⟨by decide,by decide,by split<;>(first | exact ar_knj1 | exact ar_sgxk),by split<;>(first | exact ar_zo4n | exact ar_m4cm hl)⟩,by rw [rangeL_len];(exact ar_gsfu hn2),?_⟩
  rw [cl2]
  show pLC _ _ _ _ _ (rangeL 0 4 (nItems xs)) (sL []) (st (l2s none) (some (new6 [])) 1 (base8 xs))
  refine words_loop (by (exact ar_6zr2 hl)) (nItems xs) 0 [] none (base8 xs) (by decide) (List.prefix_refl _) (clean8 xs) (fun w hw=>by cases hw) fun acc o H hp hc hw hal=>?_
  refine ⟨by decide,?_⟩
  have halen:acc.length≤2:=by rw [hal];show 0+nItems xs≤2;(exact ar_yo4b hn2)
  have hws:∀ w∈acc++[[]],okW w:=fun w hw'=>by
    rcases List.mem_append.mp hw' with h | h
    · exact hw w h
    · rw [List.mem_singleton] at h;subst h;exact ⟨by decide,rfl⟩
  have hwl:(acc++[[]]).length≤3:=by rw [List.length_append];show acc.length+1≤3;(exact ar_82vn halen)
  have hw0:0 < (acc++[[]]:List (List Nat)).length:=by rw [List.length_append];show 0 < acc.length+1;(exact ar_i68u)
  have eadd:∀ (k:PV→St→Prop) (σ:St),σ.H=H++[.lst (sL acc)]++[.lst [.str []]]→k (.loc σ.H.length) { σ with H:=σ.H++[.lst (sL (acc++[[]]))] }→pBinH .Add (.loc H.length) (.loc (H++[AO.lst (sL acc)]).length) k σ:=by
    intro k σ hσ hk
    show (match listOf (.loc H.length) σ.H with | none=>_ | some p=>(match listOf (.loc (H++[AO.lst (sL acc)]).length) σ.H with | some q=>p.length+q.length≤4000∧k (.loc σ.H.length) { σ with H:=σ.H++[.lst (p++q)] } | none=>False):Prop)
    have l1:listOf (.loc H.length) σ.H=some (sL acc):=by unfold listOf;rw [hσ];dsimp only;rw [mid_get]
    have l2:listOf (.loc (H++[AO.lst (sL acc)]).length) σ.H=some [.str []]:=by unfold listOf;rw [hσ];dsimp only;rw [last_get2]
    rw [l1,l2]
    dsimp only
    refine ⟨by unfold sL;rw [List.length_map];show acc.length+1≤_;(exact ar_p4zk halen),?_⟩
    rw [sL_snoc]
    exact hk
  refine eadd _ _ rfl ?_
  generalize hW:acc++[[]]=ws at hws hwl hw0 ⊢
  have hc2:clean (some (new6 [])) (H++[.lst (sL acc)]++[.lst [.str []]]++[.lst (sL ws)]):=((hc.snoc fun n=>sL_old n _).snoc fun n=>sL_old n [[]]).snoc fun n=>sL_old n _
  show pSs (X88 allC) (F88.body.drop 3) (bodyK Q) (st (lb (H++[AO.lst (sL acc)]++[AO.lst [.str []]]).length) (some (new6 [])) 1 (H++[.lst (sL acc)]++[.lst [.str []]]++[.lst (sL ws)]))
  have hn:(H++[AO.lst (sL acc)]++[AO.lst [.str []]]++[AO.lst (sL ws)])[(H++[AO.lst (sL acc)]++[AO.lst [.str []]]).length]?=some (.lst (sL ws)):=last_get
  generalize (H++[AO.lst (sL acc)]++[AO.lst [.str []]]).length=n at hn ⊢
  generalize H++[AO.lst (sL acc)]++[AO.lst [.str []]]++[AO.lst (sL ws)]=H2 at hn hc2 ⊢
  rw [e88d,cl3,hn]
  refine ⟨by unfold sL;rw [List.length_map];(exact ar_urov hwl),?_⟩
  show pLC _ _ _ _ _ (sL ws) (sL []) _
  refine due_loop hn hc2 ws [] [] (.inl rfl) hws fun l'=>?_
  show pSs (X88 allC) (F88.body.drop 4) (bodyK Q) (st (lc n H2.length) (some (new6 [])) 1 (H2++[.lst (sL ([]++ws.map lstem))]))
  rw [List.nil_append]
  have hn3:(H2++[AO.lst (sL (ws.map lstem))])[n]?=some (.lst (sL ws)):=pre_get (List.prefix_append _ _) hn
  have hd3:(H2++[AO.lst (sL (ws.map lstem))])[H2.length]?=some (.lst (sL (ws.map lstem))):=last_get
  generalize H2.length=d at hd3 ⊢
  generalize H2++[AO.lst (sL (ws.map lstem))]=H3 at hn3 hd3 ⊢
  rw [e88f]
  have hsw:=short_all400 hws
  refine .inr (.inr (.inr (.inr (.inl ⟨n,ws,rfl,rfl,rfl,rfl,hn3,hw0,by (exact ar_urov hwl),hsw,fun r'=>?_⟩))))
  have estem:ws.map stemP=ws.map lstem:=List.map_congr_left fun v hv=>PL.eq v (hsw v hv)
  rw [estem]
  have hP:H3 <+: H3++[AO.cell (some (.self 1))]++[AO.lst (sL (ws.map lstem))]:=(List.prefix_append _ _).trans (List.prefix_append _ _)
  have hn4:=pre_get hP hn3
  have hd4:=pre_get hP hd3
  have ha4:(H3++[AO.cell (some (.self 1))]++[AO.lst (sL (ws.map lstem))])[H3.length+1]?=some (.lst (sL (ws.map lstem))):=by
    have:=last_get2 (H:=H3) (a:=AO.cell (some (.self 1))) (b:=AO.lst (sL (ws.map lstem)))
    rw [List.length_append] at this
    exact this
  generalize H3.length+1=a at ha4 ⊢
  generalize H3++[AO.cell (some (.self 1))]++[AO.lst (sL (ws.map lstem))]=H4 at hn4 hd4 ha4 ⊢
  have okd:okL (ws.map lstem)=true:=by
    unfold okL
    rw [List.all_eq_true]
    intro x hx
    obtain ⟨v,hv,rfl⟩:=List.mem_map.mp hx
    exact PL.ok v (hws v hv).2
  show lstStrs H4[d]? fun y=>lstStrs H4[a]? fun x=>okL x=true∧okL y=true∧_
  rw [hd4]
  show (match strsOf (sL (ws.map lstem)) with | some y=>(lstStrs H4[a]? fun x=>okL x=true∧okL y=true∧_) | none=>False:Prop)
  unfold sL at ha4 ⊢
  rw [strsOf_strs]
  dsimp only
  rw [ha4]
  show (match strsOf ((ws.map lstem).map .str) with | some x=>(okL x=true∧okL (ws.map lstem)=true∧_) | none=>False:Prop)
  rw [strsOf_strs]
  refine ⟨okd,okd,?_⟩
  rw [decide_eq_true rfl]
  show pSs (X88 allC) (F88.body.drop 5) (bodyK Q) (st (lc n d) (some (fsR r')) 1 H4)
  rw [e88g]
  refine len_at hn4 (by (exact ar_px8e hwl)) ?_
  show (-4000≤(ws.length:Int)∧(ws.length:Int)≤4000)∧pFor (pxA T1 allC 39 F88.scope) "k" B5 (Ke allC Q) (rangeL 0 1 (rangeN 0 ws.length 1)) (st (lz n d none) (some (fsR r')) 1 H4)
  have hN:rangeN 0 (ws.length:Int) 1=ws.length:=by unfold rangeN;rw [if_pos rfl];(exact ar_e02e)
  rw [hN]
  refine ⟨by (exact ar_zym4 hwl),?_⟩
  refine law_loop PL hn4 hd4 (by (exact ar_c9ev hwl)) hsw ws.length 0 none r' (by (exact ar_4ikx)) fun o' r2 _ hso=>?_
  obtain ⟨z,av,rfl⟩:=hso hw0
  show pSs (X88 allC) (F88.body.drop 6) (bodyK Q) (st (lz n d (some (z,av))) (some (fsR r2)) 1 H4)
  rw [e88k]
  refine .inr (.inr (.inr (.inl ?_)))
  show K94 allC (pxA T1 allC 37 F88.scope) "stemWord" (argsE (leftOf (exOf (stAt F88 6)))) (kl Q d) (.self 2) (st (lz n d (some (z,av))) (some (new6 [])) 2 H4)
  rw [e88l]
  have hx0:ws[0]?=some ws[0]:=List.getElem?_eq_getElem hw0
  have hxm:ws[0]∈ws:=List.getElem_mem hw0
  generalize ws[0]=x at hx0 hxm
  have hdx:(ws.map lstem)[0]?=some (lstem x):=by rw [List.getElem?_map,hx0];rfl
  refine item_at hn4 rfl (by decide) hx0 ?_
  refine .inr (.inr (.inr (.inr (.inr (both_new (.inr rfl) (hsw x hxm) fun r3 _=>?_)))))
  show pItemH (.loc d) (.int 0) H4 _
  refine item_at hd4 rfl (by decide) hdx ?_
  show Q (.bool (decide (stemP x=lstem x))) _ _ _
  rw [decide_eq_true (PL.eq x (hsw x hxm))]
  exact hq _ _ _
end
end Mine

open PySem PySem.W PyProof.Rows PySem.Calls
set_option maxRecDepth 100000
set_option Elab.async false
set_option backward.match.sparseCases false
namespace Mine
theorem name_law:lawRec.name=("law":Str):=by kernel_rfl
theorem ints_of_reads {R:WRecords} {cl:Str→Option Addr} {h:Heap}:∀ {vs:List Value} {ns:List Int} {as:List Addr},ReadsAllW R cl h vs (ns.map .int) as→vs.length=ns.length∧∀ (i:Nat) (x:Int),ns[i]?=some x→∃ t,vs[i]?=some (Value.int x t)
  | vs,[],as,r=>by
    obtain ⟨rfl,_⟩:=readsAllW_nil_inv r
    exact ⟨rfl,fun i x e=>by simp at e⟩
  | vs,n::ns,as,r=>by
    obtain ⟨v,vs',a1,a2,rfl,_,r1,r2⟩:=readsAllW_cons_inv r
    obtain ⟨t,rfl,_⟩:=readsW_int_inv r1
    obtain ⟨h1,h2⟩:=ints_of_reads r2
    refine ⟨by simp [h1],fun i x e=>?_⟩
    cases i with
    | zero=>cases e;exact ⟨t,rfl⟩
    | succ i=>exact h2 i x e
theorem pre_len {ns:List Int} (h:rwL.row.toRowW.pre.holds rwL.row.toRowW.records { args:=[.list (ns.map .int)] }=true):ns.length≤63:=by
  have e:rwL.row.toRowW.pre=WTm.and (.not (.lt (.lit (.int 63)) (.len (.arg 0)))) (.lit (.bool true)):=by kernel_rfl
  rw [e] at h
  have h1:=(holds_andW h).1
  simp [WTm.holds,WTm.value,PySem.W.less?,PySem.W.Num.less?] at h1
  cases q:decide ((63:Int) < (ns.length:Int)) with
  | true=>rw [q] at h1;cases h1
  | false=>
    have:=of_decide_eq_false q
    (exact ar_y8e2 this)
theorem walk2 (PL:PlainLaw):WalkO q1 loose1 (XL q1 []) (YP1 pw) rwL.row.toRowW lawRec [] fun f vs=>PySem.call f vs:=by
  intro w s₀ s₁ mg mb G Y a o pm cd doc dV kV ho hod hcode hd hmg hgens args vals as hpre hlay hread hwell hsys
  obtain ⟨hs,hp⟩:=pre_splitW hpre
  obtain ⟨d,r,rfl,hd1,hr⟩:=hasAllW_cons hs
  obtain rfl:=hasAllW_nil hr
  obtain ⟨ws,rfl,hi⟩:=hasW_list hd1
  obtain ⟨ns,rfl⟩:=items_int hi
  have hlen:=pre_len hp
  obtain ⟨v,vs',a1,a2,rfl,_,r1,r2⟩:=readsAllW_cons_inv hread
  obtain ⟨rfl,_⟩:=readsAllW_nil_inv r2
  obtain ⟨l,ol,its,n,ai,rfl,hl1,hl2,hl3,hl4,_⟩:=readsW_list_open r1
  obtain ⟨i1,i2⟩:=ints_of_reads hl4
  obtain ⟨⟨K,lk,hK,u,hf,hpa,hta⟩,hset⟩:=Y
  rw [Bool.and_eq_true] at hf
  have T:=topRead_of G.T
  have W:Facts pw w K s₁.heap mg mb T1:=facts_of u hf.1 hpa hta hK T.nolimit T.g T.b T.builtins hset
  have ha:a=1088:=by
    have h1:mg lawRec.name=some (.ref a):=hmg
    have h2:mg "law"=some (.ref 1088):=nsIn_ns hK T.g (beq_iff_eq.mp hf.2)
    rw [name_law,h2] at h1
    injection h1 with h1;injection h1 with h1;exact h1.symm
  subst ha
  have hr:HR K s₁.heap ⟨0,0,0,[],(l,ol)⟩ none [] [] s₁.heap:=
    ⟨fun _ _ e=>e,trivial,fun f hf=>(by cases hf),fun fs e=>(by cases e),rfl,fun i a ao e=>(by simp at e),⟨List.nodup_nil,List.nodup_nil,fun a ha=>(by cases ha)⟩,fun a ha=>(by cases ha),fun f hf=>(by cases hf),hl1,trivial⟩
  have hv:VR K ⟨0,0,0,[],(l,ol)⟩ (.ref l) (.ints ns):=⟨rfl,its,n,hl2,hl3,by simpa using i1,fun i x e=>by simpa using i2 i x e⟩
  have hA:AOk callerA (([]:List Fm).map Fm.env) (2 * 8):=⟨rfl,rfl,by show 1+claimMargin+2 * 8≤recursionLimit;decide,by show 4+16 * (2 * 8)+64 < cLine;decide⟩
  show wpAny (model pw w) callerA (call (.ref 1088) [.ref l]) _ _ s₁
  refine wpAny_call (call_law PL s₁.heap W 1088 [.ints ns] (fun v _ _ _=>v=.bool true) none 0 [] ⟨ns,rfl,rfl,rfl,rfl,rfl,hlen,fun _ _ _=>rfl⟩ callerA s₁ ⟨0,0,0,[],(l,ol)⟩ [] [.ref l] hA ⟨hr,rfl,rfl,rfl⟩ ⟨hv,trivial⟩ _
    fun v s' ρ' pv S' g' H' x' hv' R' hk=>?_)
  subst hk
  obtain rfl:v=.bool true:=hv'
  refine ⟨.inl ⟨.bool true,.bool true,[],rfl,fun _=>rfl,.bool true,by kernel_rfl,fun _=>⟨List.nodup_nil,fun a ha=>by cases ha⟩⟩,OldK.of_keep fun b o e=>R'.hr.stays b o e,R'.os,AllBare.of_eq (R'.gens.trans hgens)⟩
theorem law2 (PL:PlainLaw):rwL.Holds:=holds1 (walk2 PL)
end Mine

open PySem PySem.W PyProof.Rows PySem.Calls
set_option maxRecDepth 100000
set_option Elab.async false
set_option backward.match.sparseCases false
namespace Mine
theorem lend_go_ge (x:List Nat) (ss:List (List Nat)):∀ f,f.length≤(ss.foldl (fun f e=>bif decide (f.length < e.length)&&e.isSuffixOf x then e else f) f).length:=by
  induction ss with
  | nil=>intro f;exact Nat.le_refl _
  | cons e r ih=>
    intro f
    rw [List.foldl_cons]
    cases q:decide (f.length < e.length)&&e.isSuffixOf x with
    | true=>
      have h1:=of_decide_eq_true (Bool.and_eq_true_iff.mp q).1
      have h2:=ih e
      rw [cond_true];(exact ar_mgi3 h1 h2)
    | false=>exact ih f
theorem lend_go_max (x:List Nat) (ss:List (List Nat)):∀ f,∀ s∈ss,s <:+ x→s.length≤(ss.foldl (fun f e=>bif decide (f.length < e.length)&&e.isSuffixOf x then e else f) f).length:=by
  induction ss with
  | nil=>intro f s hs;cases hs
  | cons e r ih=>
    intro f s hs hx
    rw [List.foldl_cons]
    rcases List.mem_cons.mp hs with rfl | hs
    · have hg:=lend_go_ge x r (bif decide (f.length < s.length)&&s.isSuffixOf x then s else f)
      refine Nat.le_trans ?_ hg
      rw [List.isSuffixOf_iff_suffix.mpr hx,Bool.and_true]
      by_cases h:f.length < s.length
      · rw [decide_eq_true h,cond_true];exact Nat.le_refl _
      · rw [decide_eq_false h,cond_false];(exact ar_n3le h)
    · exact ih _ s hs hx
theorem lend_max {x:List Nat} {ss:List (List Nat)} {s:List Nat} (hs:s∈ss) (hx:s <:+ x):s.length≤(lend x ss).length:=lend_go_max x ss [] s hs hx
theorem suf_eq {s t x:List Nat} (hs:s <:+ x) (ht:t <:+ x) (h:s.length=t.length):s=t:=
  (List.suffix_of_suffix_length_le hs ht (Nat.le_of_eq h)).eq_of_length h
noncomputable def same (A:List Am) (ss:List (List Nat)):Bool:=(A.all fun e=>ss.contains e.s&&!e.s.isEmpty)&&ss.all fun s=>A.any fun e=>e.s==s
theorem same_l {A:List Am} {ss:List (List Nat)} (h:same A ss=true) {e:Am} (he:e∈A):e.s∈ss∧e.s≠[]:=by
  have:=List.all_eq_true.mp (Bool.and_eq_true_iff.mp h).1 e he
  rw [Bool.and_eq_true,Bool.not_eq_true'] at this
  refine ⟨List.contains_iff_mem.mp this.1,fun q=>?_⟩
  rw [q] at this
  cases this.2
theorem same_r {A:List Am} {ss:List (List Nat)} (h:same A ss=true) {s:List Nat} (hs:s∈ss):∃ e∈A,e.s=s:=by
  have:=List.all_eq_true.mp (Bool.and_eq_true_iff.mp h).2 s hs
  obtain ⟨e,he,q⟩:=List.any_eq_true.mp this
  exact ⟨e,he,beq_iff_eq.mp q⟩
theorem kb_suf {e:Am} {x:List Nat}:kb e <+: x.reverse↔e.s <:+ x:=by unfold kb;exact List.reverse_prefix
theorem link_none {A:List Am} {ss:List (List Nat)} (h:same A ss=true) {x:List Nat} (hs:sfx A x=none):lend x ss=[]:=by
  have hb:=best_is kb x.reverse A
  unfold sfx at hs
  rw [hs] at hb
  rcases lend_mem x ss with q | q
  · exact q
  · obtain ⟨e,he,q2⟩:=same_r h q
    exact absurd (kb_suf.mpr (by rw [q2];exact lend_sfx x ss)) (hb e he)
theorem link_some {A:List Am} {ss:List (List Nat)} (h:same A ss=true) {x:List Nat} {e:Am} (hs:sfx A x=some e):e∈A∧lend x ss=e.s∧e.s≠[]∧e.s <:+ x:=by
  have hb:=best_is kb x.reverse A
  unfold sfx at hs
  rw [hs] at hb
  obtain ⟨he,hp,hm⟩:=hb
  have hsx:=kb_suf.mp hp
  obtain ⟨h1,h2⟩:=same_l h he
  have hle:=lend_max h1 hsx
  have hpos:0 < e.s.length:=List.length_pos_iff.mpr h2
  refine ⟨he,?_,h2,hsx⟩
  rcases lend_mem x ss with q | q
  · rw [q] at hle;simp at hle;exact absurd hle h2
  · obtain ⟨e',he',q2⟩:=same_r h q
    have:=hm e' he' (kb_suf.mpr (by rw [q2];exact lend_sfx x ss))
    rw [kb_len,kb_len,q2] at this
    exact suf_eq (lend_sfx x ss) hsx (by (exact ar_8pb7 hle this))
theorem same1:same (At "a_1") proL=true:=by kernel_rfl
theorem same2:same (At "a_2") befL=true:=by kernel_rfl
theorem same3:same (At "a_3") s3L=true:=by kernel_rfl
theorem same4:same (At "a_4") s4L=true:=by kernel_rfl
theorem same5:same (At "a_5") s5L=true:=by kernel_rfl
theorem same6:same (At "a_6") nouL=true:=by kernel_rfl
theorem same7:same (At "a_7") ysL=true:=by kernel_rfl
theorem same8:same (At "a_8") vrbL=true:=by kernel_rfl
theorem same9:same (At "a_9") lasL=true:=by kernel_rfl
noncomputable def is2 (e:Am):Bool:=match plaL e.s with
  | some x=>(decide (e.res=1)&&x==Tx "iendo")||(decide (e.res=2)&&x==Tx "ando")||(decide (e.res=3)&&x==Tx "ar")||(decide (e.res=4)&&x==Tx "er")||(decide (e.res=5)&&x==Tx "ir")
  | none=>(decide (e.res=6)&&!decide (e.s=txYendo))||(decide (e.res=7)&&decide (e.s=txYendo))
theorem all2:(At "a_2").all is2=true:=by kernel_rfl
noncomputable def is6 (e:Am):Bool:=decide (nouK e.s=e.res)&&decide (1≤e.res)&&decide (e.res≤9)&&(decide (e.res=6)==decide (e.s=txAm))
theorem all6:(At "a_6").all is6=true:=by kernel_rfl
theorem all3:((At "a_3").all fun e=>decide (e.res=1)==decide (e.s=iv2))=true:=by kernel_rfl
theorem all8:((At "a_8").all fun e=>decide (e.res=1)==gusL.contains e.s)=true:=by kernel_rfl
theorem all9:((At "a_9").all fun e=>decide (e.res=1)==!aeL.contains e.s)=true:=by kernel_rfl
theorem tx_all:(Tx "ic"=ic2∧Tx "at"=at2∧Tx "log"=txLog∧Tx "u"=txU∧Tx "ente"=txEnte):=⟨by kernel_rfl,by kernel_rfl,by kernel_rfl,by kernel_rfl,by kernel_rfl⟩
theorem slc_m1 (h:List Nat):slc h (some (-1)) none=h.drop (h.length - 1):=by
  unfold slc clip
  dsimp only
  rw [if_pos (by decide),List.take_length]
  congr 1
  (exact ar_c6df)
theorem slc_m2 (h:List Nat):slc h (some (-2)) none=h.drop (h.length - 2):=by
  unfold slc clip
  dsimp only
  rw [if_pos (by decide),List.take_length]
  congr 1
  (exact ar_nxov)
theorem slc_cut1 (h:List Nat):slc h none (some (-1))=h.take (h.length - 1):=by
  unfold slc clip
  dsimp only
  rw [if_pos (by decide),List.drop_zero]
  congr 1
  (exact ar_c6df)
theorem last1 {h:List Nat} {c:Nat}:slc h (some (-1)) none=[c]↔h[h.length - 1]?=some c∧0 < h.length:=by
  rw [slc_m1]
  constructor
  · intro e
    have hl:0 < h.length:=by
      cases h with
      | nil=>cases e
      | cons _ _=>exact Nat.succ_pos _
    refine ⟨?_,hl⟩
    have:=congrArg (fun l=>l[0]?) e
    rw [List.getElem?_drop] at this
    simpa using this
  · rintro ⟨h1,h2⟩
    rw [List.drop_eq_getElem_cons (by (exact ar_zqw4 h2))]
    have h3:=(List.getElem?_eq_some_iff.mp h1).2
    rw [h3,List.drop_eq_nil_of_le (by (exact ar_fxx9))]
theorem last2 {h:List Nat} {a b:Nat}:slc h (some (-2)) none=[a,b]↔h[h.length - 1]?=some b∧h[h.length - 2]?=some a∧1 < h.length:=by
  rw [slc_m2]
  constructor
  · intro e
    have hl:1 < h.length:=by
      have:=congrArg List.length e
      rw [List.length_drop] at this
      have e2:([a,b]:List Nat).length=2:=rfl
      (exact ar_wxp3 this e2)
    have g0:=congrArg (fun l=>l[0]?) e
    have g1:=congrArg (fun l=>l[1]?) e
    rw [List.getElem?_drop] at g0 g1
    refine ⟨?_,?_,hl⟩
    · rw [show h.length - 1=h.length - 2+1 from by (exact ar_a7qp hl)];simpa using g1
    · simpa using g0
  · rintro ⟨h1,h2,h3⟩
    rw [List.drop_eq_getElem_cons (by (exact ar_scwq h3)),(List.getElem?_eq_some_iff.mp h2).2,List.drop_eq_getElem_cons (by (exact ar_ah33 h3))]
    have h1':h[h.length - 2+1]?=some b:=by rw [show h.length - 2+1=h.length - 1 from by (exact ar_6hzs h3)];exact h1
    have this:=(List.getElem?_eq_some_iff.mp h1').2
    rw [this,List.drop_eq_nil_of_le (by (exact ar_5bwv))]
end Mine

open PySem PySem.W PyProof.Rows PySem.Calls
set_option maxRecDepth 100000
set_option Elab.async false
set_option backward.match.sparseCases false
namespace Mine
theorem isAt_none {b:Bool} {w:List Nat} {i:Int} (h:w.length≤i.toNat):isAt b w i=false:=by unfold isAt;rw [List.getElem?_eq_none h]
theorem isAt_neg {w:List Nat} {i:Int} (h:i.toNat < w.length):isAt true w i=!isAt false w i:=by
  unfold isAt
  rw [List.getElem?_eq_getElem h]
  dsimp only
  cases isV w[i.toNat]<;>rfl
theorem skipV_at {b:Bool} {w:List Nat}:∀ (m:Nat) (c:Int),((w.length:Int) - c).toNat=m→0≤c→skipV b w c < w.length→∃ a,w[(skipV b w c).toNat]?=some a∧(isV a==b)=false:=by
  intro m
  induction m with
  | zero=>
    intro c hm h0 hlt
    rw [skipV_end (by (exact ar_s33v hm))] at hlt
    (exact (ar_yeeb hm hlt).elim)
  | succ m ih=>
    intro c hm h0 hlt
    have hc:c.toNat < w.length:=by (exact ar_k31a hm h0)
    have hg:w[c.toNat]?=some w[c.toNat]:=List.getElem?_eq_getElem hc
    generalize w[c.toNat]=a at hg
    have e:=skipV_step (b:=b) h0 hg
    cases q:(isV a==b) with
    | true=>
      rw [if_pos q] at e
      rw [e] at hlt ⊢
      exact ih (c+1) (by (exact ar_15yu hm)) (by (exact ar_khmm h0)) hlt
    | false=>
      rw [if_neg (by rw [q];exact Bool.false_ne_true)] at e
      rw [e]
      exact ⟨a,hg,q⟩
theorem minL_skip {w:List Nat} {s:Int} (h:s≤w.length):minL w (s+1)=bif decide (s < (w.length:Int)) then s+1 else (w.length:Int):=by
  unfold minL
  by_cases q:s < (w.length:Int)
  · rw [if_neg (by (exact ar_nn83 q)),decide_eq_true q,cond_true]
  · rw [if_pos (by (exact ar_9htp q)),decide_eq_false q,cond_false]
theorem lbehind_is {w:List Nat} {a:Int} (h0:0≤a) (h1:a≤w.length):lbehind w a=(fun s1:Int=>bif decide (s1 < w.length) then (fun s2:Int=>bif decide (s2 < w.length) then s2+1 else (w.length:Int)) (skipV true w (s1+1)) else (w.length:Int)) (skipV false w a):=by
  unfold lbehind
  dsimp only
  obtain ⟨g1,g2⟩:=skipV_le (b:=false) h0 h1
  by_cases q:skipV false w a < w.length
  · obtain ⟨c,hc,hv⟩:=skipV_at (b:=false) _ a rfl h0 q
    rw [decide_eq_true q,cond_true]
    have e:=skipV_step (b:=true) (c:=skipV false w a) (by (exact ar_zu20 h0 g1)) hc
    have hv':(isV c==true)=true:=by cases q2:isV c<;>rw [q2] at hv<;>first | rfl | cases hv
    rw [if_pos hv'] at e
    rw [e]
    exact minL_skip (skipV_le (b:=true) (by (exact ar_fp8m h0 g1)) (by (exact ar_bj2y q))).2
  · rw [decide_eq_false q,cond_false]
    have e:skipV false w a=w.length:=by (exact ar_okk9 g2 q)
    rw [e,skipV_end (Int.le_refl _),minL_skip (Int.le_refl _),decide_eq_false (Int.lt_irrefl _),cond_false]
theorem reg1_is (w:List Nat):reg1 w=lbehind w 0:=by rw [lbehind_is (Int.le_refl _) (by (exact ar_fpix))];rfl
theorem lbehind_le {w:List Nat} {a:Int}:lbehind w a≤w.length:=by unfold lbehind minL;split<;>(first | exact ar_fvri | exact ar_ftge (by assumption))
theorem reg2_is (w:List Nat):reg2 w=lbehind w (lbehind w 0):=by
  rw [lbehind_is (lbehind_nonneg (Int.le_refl _)) lbehind_le]
  have e:=lbehind_is (w:=w) (Int.le_refl 0) (by (exact ar_fpix))
  rw [e]
  unfold reg2
  dsimp only
  have eend:skipV false w (w.length:Int)=w.length:=skipV_end (Int.le_refl _)
  have ef:decide ((w.length:Int) < (w.length:Int))=false:=decide_eq_false (Int.lt_irrefl _)
  cases q1:decide (skipV false w 0 < (w.length:Int)) with
  | false=>rw [cond_false,cond_false,eend,ef,cond_false]
  | true=>
    rw [cond_true,cond_true]
    cases q2:decide (skipV true w (skipV false w 0+1) < (w.length:Int)) with
    | false=>rw [cond_false,cond_false,eend,ef,cond_false]
    | true=>rw [cond_true,cond_true]
theorem first_is (w:List Nat):regV w=lfirst w:=by
  unfold regV lfirst
  have s2:∀ b,2≤w.length→minL w (skipV b w 2+1)=bif decide (skipV b w 2 < (w.length:Int)) then skipV b w 2+1 else (w.length:Int):=fun b h=>minL_skip (skipV_le (b:=b) (by decide) (by (exact ar_gb11 h))).2
  have a1:∀ b,w.length < 2→isAt b w 1=false:=fun b h=>isAt_none (by show w.length≤1;(exact ar_4gxg h))
  by_cases h2:(w.length:Int) < 2
  · have h2':w.length < 2:=by (exact ar_ogd0 h2)
    rw [decide_eq_true h2,cond_true,a1 true h2',a1 false h2',Bool.false_and,Bool.false_and,cond_false,cond_false]
    unfold regA regE
    rw [a1 true h2',a1 false h2',Bool.false_and,Bool.false_and,cond_false,cond_false]
    cases isAt true w 0<;>cases isAt false w 0<;>rfl
  · have h2':2≤w.length:=by (exact ar_fo5i h2)
    rw [decide_eq_false h2,cond_false,s2 false h2',s2 true h2']
    have n0:=isAt_neg (w:=w) (i:=0) (by show 0 < w.length;(exact ar_bxnx h2))
    have n1:=isAt_neg (w:=w) (i:=1) (by show 1 < w.length;(exact ar_zlfe h2))
    unfold regA regE
    rw [n0,n1]
    have m3:minL w 3=bif decide (2 < (w.length:Int)) then 3 else (w.length:Int):=by
      have:=minL_skip (w:=w) (s:=2) (by (exact ar_2zcw h2))
      exact this
    rw [m3]
    cases isAt false w 0<;>cases isAt false w 1<;>cases decide (skipV false w 2 < (w.length:Int))<;>cases decide (skipV true w 2 < (w.length:Int))<;>cases decide (2 < (w.length:Int))<;>rfl
end Mine

open PySem PySem.W PyProof.Rows PySem.Calls
set_option maxRecDepth 100000
set_option Elab.async false
set_option backward.match.sparseCases false
namespace Mine
theorem cut_is (w:List Nat) (s:List Nat):cutN w s.length=lcut w s:=rfl
theorem lcut_nil (w:List Nat):lcut w []=w:=by unfold lcut;simp
theorem dne {α:Type} [DecidableEq α] {a b:α} (h:a≠b):decide (a=b)=false:=decide_eq_false h
theorem get_take {w:List Nat} {c i:Nat} (h:i < c):(w.take c)[i]?=w[i]?:=by rw [List.getElem?_take_of_lt h]
theorem att_is (w:List Nat) (first:Int):att first w=lpron w first:=by
  unfold att lpron
  dsimp only
  cases h1:sfx (At "a_1") w with
  | none=>
    rw [link_none same1 h1]
    unfold lpron4
    rw [decide_eq_true rfl,cond_true]
  | some e1=>
    obtain ⟨_,q1,n1,f1⟩:=link_some same1 h1
    rw [q1]
    dsimp only
    rw [cut_is]
    have hr:=lcut_len w e1.s
    have hle1:=f1.length_le
    have er:lcut w e1.s=w.take (w.length - e1.s.length):=rfl
    generalize lcut w e1.s=r at hr er ⊢
    cases h2:sfx (At "a_2") r with
    | none=>
      rw [link_none same2 h2]
      unfold lpron4
      rw [dne n1,cond_false,decide_eq_true rfl,cond_true]
    | some e2=>
      obtain ⟨m2,q2,n2,f2⟩:=link_some same2 h2
      rw [q2]
      dsimp only
      have hle2:=f2.length_le
      have hh:=lcut_len r e2.s
      have hk:r.length - e2.s.length≤w.length - e1.s.length:=by (exact ar_my2r hr)
      have eh:lcut r e2.s=w.take (r.length - e2.s.length):=by
        unfold lcut
        generalize r.length - e2.s.length=k at hk ⊢
        rw [er,List.take_take,Nat.min_eq_left hk]
      have hc:r.length - e2.s.length=(lcut r e2.s).length:=by (exact ar_97dj hh)
      rw [hc] at eh ⊢
      have i2:=List.all_eq_true.mp all2 e2 m2
      generalize lcut r e2.s=h at hh eh ⊢
      unfold lpron4
      rw [dne n1,cond_false,dne n2,cond_false,← eh]
      by_cases hp:first≤(h.length:Int)
      · have hn:¬ (h.length:Int) < first:=by (exact ar_nmtx hp)
        rw [decide_eq_true hp,cond_true,decide_eq_false hn,cond_false]
        unfold is2 at i2
        cases hx:plaL e2.s with
        | some x=>
          rw [hx] at i2
          dsimp only at i2 ⊢
          simp only [Bool.or_eq_true,Bool.and_eq_true,decide_eq_true_eq,beq_iff_eq] at i2
          rcases i2 with (((⟨a,rfl⟩ | ⟨a,rfl⟩) | ⟨a,rfl⟩) | ⟨a,rfl⟩) | ⟨a,rfl⟩<;>rw [a]<;>rfl
        | none=>
          rw [hx] at i2
          dsimp only at i2 ⊢
          simp only [Bool.or_eq_true,Bool.and_eq_true,decide_eq_true_eq,Bool.not_eq_true',decide_eq_false_iff_not] at i2
          rcases i2 with ⟨a,b⟩ | ⟨a,b⟩
          · rw [a,dne b];rfl
          · rw [a,decide_eq_true b]
            show (bif decide (w[h.length - 1]?=some 117∧0 < h.length) then r else w)=bif !decide (slc h (some (-1)) none=txU) then w else r
            have:(w[h.length - 1]?=some 117∧0 < h.length)↔slc h (some (-1)) none=txU:=by
              have l1:=last1 (h:=h) (c:=117)
              constructor
              · rintro ⟨x,y⟩
                refine l1.mpr ⟨?_,y⟩
                rw [← x]
                have:=get_take (w:=w) (c:=h.length) (i:=h.length - 1) (by (exact ar_zqw4 y))
                rw [← eh] at this
                exact this
              · intro x
                obtain ⟨x,y⟩:=l1.mp x
                refine ⟨?_,y⟩
                rw [← x]
                have:=get_take (w:=w) (c:=h.length) (i:=h.length - 1) (by (exact ar_zqw4 y))
                rw [← eh] at this
                exact this.symm
            rw [decide_eq_decide.mpr this]
            cases decide (slc h (some (-1)) none=txU)<;>rfl
      · have hy:(h.length:Int) < first:=by (exact ar_5h1h hp)
        rw [decide_eq_false hp,cond_false,decide_eq_true hy,cond_true]
theorem lless_is {A:List Am} {ss:List (List Nat)} (h:same A ss=true) (x:List Nat) (low:Int):lless x ss low=delT A low x:=by
  unfold lless delT
  dsimp only
  cases h1:sfx A x with
  | none=>
    rw [link_none h h1,lcut_nil]
    cases decide (low≤(x.length:Int))<;>rfl
  | some e=>
    obtain ⟨_,q1,n1,f1⟩:=link_some h h1
    rw [q1]
    dsimp only
    have hl:=lcut_len x e.s
    have hle:=f1.length_le
    have:(((lcut x e.s).length:Nat):Int)=(x.length:Int) - e.s.length:=by (exact ar_ot3s hl hle)
    rw [this]
    rfl
theorem lend_one {x s:List Nat} (hs:s≠[]):lend x [s]=bif s.isSuffixOf x then s else []:=by
  unfold lend
  rw [List.foldl_cons,List.foldl_nil]
  have:decide (([]:List Nat).length < s.length)=true:=decide_eq_true (List.length_pos_iff.mpr hs)
  rw [this,Bool.true_and]
theorem lless_one {x s:List Nat} (hs:s≠[]) (low:Int):lless x [s] low=delS s low x:=by
  unfold lless delS
  dsimp only
  rw [lend_one hs]
  cases q:s.isSuffixOf x with
  | false=>
    rw [cond_false,lcut_nil,Bool.false_and,cond_false]
    cases decide (low≤(x.length:Int))<;>rfl
  | true=>
    rw [cond_true,Bool.true_and]
    have hl:=lcut_len x s
    have hle:=(List.isSuffixOf_iff_suffix.mp q).length_le
    have:(((lcut x s).length:Nat):Int)=(x.length:Int) - s.length:=by (exact ar_ot3s hl hle)
    rw [this]
    rfl
theorem ic_ne:ic2≠[]:=by decide
theorem at_ne:at2≠[]:=by decide
theorem std6_is (h:List Nat) (p2:Int):std6 p2 h=lkind6 p2 h (lend h s3L) (lless h s3L p2):=by
  rw [lless_is same3]
  unfold std6 delT
  cases h1:sfx (At "a_3") h with
  | none=>
    rw [link_none same3 h1]
    unfold lkind6
    dsimp only
    rw [decide_eq_true (rfl:h=h),Bool.not_true,Bool.and_false,cond_false]
  | some e=>
    obtain ⟨m1,q1,n1,f1⟩:=link_some same3 h1
    rw [q1]
    dsimp only
    have i3:=List.all_eq_true.mp all3 e m1
    have i3':decide (e.res=1)=decide (e.s=iv2):=beq_iff_eq.mp i3
    have hle:=f1.length_le
    have hpos:=List.length_pos_iff.mpr n1
    unfold lkind6
    cases q:decide (p2≤(h.length:Int) - e.s.length) with
    | false=>
      rw [cond_false,cond_false,decide_eq_true (rfl:h=h),Bool.not_true,Bool.and_false,cond_false]
    | true=>
      rw [cond_true,cond_true,i3']
      have hne:cutN h e.s.length≠h:=fun x=>by
        have:=congrArg List.length x
        rw [cutN_len] at this
        (exact ar_rzn0 hle hpos this)
      rw [dne hne,Bool.not_false,Bool.and_true,lless_one at_ne,tx_all.2.1]
theorem std_is (w:List Nat) (one two:Int):std one two w=lnoun w one two:=by
  unfold std lnoun
  dsimp only
  cases h1:sfx (At "a_6") w with
  | none=>
    rw [link_none same6 h1]
    unfold lnoun2
    rw [decide_eq_true rfl,cond_true]
  | some e=>
    obtain ⟨m1,q1,n1,f1⟩:=link_some same6 h1
    rw [q1]
    dsimp only
    rw [cut_is]
    have i6:=List.all_eq_true.mp all6 e m1
    unfold is6 at i6
    simp only [Bool.and_eq_true,decide_eq_true_eq,beq_iff_eq] at i6
    obtain ⟨⟨⟨k1,k2⟩,k3⟩,k4⟩:=i6
    generalize lcut w e.s=h
    unfold lnoun2 stdE
    rw [dne n1,cond_false,k1,← k4]
    obtain ⟨t1,t2,t3,t4,t5⟩:=tx_all
    by_cases h6:e.res=6
    · rw [decide_eq_true h6,cond_true,cond_true,h6]
      cases decide ((h.length:Int) < one) with
      | true=>rfl
      | false=>
        rw [cond_false,cond_false,std6_is]
        rfl
    · rw [decide_eq_false h6,cond_false,cond_false]
      have e2:decide ((h.length:Int) < two)=!decide (two≤(h.length:Int)):=by
        by_cases q:two≤(h.length:Int)
        · rw [decide_eq_true q,decide_eq_false (by (exact ar_nmtx q))];rfl
        · rw [decide_eq_false q,decide_eq_true (by (exact ar_5h1h q))];rfl
      rw [e2]
      cases decide (two≤(h.length:Int)) with
      | false=>rfl
      | true=>
        rw [cond_true,Bool.not_true,cond_false]
        refine congrArg some ?_
        unfold lkind
        rw [lless_one ic_ne,lless_one at_ne,lless_is same4,lless_is same5,t1,t2,t3,t4,t5]
        have hr:e.res=1∨e.res=2∨e.res=3∨e.res=4∨e.res=5∨e.res=7∨e.res=8∨e.res=9:=by (exact ar_92nz k3 k2 h6)
        rcases hr with q | q | q | q | q | q | q | q<;>rw [q]<;>rfl
end Mine

open PySem PySem.W PyProof.Rows PySem.Calls
set_option maxRecDepth 100000
set_option Elab.async false
set_option backward.match.sparseCases false
namespace Mine
theorem lend_nil (ss:List (List Nat)):lend [] ss=[]:=by
  have:=lend_len [] ss
  exact List.eq_nil_of_length_eq_zero (Nat.le_zero.mp this)
theorem len_lt {w:List Nat} {first:Int} (h:(w.length:Int) < first):w.drop first.toNat=[]:=List.drop_eq_nil_of_le (by (exact ar_408x h))
theorem tail1 {w s:List Nat} {c:Nat} (hc:c=w.length - s.length) {x:Nat}:(w[c - 1]?=some x∧0 < c)↔slc (lcut w s) (some (-1)) none=[x]:=by
  have hl:=lcut_len w s
  rw [last1,hl,← hc]
  constructor
  · rintro ⟨a,b⟩
    refine ⟨?_,b⟩
    unfold lcut
    rw [← hc,get_take (by (exact ar_zqw4 b))];exact a
  · rintro ⟨a,b⟩
    refine ⟨?_,b⟩
    unfold lcut at a
    rw [← hc,get_take (by (exact ar_zqw4 b))] at a;exact a
theorem tail2 {w s:List Nat} {c:Nat} (hc:c=w.length - s.length) {x y:Nat}:(w[c - 1]?=some y∧0 < c∧w[c - 2]?=some x∧1 < c)↔slc (lcut w s) (some (-2)) none=[x,y]:=by
  have hl:=lcut_len w s
  rw [last2,hl,← hc]
  constructor
  · rintro ⟨a,_,b,d⟩
    unfold lcut
    rw [← hc,get_take (by (exact ar_k804 d)),get_take (by (exact ar_scwq d))];exact ⟨a,b,d⟩
  · rintro ⟨a,b,d⟩
    unfold lcut at a b
    rw [← hc,get_take (by (first | exact ar_k804 d | exact ar_scwq d))] at a b;exact ⟨a,by (exact ar_dxm6 d),b,d⟩
theorem cut_one {w s:List Nat} {c:Nat} (hc:c=w.length - s.length):slc (lcut w s) none (some (-1))=w.take (c - 1):=by
  rw [slc_cut1,lcut_len,← hc]
  unfold lcut
  rw [← hc,List.take_take,Nat.min_eq_left (by (exact ar_oncm))]
theorem take_cut {w s:List Nat} {c:Nat} (hc:c=w.length - s.length):w.take c=lcut w s:=by unfold lcut;rw [hc]
theorem vb_is (w:List Nat) (first:Int):(match vb first w with | some x=>x | none=>w)=lverbB w first:=by
  unfold vb lverbB
  dsimp only
  by_cases hl:(w.length:Int) < first
  · rw [decide_eq_true hl,cond_true,len_lt hl,lend_nil,lcut_nil]
    unfold lverb2
    have:gusL.contains ([]:List Nat)=false:=by decide
    rw [this,Bool.false_and,cond_false]
  · rw [decide_eq_false hl,cond_false]
    cases h1:sfx (At "a_8") (w.drop first.toNat) with
    | none=>
      rw [link_none same8 h1,lcut_nil]
      unfold lverb2
      have:gusL.contains ([]:List Nat)=false:=by decide
      rw [this,Bool.false_and,cond_false]
    | some e=>
      obtain ⟨m1,q1,n1,f1⟩:=link_some same8 h1
      rw [q1]
      dsimp only
      have i8:=beq_iff_eq.mp (List.all_eq_true.mp all8 e m1)
      unfold lverb2
      rw [i8]
      generalize hc:w.length - e.s.length=c
      have hc':=hc.symm
      cases gusL.contains e.s with
      | false=>rw [cond_false,Bool.false_and,cond_false,take_cut hc']
      | true=>
        rw [cond_true,Bool.true_and,decide_eq_decide.mpr (tail2 hc'),cut_one hc',take_cut hc']
        rfl
theorem verb_is (w:List Nat) (first:Int):(match yv first w with | some x=>x | none=>match vb first w with | some x=>x | none=>w)=lverb w first:=by
  have hB:=vb_is w first
  unfold lverb yv
  dsimp only
  by_cases hl:(w.length:Int) < first
  · rw [decide_eq_true hl,cond_true,len_lt hl,lend_nil,decide_eq_true rfl,Bool.not_true,Bool.false_and,cond_false]
    exact hB
  · rw [decide_eq_false hl,cond_false]
    cases h1:sfx (At "a_7") (w.drop first.toNat) with
    | none=>
      rw [link_none same7 h1,decide_eq_true rfl,Bool.not_true,Bool.false_and,cond_false]
      exact hB
    | some e=>
      obtain ⟨m1,q1,n1,f1⟩:=link_some same7 h1
      rw [q1,dne n1,Bool.not_false,Bool.true_and]
      dsimp only
      generalize hc:w.length - e.s.length=c
      have hc':=hc.symm
      rw [decide_eq_decide.mpr (tail1 hc'),take_cut hc']
      show (match (bif decide (slc (lcut w e.s) (some (-1)) none=txU) then some (lcut w e.s) else none) with | some x=>x | none=>match vb first w with | some x=>x | none=>w)=_
      cases decide (slc (lcut w e.s) (some (-1)) none=txU) with
      | true=>rw [cond_true,cond_true]
      | false=>rw [cond_false,cond_false];exact hB
theorem res_is (w:List Nat) (first:Int):res first w=llast first w:=by
  unfold res llast
  dsimp only
  cases h1:sfx (At "a_9") w with
  | none=>rw [link_none same9 h1,decide_eq_true rfl,Bool.not_true,Bool.false_and,cond_false]
  | some e=>
    obtain ⟨m1,q1,n1,f1⟩:=link_some same9 h1
    rw [q1,dne n1,Bool.not_false,Bool.true_and]
    dsimp only
    have i9:=beq_iff_eq.mp (List.all_eq_true.mp all9 e m1)
    have hl:=lcut_len w e.s
    generalize hc:w.length - e.s.length=c at hl ⊢
    have hc':=hc.symm
    rw [hl]
    cases decide (first≤(c:Int)) with
    | false=>rfl
    | true=>
      rw [cond_true,cond_true,i9]
      unfold llast2
      cases aeL.contains e.s with
      | false=>rw [Bool.not_false,cond_true,Bool.false_and,cond_false,take_cut hc']
      | true=>
        rw [Bool.not_true,cond_false,Bool.true_and,cut_one hc',take_cut hc',hl]
        have hp:(w[c - 1]?=some 117∧0 < c∧w[c - 2]?=some 103∧1 < c∧first≤(c:Int) - 1)↔(slc (lcut w e.s) (some (-2)) none=txGu∧first < (c:Int)):=by
          have t2:=tail2 (x:=103) (y:=117) hc'
          constructor
          · rintro ⟨a,b,d,f,g⟩
            exact ⟨t2.mp ⟨a,b,d,f⟩,by (exact ar_21my g)⟩
          · rintro ⟨a,b⟩
            obtain ⟨x,y,z,v⟩:=t2.mpr a
            exact ⟨x,y,z,v,by (exact ar_3sqi b)⟩
        rw [decide_eq_decide.mpr hp,Bool.decide_and]
theorem unac_is (c:Nat):sub1 250 117 (sub1 243 111 (sub1 237 105 (sub1 233 101 (sub1 225 97 c))))=unac c:=by
  unfold sub1 unac
  by_cases h1:c=225
  · subst h1;rfl
  · rw [if_neg h1,if_neg h1]
    by_cases h2:c=233
    · subst h2;rfl
    · rw [if_neg h2,if_neg h2]
      by_cases h3:c=237
      · subst h3;rfl
      · rw [if_neg h3,if_neg h3]
        by_cases h4:c=243
        · subst h4;rfl
        · rw [if_neg h4,if_neg h4]
theorem lsub_is (w:List Nat):lsub w=w.map unac:=by
  unfold lsub
  rw [List.map_map,List.map_map,List.map_map,List.map_map]
  exact List.map_congr_left fun c _=>unac_is c
theorem stem_is (w:List Nat):stemP w=lstem w:=by
  unfold stemP lstem
  rw [lsub_is,first_is,reg1_is,reg2_is,att_is,res_is]
  generalize lfirst w=first
  generalize lbehind w (lbehind w 0)=two
  generalize lbehind w 0=one
  generalize lpron w first=x
  have hm:stem2 first one two x=lmid first one two x:=by
    have hv:=verb_is x first
    unfold stem2 lmid
    rw [std_is]
    cases lnoun x one two with
    | some x=>rfl
    | none=>exact hv
  rw [hm]
theorem okC_of {a b:List Nat} (h:okC b=true) (hs:∀ c∈a,c∈b):okC a=true:=by
  unfold okC at *
  rw [List.all_eq_true] at *
  exact fun c hc=>h c (hs c hc)
theorem okC_slc {a:List Nat} {lo hi:Option Int} (h:okC a=true):okC (slc a lo hi)=true:=okC_of h fun c hc=>by
  unfold slc at hc
  exact List.mem_of_mem_take (List.mem_of_mem_drop hc)
theorem okC_cut {a e:List Nat} (h:okC a=true):okC (lcut a e)=true:=okC_of h fun c hc=>List.mem_of_mem_take hc
theorem okC_cond {b:Bool} {x y:List Nat} (hx:okC x=true) (hy:okC y=true):okC (bif b then x else y)=true:=by cases b<;>assumption
theorem okC_less {a:List Nat} {ss:List (List Nat)} {low:Int} (h:okC a=true):okC (lless a ss low)=true:=okC_cond (okC_cut h) h
theorem pla_ok:(plaD.all fun p=>match p.2 with | .str l=>okC l | _=>false)=true:=by decide +kernel
theorem plaL_ok {v x:List Nat} (h:plaL v=some x):okC x=true:=by
  unfold plaL at h
  split at h
  · rename_i y q
    cases h
    have:=List.all_eq_true.mp pla_ok _ (lk_mem q)
    exact this
  · cases h
theorem lpron_ok {w:List Nat} {first:Int} (h:okC w=true):okC (lpron w first)=true:=by
  unfold lpron lpron4
  dsimp only
  refine okC_cond h (okC_cond h (okC_cond h ?_))
  cases q:plaL (lend (lcut w (lend w proL)) befL) with
  | some x=>exact okC_app (okC_cut (okC_cut h)) (plaL_ok q)
  | none=>exact okC_cond (okC_cond h (okC_cut h)) (okC_cut h)
theorem lkind_ok {kd two:Int} {h:List Nat} (hh:okC h=true):okC (lkind kd two h)=true:=by
  unfold lkind lkind6
  have L:∀ ss,okC (lless h ss two)=true:=fun ss=>okC_less hh
  exact okC_cond (L _) (okC_cond (okC_app hh (by decide)) (okC_cond (okC_app hh (by decide)) (okC_cond (okC_app hh (by decide)) (okC_cond (okC_cond (okC_less (L _)) (L _)) (okC_cond (L _) (okC_cond (L _) (okC_cond (L _) hh)))))))
theorem lverb_ok {w:List Nat} {first:Int} (h:okC w=true):okC (lverb w first)=true:=by
  unfold lverb lverbB lverb2
  exact okC_cond (okC_cut h) (okC_cond (okC_slc (okC_cut h)) (okC_cut h))
theorem lmid_ok {first one two:Int} {w:List Nat} (h:okC w=true):okC (lmid first one two w)=true:=by
  unfold lmid
  cases q:lnoun w one two with
  | none=>exact lverb_ok h
  | some x=>
    unfold lnoun lnoun2 at q
    dsimp only at q
    cases q1:decide (lend w nouL=[]) with
    | true=>rw [q1,cond_true] at q;cases q
    | false=>
      rw [q1,cond_false] at q
      cases q2:(bif decide (lend w nouL=txAm) then decide (((lcut w (lend w nouL)).length:Int) < one) else decide (((lcut w (lend w nouL)).length:Int) < two)) with
      | true=>rw [q2,cond_true] at q;cases q
      | false=>
        rw [q2,cond_false] at q
        show okC x=true
        rw [← Option.some.inj q]
        exact lkind_ok (okC_cut h)
theorem lsub_ok {w:List Nat} (h:okC w=true):okC (lsub w)=true:=by
  rw [lsub_is]
  unfold okC at *
  rw [List.all_eq_true] at *
  intro c hc
  obtain ⟨x,hx,rfl⟩:=List.mem_map.mp hc
  have:=of_decide_eq_true (h x hx)
  refine decide_eq_true ?_
  unfold unac
  repeat' split
  all_goals first | decide | exact this
theorem lstem_ok {w:List Nat} (h:okC w=true):okC (lstem w)=true:=by
  unfold lstem llast llast2
  exact lsub_ok (okC_cond (okC_cond (okC_slc (okC_cut (lmid_ok (lpron_ok h)))) (okC_cut (lmid_ok (lpron_ok h)))) (lmid_ok (lpron_ok h)))
theorem plain2:PlainLaw:=⟨fun w _=>stem_is w,fun _ h=>lstem_ok h⟩
end Mine

theorem PySem.Challenge.cw_ai0038_02_holds : PySem.Challenge.rw_ai0038_02.Holds := by
  exact Mine.law2 Mine.plain2
