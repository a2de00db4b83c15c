import PyProof.Rows.All
import Lean
import Wide.All
import OpenK.AllK
import Wide.FinOn
import PySem.Challenge.RW_wz0005_01
open PySem PySem.W PyProof.Rows
set_option Elab.async false
set_option maxRecDepth 100000
set_option maxHeartbeats 8000000
open List (append_assoc mem_of_getElem? mem_singleton length_append mem_cons_self length_take mem_cons mem_map getElem?_eq_getElem size_toArray mem_cons_of_mem length_cons map_cons take_add_one take_length foldl_cons mem_append take_append_drop pairwise_append length_map flatMap_cons nodup_cons length_drop not_mem_nil foldl_append append_nil mem_filter mem_flatMap getElem?_append_right take_of_length_le length_nil length_reverse mem_append_left drop_eq_getElem_cons getElem?_append_left getElem?_map any_eq_true mem_of_mem_take perm_append_comm filter_cons map_map pairwise_singleton mem_append_right length_filter_le drop_eq_nil_of_le getD_eq_getElem?_getD drop_zero getElem?_take pairwise_reverse reverse_perm take_take getElem?_cons_succ find?_cons_of_neg mem_of_mem_drop nil_append not_lt flatMap_assoc mem_iff_getElem? nil_sublist cons_append map_congr_left length_range drop_drop drop_sublist getElem_mem mem_reverse take_left take_append_of_le_length map_flatMap mem_iff_getElem getElem?_drop sublist_cons_self lt_asymm drop_left filter_eq_nil_iff all_eq_true getElem?_cons_zero nodup_nil filterMap_map find?_cons_of_pos filter_eq_self map_id' getElem?_toArray flatMap_map exists_mem_of_ne_nil mem_range map_nil of_mem_zip mem_of_find?_eq_some find?_eq_none filterMap_cons range_succ forIn_nil flatMap_append take_zero pairwise_cons flatten_cons cons_lt_cons_iff length_singleton filter_append flatMap_eq_nil_iff cons_ne_nil ne_nil_of_mem find?_cons ext_getElem? filterMap_append getElem?_reverse map_id forIn_cons find?_some extract_eq_take_drop take_succ_cons drop_length pairwise_iff_getElem drop_append_of_le_length length_eq_zero_iff perm_middle take_append flatten_append count_append count_replicate flatMap_nil filter_flatMap filter_map)
noncomputable section
namespace Mine
abbrev NE:=Nat.Internal.Linear.Expr
abbrev IE:=Int.Internal.Linear.Expr
noncomputable def rl:Nat→List Nat→Nat.Internal.Linear.Context
 | _,[]=>.leaf 0
 | k,a::l=>.branch (k+1) (.leaf a) (rl (k+1) l)
noncomputable def arT (c:Nat.Internal.Linear.Context)(g:Prop)(t:List (Nat×NE×NE)):Prop:=t.rec g fun p _ q=>p.2.1.denote c≤p.2.2.denote c→q
noncomputable def arV (k:Nat)(A B:NE):List (Nat×NE×NE)→NE→NE→Bool
 | [],L,R=>(Nat.Internal.Linear.ExprCnstr.toNormPoly ⟨false,.add (.add R (.mulL k A)) (.num 1),.add (.add L (.mulL k B)) (.num k)⟩).isValid
 | (n,l,r)::t,L,R=>arV k A B t (.add (.mulL n l) L) (.add (.mulL n r) R)
theorem ar_aux (c:Nat.Internal.Linear.Context)(k:Nat)(A B:NE)(t:List (Nat×NE×NE)):∀(L R:NE),L.denote c≤R.denote c→
  arV k A B t L R=true→arT c (A.denote c≤B.denote c) t:=by
 induction t with
 | nil=>
  intro L R h e
  have h3:R.denote c+k*A.denote c+1≤L.denote c+k*B.denote c+k:=of_eq_true (Nat.Internal.Linear.ExprCnstr.eq_true_of_isValid c _ e)
  refine Nat.le_of_not_lt fun hn=>?_
  have h4:k*(B.denote c+1)≤k*A.denote c:=Nat.mul_le_mul_left k hn
  rw [Nat.mul_succ] at h4
  have h5:=Nat.le_trans h3 (Nat.le_trans (Nat.le_of_eq (Nat.add_assoc ..)) (Nat.add_le_add h h4))
  exact Nat.lt_irrefl _ h5
 | cons p t ih=>exact fun L R h e hl=>ih (.add (.mulL p.1 p.2.1) L) (.add (.mulL p.1 p.2.2) R) (Nat.add_le_add (Nat.mul_le_mul_left p.1 hl) h) e
theorem lq (xs:List Nat)(t:List (Nat×NE×NE))(k:Nat)(A B:NE)
  (e:arV k A B t (.num 0) (.num 0)=true):arT (rl 0 xs) (A.denote (rl 0 xs)≤B.denote (rl 0 xs)) t:=
 ar_aux _ k A B t (.num 0) (.num 0) (Nat.le_refl 0) e
noncomputable def arP (c:Nat.Internal.Linear.Context)(g:Prop)(t:List (NE×NE)):Prop:=t.rec g fun p _ q=>p.1.denote c≤p.2.denote c→q
theorem arM (c:Nat.Internal.Linear.Context)(g:Prop)(t:List (NE×NE)):arT c g (t.map fun p=>(1,p))→arP c g t:=by
 induction t with
 | nil=>exact id
 | cons p t ih=>exact fun h x=>ih (h x)
theorem lp (xs:List Nat)(t:List (NE×NE))(A B:NE)(e:arV 1 A B (t.map fun p=>(1,p)) (.num 0) (.num 0)=true):arP (rl 0 xs) (A.denote (rl 0 xs)≤B.denote (rl 0 xs)) t:=arM _ _ _ (lq xs _ 1 A B e)
theorem nT {a b c:Nat}(h:a≤b)(k:b≤c):a≤c:=Nat.le_trans h k
theorem nA {a b:Nat}(h:a≤b)(k:b≤a):a=b:=Nat.le_antisymm h k
theorem nN {a b:Nat}(h:¬a<b):b≤a:=Nat.le_of_not_lt h
theorem nG {a b:Nat}(h:¬a≤b):b<a:=Nat.gt_of_not_le h
theorem nE {a b:Nat}(h:a≤b)(k:a≠b):a<b:=Nat.lt_of_le_of_ne h k
theorem nP {a:Nat}(h:a≠0):0<a:=Nat.pos_of_ne_zero h
theorem nZ (h:1≤0):False:=Nat.not_succ_le_zero 0 h
theorem iT {a b:Int}(h:a≤b)(k:b≤a):a=b:=Int.le_antisymm h k
abbrev su (x:NE):NE:=.add x (.num 1)
abbrev zA:NE:=.var 0
abbrev zB:NE:=.var 1
abbrev zC:NE:=.var 2
abbrev zD:NE:=.var 3
abbrev zE:NE:=.var 4
abbrev zF:NE:=.var 5
abbrev zG:NE:=.var 6
theorem eqL {a b:Nat}(h:a=b):a≤b:=Nat.le_of_eq h
theorem eqR {a b:Nat}(h:a=b):b≤a:=Nat.le_of_eq h.symm
theorem sbA (x y:Nat):x≤x - y+y:=(Nat.le_total y x).elim (fun h=>Nat.le_of_eq (Nat.sub_add_cancel h).symm) (fun h=>Nat.le_trans h (Nat.le_add_left ..))
theorem sbB (x y:Nat)(h:y≤x):x - y+y≤x:=Nat.le_of_eq (Nat.sub_add_cancel h)
theorem sbC (x y:Nat)(h:x≤y):x - y≤0:=Nat.le_of_eq (Nat.sub_eq_zero_of_le h)
theorem dvA (x k:Nat):k*(x / k)≤x:=Nat.mul_div_le x k
theorem dvB (x k:Nat):x+1≤(k+1)*(x / (k+1))+(k+1):=Nat.lt_mul_div_succ x (Nat.zero_lt_succ k)
theorem mdA (x k:Nat):x % (k+1)+1≤k+1:=Nat.mod_lt x (Nat.zero_lt_succ k)
theorem mdC (x k:Nat):x≤k*(x / k)+x % k:=Nat.le_of_eq (Nat.div_add_mod x k).symm
noncomputable def rz:Nat→List Int→Int.Internal.Linear.Context
 | _,[]=>.leaf 0
 | k,a::l=>.branch (k+1) (.leaf a) (rz (k+1) l)
noncomputable def azT (c:Int.Internal.Linear.Context)(g:Prop)(t:List (Int×IE×IE)):Prop:=t.rec g fun p _ q=>p.2.1.denote c≤p.2.2.denote c→q
noncomputable def azV (k:Int)(A B:IE):List (Int×IE×IE)→IE→IE→Bool
 | [],L,R=>decide (0≤k)&&(Int.Internal.Linear.Expr.sub (.add (.add R (.mulL k A)) (.num 1)) (.add (.add L (.mulL k B)) (.num k))).norm.isValidLe
 | (n,l,r)::t,L,R=>decide (0≤n)&&azV k A B t (.add (.mulL n l) L) (.add (.mulL n r) R)
theorem az_aux (c:Int.Internal.Linear.Context)(k:Int)(A B:IE)(t:List (Int×IE×IE)):∀(L R:IE),L.denote c≤R.denote c→
  azV k A B t L R=true→azT c (A.denote c≤B.denote c) t:=by
 induction t with
 | nil=>
  intro L R h e
  obtain⟨hk,e⟩:=(Bool.and_eq_true _ _).mp e
  have h3:R.denote c+k*A.denote c+1≤L.denote c+k*B.denote c+k:=of_eq_true (Int.Internal.Linear.le_eq_true c _ _ e)
  refine Int.not_lt.1 fun hn=>?_
  have h4:k*(B.denote c+1)≤k*A.denote c:=Int.mul_le_mul_of_nonneg_left hn (of_decide_eq_true hk)
  rw [Int.mul_add,Int.mul_one] at h4
  have h5:=Int.le_trans h3 (Int.le_trans (Int.le_of_eq (Int.add_assoc ..)) (Int.add_le_add h h4))
  exact Int.lt_irrefl _ h5
 | cons p t ih=>
  intro L R h e hl
  obtain⟨hk,e⟩:=(Bool.and_eq_true _ _).mp e
  exact ih (.add (.mulL p.1 p.2.1) L) (.add (.mulL p.1 p.2.2) R) (Int.add_le_add (Int.mul_le_mul_of_nonneg_left hl (of_decide_eq_true hk)) h) e
theorem lz (xs:List Int)(t:List (Int×IE×IE))(k:Int)(A B:IE)
  (e:azV k A B t (.num 0) (.num 0)=true):azT (rz 0 xs) (A.denote (rz 0 xs)≤B.denote (rz 0 xs)) t:=
 az_aux _ k A B t (.num 0) (.num 0) (Int.le_refl 0) e
noncomputable def azP (c:Int.Internal.Linear.Context)(g:Prop)(t:List (IE×IE)):Prop:=t.rec g fun p _ q=>p.1.denote c≤p.2.denote c→q
theorem azM (c:Int.Internal.Linear.Context)(g:Prop)(t:List (IE×IE)):azT c g (t.map fun p=>(1,p))→azP c g t:=by
 induction t with
 | nil=>exact id
 | cons p t ih=>exact fun h x=>ih (h x)
theorem lw (xs:List Int)(t:List (IE×IE))(A B:IE)(e:azV 1 A B (t.map fun p=>(1,p)) (.num 0) (.num 0)=true):azP (rz 0 xs) (A.denote (rz 0 xs)≤B.denote (rz 0 xs)) t:=azM _ _ _ (lz xs _ 1 A B e)
abbrev si (x:IE):IE:=.add x (.num 1)
abbrev iA:IE:=.var 0
abbrev iB:IE:=.var 1
abbrev iC:IE:=.var 2
abbrev iD:IE:=.var 3
abbrev iE:IE:=.var 4
abbrev iF:IE:=.var 5
theorem iqL {a b:Int}(h:a=b):a≤b:=Int.le_of_eq h
theorem iqR {a b:Int}(h:a=b):b≤a:=Int.le_of_eq h.symm
theorem cnL {a b:Nat}(h:a≤b):(a:Int)≤b:=Int.ofNat_le.2 h
theorem cn0 (a:Nat):(0:Int)≤a:=Int.natCast_nonneg a
theorem cnT {a:Int}(h:0≤a):(a.toNat:Int)≤a:=Int.le_of_eq (Int.toNat_of_nonneg h)
theorem cnF (h:(1:Int)≤0):False:=absurd h (by decide)
theorem clampN (n l:Nat)(h:n≤l):max 0 (min (n:Int) l)=n:=by rw [Int.min_eq_left (cnL h),Int.max_eq_right (cn0 _)]
theorem clampM (n l:Nat):max 0 (min (n:Int) l)=(min n l:Nat):=(Nat.le_total n l).elim (fun h=>by rw [clampN n l h,Nat.min_eq_left h]) (fun h=>by rw [Int.min_eq_right (cnL h),Int.max_eq_right (cn0 _),Nat.min_eq_right h])
theorem clampI:∀l:Nat,max 0 (min (-1+(l:Int)) l)=(l - 1:Nat)
 | 0=>by decide
 | l+1=>by rw [Int.natCast_add,Int.add_comm (-1),Int.add_assoc];exact clampN l (l+1) (Nat.le_succ l)
theorem predI (l:Nat)(h:0<l):(-1+(l:Int)).toNat=l - 1:=by
 obtain⟨m,rfl⟩:=Nat.exists_eq_succ_of_ne_zero (Nat.ne_of_gt h);rw [Int.natCast_succ,Int.add_comm (-1),Int.add_assoc];exact Int.toNat_natCast m
theorem seqIn {j:Int}{n:Nat}(h0:0≤j)(h1:j<n):PySem.seqIndex? j n=some j.toNat:=by
 show (if (decide (0≤(if j<0 then j+n else j))&&decide ((if j<0 then j+n else j)<(n:Int)))=true then some (if j<0 then j+n else j).toNat else none)=_
 rw [if_neg (Int.not_lt.2 h0),decide_eq_true h0,decide_eq_true h1];rfl
theorem revI (l n:Nat):((l:Int) - 1+-1*(n:Int)).toNat=l - 1 - n:=by
 rw [Int.neg_mul,Int.one_mul,Int.sub_eq_add_neg,Int.add_assoc,←Int.neg_add,←Int.sub_eq_add_neg,Nat.sub_sub];exact Int.toNat_sub l (1+n)
end Mine
section
variable {prog:Program}{w:World}{A:Around}{E:Value→Shared→Prop}{s:Shared}{h:Heap}{K:Heap}{base:Heap}{tk:Nat}{L:Addr}{f:Addr}{m:Str→Option Value}{led:List (Addr×Obj)}{env:Env}{α:Type}{β:Type}{qn:Str}{cd:Value}
namespace Mine
noncomputable def cut (h:Heap)(p:Addr→Bool):Heap:=⟨h.objs.mapIdx fun i o=>if p i then o else { cls:=.none,data:=.freed },h.life⟩
theorem cut_get (h:Heap)(p:Addr→Bool)(b:Addr):(cut h p).get? b=if p b=true then h.get? b else none:=by
 obtain⟨objs,l⟩:=h
 simp -iota only [cut,Heap.get?,Array.getElem?_mapIdx]
 cases hx:objs[b]? with
 | none=>simp
 | some o=>
  simp -iota only [Option.map_some]
  by_cases hp:p b=true
  ·simp -iota [hp]
  ·simp [hp]
theorem get_lt {h:Heap}{b:Nat}{o:Obj}(e:h.get? b=some o):b<h.objs.size:=Heap.lt_size e
structure Org where
 B:Heap
 K:Heap
structure St (O:Org)(K:Heap)(L:Addr)(m:Str→Option Value)(led:List (Addr×Obj))(h:Heap):Prop where
 keepB:∀b o,O.B.get? b=some o→h.get? b=some o
 fromK:∀b o,O.K.get? b=some o→K.get? b=some o
 org:∀b o,K.get? b=some o→b<O.B.objs.size→O.K.get? b=some o
 stays:∀b o,K.get? b=some o→h.get? b=some o
 ns:h.Ns L m
 hid:K.get? L=none
 low:@LE.le Nat _ O.B.objs.size L
 ledg:∀p∈led,h.get? p.1=some p.2∧p.1≠L∧K.get? p.1=none∧O.B.get? p.1=none
 nodup:(led.map (·.1)).Nodup
abbrev Sub (K K':Heap):Prop:=∀b o,K.get? b=some o→K'.get? b=some o
theorem Sub.refl (K:Heap):Sub K K:=fun _ _ e=>e
theorem Sub.trans {K₁ K₂ K₃:Heap}(x:Sub K₁ K₂)(y:Sub K₂ K₃):Sub K₁ K₃:=fun b o e=>y b o (x b o e)
section
variable {O:Org}{K':Heap}{m':Str→Option Value}{led':List (Addr×Obj)}{h':Heap}
theorem St.sizeB (S:St O K L m led h):O.B.objs.size≤h.objs.size:=nT S.low (Nat.le_of_lt S.ns.lt)
theorem St.move (S:St O K L m led h)(hk:∀b o,b≠L→(K.get? b=some o∨O.B.get? b=some o)→h.get? b=some o→h'.get? b=some o)(hn:h'.Ns L m')
  (hl:∀p∈led',h'.get? p.1=some p.2∧p.1≠L∧K.get? p.1=none∧O.B.get? p.1=none)(hd:(led'.map (·.1)).Nodup):St O K L m' led' h' where
 keepB:=fun b o e=>hk b o (fun q=>by subst q;exact absurd (get_lt e) (Nat.not_lt.mpr S.low)) (.inr e) (S.keepB b o e)
 fromK:=S.fromK
 org:=S.org
 stays:=fun b o e=>hk b o (fun q=>by subst q;rw [S.hid] at e;cases e) (.inl e) (S.stays b o e)
 ns:=hn
 hid:=S.hid
 low:=S.low
 ledg:=hl
 nodup:=hd
theorem St.store (S:St O K L m led h)(hn:h'.Ns L m')(hs:Heap.SameBut L h h'):St O K L m' led h':=
 S.move (fun b _ hb _ e=>(hs.2 b hb).trans e) hn (fun p hp=>⟨(hs.2 _ (S.ledg p hp).2.1).trans (S.ledg p hp).1,(S.ledg p hp).2⟩) S.nodup
theorem St.push (S:St O K L m led h)(o:Obj)(hf:o.isFreed=false:=by rfl):St O K L m ((h.objs.size,o)::led) (h.push o):=
 S.move (fun b x _ _ e=>Heap.get?_push_of_some o e) (S.ns.push o)
  (fun p hp=>by
   rcases mem_cons.mp hp with rfl|hp
   ·refine⟨Heap.get?_push_size _ hf,Nat.ne_of_gt S.ns.lt,?_,?_⟩
    ·cases q:K.get? h.objs.size with
     | none=>rfl
     | some x=>exact absurd (get_lt (S.stays _ _ q)) (Nat.lt_irrefl _)
    ·cases q:O.B.get? h.objs.size with
     | none=>rfl
     | some x=>exact absurd (get_lt (S.keepB _ _ q)) (Nat.lt_irrefl _)
   ·exact⟨Heap.get?_push_of_some o (S.ledg p hp).1,(S.ledg p hp).2⟩)
  (by
   rw [map_cons,nodup_cons]
   refine⟨fun hm=>?_,S.nodup⟩
   obtain⟨p,hp,e⟩:=mem_map.mp hm
   have:=get_lt (S.ledg p hp).1
   rw [e] at this
   exact Nat.lt_irrefl _ this)
theorem St.drop (S:St O K L m led h)(hs:led'.Sublist led):St O K L m led' h:=
 S.move (fun _ _ _ _ e=>e) S.ns (fun p hp=>S.ledg p (hs.subset hp)) ((hs.map _).nodup S.nodup)
theorem St.drop1 {p:Addr×Obj}(S:St O K L m (p::led) h):St O K L m [p] h:=S.drop (by simp -iota)
theorem St.drop12 {p q:Addr×Obj}(S:St O K L m (p::q::led) h):St O K L m (p::led) h:=S.drop (by simp -iota)
theorem St.tail {p:Addr×Obj}(S:St O K L m (p::led) h):St O K L m led h:=S.drop (by simp -iota)
theorem map_fst_set:∀(l:List (Addr×Obj))(i:Nat)(a:Addr)(o o':Obj),l[i]?=some (a,o)→(l.set i (a,o')).map (·.1)=l.map (·.1)
 | [],_,_,_,_,e=>by simp -iota at e
 | p::l,0,a,o,o',e=>by
  simp -iota only [getElem?_cons_zero,Option.some.injEq] at e
  subst e;rfl
 | p::l,i+1,a,o,o',e=>by
  simp -iota only [getElem?_cons_succ] at e
  simp -iota only [List.set_cons_succ,map_cons]
  rw [map_fst_set l i a o o' e]
theorem nodup_get_inj {l:List (Addr×Obj)}(hd:(l.map (·.1)).Nodup){i j:Nat}{a:Addr}{o o':Obj}(hi:l[i]?=some (a,o))(hj:l[j]?=some (a,o')):i=j:=by
 have hi':(l.map (·.1))[i]?=some a:=by rw [getElem?_map,hi];rfl
 have hj':(l.map (·.1))[j]?=some a:=by rw [getElem?_map,hj];rfl
 exact (List.getElem?_inj (List.getElem?_eq_some_iff.mp hi').1 hd).mp (hi'.trans hj'.symm)
theorem St.turn (S:St O K L m led h){a:Addr}{o o':Obj}(i:Nat)(hi:led[i]?=some (a,o))(hs:Heap.SameBut a h h')(ho:h'.get? a=some o'):St O K L m (led.set i (a,o')) h':=by
 have ha:=S.ledg _ (mem_of_getElem? hi)
 refine S.move (fun b x hb hx e=>(hs.2 b fun q=>?_).trans e) (S.ns.sameBut hs (Ne.symm ha.2.1)) (fun p hp=>?_) (by rw [map_fst_set led i a o o' hi];exact S.nodup)
 ·subst q
  rcases hx with hx|hx
  ·rw [ha.2.2.1] at hx;cases hx
  ·rw [ha.2.2.2] at hx;cases hx
 ·obtain⟨j,hj⟩:=mem_iff_getElem?.mp hp
  rw [List.getElem?_set] at hj
  by_cases hij:i=j
  ·subst hij
   rw [if_pos rfl] at hj
   split at hj
   ·cases hj;exact⟨ho,ha.2⟩
   ·cases hj
  ·rw [if_neg hij] at hj
   have P:=S.ledg p (mem_of_getElem? hj)
   refine⟨(hs.2 _ fun q=>hij ?_).trans P.1,P.2⟩
   have:led[j]?=some (a,p.2):=by rw [hj,←q]
   exact nodup_get_inj S.nodup hi this
theorem St.update (S:St O K L m led h){a:Addr}{o:Obj}(f:Obj→Obj)(i:Nat)(hi:led[i]?=some (a,o))(hf:(f o).isFreed=false):St O K L m (led.set i (a,f o)) (h.update a f):=
 S.turn i hi (Heap.SameBut.update ..) (Heap.get?_update_self _ (S.ledg _ (mem_of_getElem? hi)).1 hf)
theorem St.at (S:St O K L m led h){a:Addr}{o:Obj}(i:Nat)(hi:led[i]?=some (a,o)):h.get? a=some o:=(S.ledg _ (mem_of_getElem? hi)).1
theorem St.freeze (S:St O K L m led h)(led':List (Addr×Obj))(hs:led'.Sublist led) :
  ∃K',Sub K K'∧St O K' L m led' h∧(∀b o,h.get? b=some o→O.B.objs.size≤b→b≠L→b∉led'.map (·.1)→K'.get? b=some o):=by
 let p:Addr→Bool:=fun b=>(K.get? b).isSome||(decide (O.B.objs.size≤b)&&decide (b≠L)&&!(led'.map (·.1)).contains b)
 have hp:∀b,(cut h p).get? b=if p b=true then h.get? b else none:=cut_get h p
 have hout:∀b,b=L∨b∈led'.map (·.1)→(cut h p).get? b=none:=by
  intro b hb
  have hKn:K.get? b=none:=by
   rcases hb with rfl|hb
   ·exact S.hid
   ·obtain⟨q,hq,rfl⟩:=mem_map.mp hb
    exact (S.ledg q (hs.subset hq)).2.2.1
  rw [hp,if_neg]
  rcases hb with rfl|hb
  ·simp -iota [p,hKn]
  ·simp -iota [p,hKn]
   intro _ _
   obtain⟨q,hq,rfl⟩:=mem_map.mp hb
   exact⟨q.2,hq⟩
 refine⟨cut h p,fun b o e=>?_,⟨S.keepB,fun b o e=>?_,fun b o e hb=>?_,fun b o e=>?_,S.ns,hout L (.inl rfl),S.low,fun q hq=>?_,(hs.map _).nodup S.nodup⟩,fun b o e h1 h2 h3=>?_⟩
 ·rw [hp,if_pos (by simp -iota [p,e])];exact S.stays b o e
 ·have e':=S.fromK b o e
  rw [hp,if_pos (by simp -iota [p,e'])];exact S.stays b o e'
 ·rw [hp] at e
  split at e
  ·rename_i hpb
   have:(K.get? b).isSome=true:=by
    simp -iota only [p,Bool.or_eq_true,Bool.and_eq_true,decide_eq_true_eq] at hpb
    rcases hpb with h1|h1
    ·exact h1
    ·exact absurd h1.1.1 (Nat.not_le.mpr hb)
   obtain⟨x,hx⟩:=Option.isSome_iff_exists.mp this
   have:=S.stays b x hx
   rw [this] at e;cases e
   exact S.org b _ hx hb
  ·cases e
 ·rw [hp] at e
  split at e
  ·exact e
  ·cases e
 ·exact⟨(S.ledg q (hs.subset hq)).1,(S.ledg q (hs.subset hq)).2.1,hout _ (.inr (List.mem_map_of_mem hq)),(S.ledg q (hs.subset hq)).2.2.2⟩
 ·rw [hp,if_pos]
  ·exact e
  ·simp -iota only [p,Bool.or_eq_true,Bool.and_eq_true,decide_eq_true_eq]
   refine .inr ⟨⟨h1,h2⟩,?_⟩
   cases hc:(led'.map (·.1)).contains b with
   | false=>rfl
   | true=>exact absurd (List.contains_iff_mem.mp hc) h3
end
structure Grow (K h K' h':Heap):Prop where
 kk:Sub K K'
 kh:Sub K' h'
 org:∀b o,K'.get? b=some o→b<h.objs.size→K.get? b=some o
 keep:Sub h h'
 size:h.objs.size≤h'.objs.size
section
variable {O:Org}{K':Heap}{m':Str→Option Value}{led':List (Addr×Obj)}{h':Heap}
theorem St.grow (S:St O K L m led h)(g:Grow K h K' h'):St O K' L m led h' where
 keepB:=fun b o e=>g.keep b o (S.keepB b o e)
 fromK:=fun b o e=>g.kk b o (S.fromK b o e)
 org:=fun b o e hb=>S.org b o (g.org b o e (Nat.lt_of_lt_of_le hb S.sizeB)) hb
 stays:=g.kh
 ns:=S.ns.keeps g.keep
 hid:=by
  cases q:K'.get? L with
  | none=>rfl
  | some o=>have:=g.org L o q S.ns.lt;rw [S.hid] at this;cases this
 low:=S.low
 ledg:=fun p hp=>⟨g.keep _ _ (S.ledg p hp).1,(S.ledg p hp).2.1,(by
  cases q:K'.get? p.1 with
  | none=>rfl
  | some o=>
   have:=g.org _ o q (get_lt (S.ledg p hp).1)
   rw [(S.ledg p hp).2.2.1] at this
   cases this),(S.ledg p hp).2.2.2⟩
 nodup:=S.nodup
theorem St.toGrow {B₀ K₀:Heap}(S:St ⟨B₀,K₀⟩ K L m led h):Grow K₀ B₀ K h:=⟨S.fromK,S.stays,S.org,S.keepB,S.sizeB⟩
theorem St.enter {h₀:Heap}(hs:Sub K h)(hn:h₀.Ns h.objs.size m)(hk:Sub h h₀):St ⟨h,K⟩ K h.objs.size m [] h₀ where
 keepB:=hk
 fromK:=Sub.refl _
 org:=fun _ _ e _=>e
 stays:=hs.trans hk
 ns:=hn
 hid:=by
  cases q:K.get? h.objs.size with
  | none=>rfl
  | some o=>exact absurd (get_lt (hs _ _ q)) (Nat.lt_irrefl _)
 low:=Nat.le_refl _
 ledg:=fun _ hp=>nomatch hp
 nodup:=nodup_nil
end
noncomputable def loc:List Str→List (Option Value)→Str→Option Value
 | n::ns,v::vs,y=>if y=n then v else loc ns vs y
 | _,_,_=>none
theorem loc_get:∀{ns:List Str}{vs:List (Option Value)}(i:Nat){x:Str}{v:Option Value},ns[i]?=some x→ns.Nodup→vs[i]?=some v→loc ns vs x=v
 | [],_,_,_,_,h,_,_=>by simp -iota at h
 | _::_,[],_,_,_,_,_,h=>by simp -iota at h
 | n::ns,v::vs,0,x,w,h1,_,h2=>by
  simp -iota only [getElem?_cons_zero,Option.some.injEq] at h1 h2
  subst h1 h2;simp -iota [loc]
 | n::ns,v::vs,i+1,x,w,h1,hd,h2=>by
  simp -iota only [getElem?_cons_succ] at h1 h2
  rw [nodup_cons] at hd
  have:x≠n:=fun e=>hd.1 (e▸mem_of_getElem? h1)
  rw [loc,if_neg this]
  exact loc_get i h1 hd.2 h2
theorem loc_set:∀{ns:List Str}{vs:List (Option Value)}(i:Nat){x:Str}{v:Value},ns[i]?=some x→ns.Nodup→i<vs.length→
  (fun y=>if y=x then some v else loc ns vs y)=loc ns (vs.set i (some v))
 | [],_,_,_,_,h,_,_=>by simp -iota at h
 | _::_,[],_,_,_,_,_,h=>by simp -iota at h
 | n::ns,v::vs,0,x,w,h1,_,h2=>by
  simp -iota only [getElem?_cons_zero,Option.some.injEq] at h1
  subst h1
  funext y
  by_cases hy:y=n <;> simp -iota [loc,hy]
 | n::ns,v::vs,i+1,x,w,h1,hd,h2=>by
  simp -iota only [getElem?_cons_succ] at h1
  rw [nodup_cons] at hd
  have hx:x≠n:=fun e=>hd.1 (e▸mem_of_getElem? h1)
  have ih:=loc_set (vs:=vs) (v:=w) i h1 hd.2 (by simpa -iota using h2)
  funext y
  have ihy:=congrFun ih y
  simp -iota only [List.set_cons_succ,loc]
  by_cases hy:y=n
  ·subst hy
   simp -iota [Ne.symm hx]
  ·simp -iota only [if_neg hy]
   exact ihy
theorem loc_set2 {ns:List Str}{vs:List (Option Value)}(i j:Nat){x y:Str}{v u:Value}(hx:ns[i]?=some x)(hy:ns[j]?=some y)(hd:ns.Nodup)(hi:i<vs.length)(hj:j<vs.length) :
  (fun z=>if z=y then some u else if z=x then some v else loc ns vs z)=loc ns ((vs.set i (some v)).set j (some u)):=by
 have e:=loc_set (vs:=vs) (v:=v) i hx hd hi
 have e2:=loc_set (vs:=vs.set i (some v)) (v:=u) j hy hd (by simpa -iota using hj)
 rw [←e2]
 funext z
 rw [←congrFun e z]
theorem loc_none:∀{ns:List Str}{vs:List (Option Value)}{x:Str},x∉ns→loc ns vs x=none
 | [],_,_,_=>rfl
 | _::_,[],_,_=>rfl
 | n::ns,v::vs,x,h=>by
  rw [mem_cons,not_or] at h
  rw [loc,if_neg h.1];exact loc_none h.2
abbrev sh (s:Shared)(h:Heap)(tk:Nat):Shared:={ s with heap:=h,toks:=tk }
abbrev en (q:Str)(sc:Scope)(L a:Addr)(cd:Value)(cl:List (Str×Addr)):Env:=
 { scope:=sc,locals:=L,globals:=mainGlobals,cells:=cl,qual:=q ++ ".<locals>.",func:=some a,code:=cd,frame:=some L,builtins:=builtinsNs }
section
variable {M:Model}{O:Org}{ns:List Str}{vs:List (Option Value)}
theorem lt_of_isSome {α:Type}{l:List α}{i:Nat}(h:(l[i]?).isSome=true):i<l.length:=by
 obtain⟨x,hx⟩:=Option.isSome_iff_exists.mp h
 exact (List.getElem?_eq_some_iff.mp hx).1
theorem ld (S:St O K env.locals (loc ns vs) led h)(i:Nat)(hd:ns.Nodup){x:Str}{pos:Pos}{v:Value}{Q:Value→Shared→Prop}(k:Q v (sh s h tk))
  (hx:ns[i]?=some x:=by rfl)(hv:vs[i]?=some (some v):=by rfl)
  (hl:env.kindOf x=some .local:=by rfl)(hk:env.scope.kind = .function:=by rfl)(hdb:(x == ("__debug__" : Str))=false:=by rfl) :
  wpAny M A (eval (.Name x pos) env) Q E (sh s h tk):=
 wpAny_Name (wpAny_loadName_local hk hl S.ns (loc_get i hx hd hv) k) hdb
theorem ldn (S:St O K env.locals (loc ns vs) led h)(i:Nat)(hd:ns.Nodup){x:Str}{v:Value}{Q:Value→Shared→Prop}(k:Q v (sh s h tk))
  (hx:ns[i]?=some x:=by rfl)(hv:vs[i]?=some (some v):=by rfl)
  (hl:env.kindOf x=some .local:=by rfl)(hk:env.scope.kind = .function:=by rfl) :
  wpAny M A (loadName env x) Q E (sh s h tk):=
 wpAny_loadName_local hk hl S.ns (loc_get i hx hd hv) k
theorem stn (S:St O K env.locals (loc ns vs) led h)(i:Nat)(hd:ns.Nodup){x:Str}{v:Value}{Q:Unit→Shared→Prop}
  (k:∀h' tk',St O K env.locals (loc ns (vs.set i (some v))) led h'→Q () (sh s h' tk'))
  (hx:ns[i]?=some x:=by rfl)(hi:(vs[i]?).isSome=true:=by rfl)
  (hl:env.kindOf x=some .local:=by rfl)(hk:env.scope.kind = .function:=by rfl) :
  wpAny M A (storeName env x v) Q E (sh s h tk):=
 wpAny_storeName_local hl S.ns (fun h' hn hs=>k h' _ (S.store (loc_set i hx hd (lt_of_isSome hi)▸hn) hs))
  (by show (env.scope.kind == .class||(env.scope.kind == .module&&env.locals != env.globals))=false;rw [hk];rfl)
end
structure Rel (α:Type) where
 r:Heap→Value→α→Prop
 mono:∀{K K' v x},Sub K K'→r K v x→r K' v x
inductive All2 {α β:Type}(R:α→β→Prop):List α→List β→Prop
 | nil:All2 R [] []
 | cons {a b as bs}:R a b→All2 R as bs→All2 R (a::as) (b::bs)
section
variable {γ:Type}{R:α→β→Prop}
theorem All2.length {as:List α}{bs:List β}(x:All2 R as bs):as.length=bs.length:=by
 induction x with
 | nil=>rfl
 | cons _ _ ih=>simp -iota [ih]
theorem All2.imp {R':α→β→Prop}(f:∀a b,R a b→R' a b){as:List α}{bs:List β}(x:All2 R as bs):All2 R' as bs:=by
 induction x with
 | nil=>exact .nil
 | cons h _ ih=>exact .cons (f _ _ h) ih
theorem All2.app {as as':List α}{bs bs':List β}(x:All2 R as bs)(y:All2 R as' bs'):All2 R (as++as') (bs++bs'):=by
 induction x with
 | nil=>exact y
 | cons h _ ih=>exact .cons h ih
theorem All2.snoc {as:List α}{bs:List β}{a:α}{b:β}(x:All2 R as bs)(h:R a b):All2 R (as++[a]) (bs++[b]):=x.app (.cons h .nil)
theorem All2.get {as:List α}{bs:List β}(x:All2 R as bs):∀{i:Nat}{b:β},bs[i]?=some b→∃a,as[i]?=some a∧R a b:=by
 induction x with
 | nil=>intro i b h;simp -iota at h
 | cons h t ih=>
  intro i b hb
  cases i with
  | zero=>
   simp -iota only [getElem?_cons_zero,Option.some.injEq] at hb
   subst hb;exact⟨_,rfl,h⟩
  | succ i=>simpa -iota using ih (by simpa -iota using hb)
theorem All2.getL {as:List α}{bs:List β}(x:All2 R as bs):∀{i:Nat}{a:α},as[i]?=some a→∃b,bs[i]?=some b∧R a b:=by
 induction x with
 | nil=>intro i b h;simp -iota at h
 | cons h t ih=>
  intro i b hb
  cases i with
  | zero=>
   simp -iota only [getElem?_cons_zero,Option.some.injEq] at hb
   subst hb;exact⟨_,rfl,h⟩
  | succ i=>simpa -iota using ih (by simpa -iota using hb)
theorem All2.mem {as:List α}{bs:List β}(x:All2 R as bs){b:β}(h:b∈bs):∃a,a∈as∧R a b:=by
 obtain⟨i,hi⟩:=mem_iff_getElem?.mp h
 obtain⟨a,ha,hr⟩:=x.get hi
 exact⟨a,mem_of_getElem? ha,hr⟩
end
noncomputable def rInt:Rel Int:=⟨fun _ v i=>∃t,v = .int i t,fun _ h=>h⟩
noncomputable def rStr:Rel Str:=⟨fun _ v x=>∃t,v = .str x t,fun _ h=>h⟩
noncomputable def rBool:Rel Bool:=⟨fun _ v b=>v = .bool b,fun _ h=>h⟩
abbrev lo (vs:Array Value)(n:Nat):Obj:={ cls:=.type "list",data:=.seq vs n }
abbrev tu (vs:Array Value):Obj:={ cls:=.type "tuple",data:=.seq vs 0 }
inductive ListR {α:Type}(R:Rel α)(K:Heap)(v:Value)(xs:List α):Prop
 | mk (a:Addr) (vs:List Value) (n:Nat):v = .ref a→K.get? a=some (lo vs.toArray n)→All2 (R.r K) vs xs→ListR R K v xs
noncomputable def rList {α:Type}(R:Rel α):Rel (List α):=
 ⟨ListR R,
  fun hk q=>by
  obtain⟨a,vs,n,e,h,x⟩:=q
  exact⟨a,vs,n,e,hk _ _ h,x.imp fun _ _ y=>R.mono hk y⟩⟩
inductive Tup2R {α β:Type}(R:Rel α)(R':Rel β)(K:Heap)(v:Value)(x:α×β):Prop
 | mk (a:Addr) (v1 v2:Value):v = .ref a→K.get? a=some (tu #[v1,v2])→R.r K v1 x.1→R'.r K v2 x.2→Tup2R R R' K v x
noncomputable def rTup2 {α β:Type}(R:Rel α)(R':Rel β):Rel (α×β):=
 ⟨Tup2R R R',
  fun hk ⟨a,v1,v2,e,h,x,y⟩=>⟨a,v1,v2,e,hk _ _ h,R.mono hk x,R'.mono hk y⟩⟩
inductive TupR {α:Type}(R:Rel α)(K:Heap)(v:Value)(xs:List α):Prop
 | mk (a:Addr) (vs:List Value):v = .ref a→K.get? a=some (tu vs.toArray)→All2 (R.r K) vs xs→TupR R K v xs
noncomputable def rTup {α:Type}(R:Rel α):Rel (List α):=
 ⟨TupR R,
  fun hk q=>by
  obtain⟨a,vs,e,h,x⟩:=q
  exact⟨a,vs,e,hk _ _ h,x.imp fun _ _ y=>R.mono hk y⟩⟩
section
variable {κ:Type}[DecidableEq κ]
inductive dictO (knd:PySem.KeyKind prog w κ)(o:Obj)(kvs:List (κ×Value)):Prop
 | mk (es:Array DictEntry) (ep:Nat):o.ExactDict→o.data = .dict es ep→PySem.KeysOf knd es→Pairs knd es.toList kvs→(kvs.map (·.1)).Nodup→dictO knd o kvs
theorem dictO.nodup {knd:PySem.KeyKind prog w κ}{o:Obj}{kvs:List (κ×Value)}(x:dictO knd o kvs):(kvs.map (·.1)).Nodup:=by obtain⟨_,_,_,_,_,_,h⟩:=x;exact h
theorem dictOf_of {knd:PySem.KeyKind prog w κ}{h:Heap}{a:Addr}{o:Obj}{kvs:List (κ×Value)}(e:h.get? a=some o)(d:dictO knd o kvs):h.DictOf knd a kvs:=by
 obtain⟨es,ep,r1,r2,r3,r4,r5⟩:=d;exact⟨o,es,ep,e,r1,r2,r3,r4,r5⟩
theorem dictO_of {knd:PySem.KeyKind prog w κ}{h:Heap}{a:Addr}{kvs:List (κ×Value)}(d:h.DictOf knd a kvs):∃o,h.get? a=some o∧dictO knd o kvs:=by
 obtain⟨o,es,ep,e,r1,r2,r3,r4,r5⟩:=d;exact⟨o,e,es,ep,r1,r2,r3,r4,r5⟩
inductive DictR {α:Type}(knd:PySem.KeyKind prog w κ)(R:Rel α)(K:Heap)(v:Value)(xs:List (κ×α)):Prop
 | mk (a:Addr) (o:Obj) (kvs:List (κ×Value)):v = .ref a→(a == sysModules)=false→K.get? a=some o→dictO knd o kvs→All2 (fun (p:κ×Value) (x:κ×α)=>p.1=x.1∧R.r K p.2 x.2) kvs xs→DictR knd R K v xs
noncomputable def rDict {α:Type}(knd:PySem.KeyKind prog w κ)(R:Rel α):Rel (List (κ×α)):=
 ⟨DictR knd R,
  fun hk q=>by
  obtain⟨a,o,kvs,e,hs,h,d,x⟩:=q
  exact⟨a,o,kvs,e,hs,hk _ _ h,d,x.imp fun _ _ y=>⟨y.1,R.mono hk y.2⟩⟩⟩
end
end Mine
variable {O:Mine.Org}
namespace Mine
structure OkA (A:Around)(k:Nat):Prop where
 handled:A.handled=none
 depth:A.depth+k≤900
 units:A.units+10*k≤9000
theorem OkA.deeper {A:Around}{k:Nat}{env:Env}(x:OkA A (k+1)):OkA (A.deeper env) k:=
 ⟨x.handled,by show A.depth+1+k≤900;have:=x.depth;exact lp [_,_] [(.add zA (su zB),.num 900)] (.add (su zA) zB) (.num 900) rfl this,by show A.units+3+10*k≤9000;have:=x.units;exact lp [_,_] [(.add zA (.mulL 10 (su zB)),.num 9000)] (.add (.add zA (.num 3)) (.mulL 10 zB)) (.num 9000) rfl this⟩
theorem OkA.in1 {A:Around}{k:Nat}(x:OkA A (k+1)):OkA A.in1 k:=
 ⟨x.handled,by show A.depth+k≤900;have:=x.depth;exact lp [_,_] [(.add zA (su zB),.num 900)] (.add zA zB) (.num 900) rfl this,by show A.units+1+10*k≤9000;have:=x.units;exact lp [_,_] [(.add zA (.mulL 10 (su zB)),.num 9000)] (.add (su zA) (.mulL 10 zB)) (.num 9000) rfl this⟩
theorem OkA.less {A:Around}{k j:Nat}(x:OkA A k)(h:j≤k):OkA A j:=⟨x.handled,by have:=x.depth;exact lp [_,_,_] [(zA,zB),(.add zC zB,.num 900)] (.add zC zA) (.num 900) rfl h this,by have:=x.units;exact lq [_,_,_] [(10,zA,zB),(1,.add zC (.mulL 10 zB),.num 9000)] 1 (.add zC (.mulL 10 zA)) (.num 9000) rfl h this⟩
theorem OkA.room {A:Around}{k:Nat}(x:OkA A k):A.depth<recursionLimit:=by have:=x.depth;show A.depth<1000;exact lp [_,_] [(.add zA zB,.num 900)] (su zA) (.num 1000) rfl this
theorem OkA.cu {A:Around}{k:Nat}(x:OkA A k):A.units<cLine:=by have:=x.units;show A.units<9900;exact lp [_,_] [(.add zA (.mulL 10 zB),.num 9000)] (su zA) (.num 9900) rfl this
theorem OkA.mark {A:Around}{k:Nat}(x:OkA A k):OkA (A.mark none) k:=⟨by show (none:Option Value).or A.handled=none;rw [x.handled];rfl,x.depth,x.units⟩
section
noncomputable def TupGo (o:Obj):Prop:=∃n vs,o.cls = .type n∧o.data = .fields vs∧(["enumerate","zip","dict_itemiterator","dict_reverseitemiterator","odict_iterator","itertools.zip_longest","itertools.pairwise"].contains n)=false
inductive Src (prog:Program)(w:World)(A:Around){α:Type}(K h:Heap)(I:Addr)(R:Rel α)(xs:List α):Prop
 | mk (n:Nat) (fp:List Addr) (P:Nat→Value→Prop) (Sx:Nat→Heap→Prop):n=xs.length→Walks prog w A I fp [I] n P Sx→Sx 0 h→(∀i h,Sx i h→∃o,h.get? I=some o)→
  (∀b∈fp,b≠I→∃o,K.get? b=some o)→(∀i v,i<xs.length→P i v→∃a,xs[i]?=some a∧R.r K v a)→(∀i h o,Sx i h→h.get? I=some o→TupGo o)→Src prog w A K h I R xs
theorem St.ne_of_K {O:Org}{K:Heap}{L:Addr}{m:Str→Option Value}{led:List (Addr×Obj)}{h:Heap}(S:St O K L m led h){b:Addr}{o:Obj}(e:K.get? b=some o):b≠h.objs.size:=
 Nat.ne_of_lt (get_lt (S.stays _ _ e))
theorem iter_list {k:Nat}{R:Rel α}{v:Value}{xs:List α}{Q:Value→Shared→Prop}(hA:OkA A k)(S:St O K L m led h)(r:(rList R).r K v xs)
  (c:∀I ob h',St O K L m ((I,ob)::led) h'→Src prog w A K h' I R xs→Q (.ref I) (sh s h' tk)) :
  wpAny (model prog w) A (pyIter v) Q E (sh s h tk):=by
 obtain⟨a,vs,n,rfl,ha,x⟩:=r
 have hl:h.IsList a vs.toArray:=⟨_,S.stays _ _ ha,rfl,n,rfl⟩
 have hne:=S.ne_of_K ha
 refine wpAny_pyIter_list (s:=sh s h tk) hl ?_
 have W:=Walks.list (prog:=prog) (w:=w) hA.handled h.objs.size a hne vs.toArray
 have hlen:vs.toArray.size=xs.length:=x.length
 refine c h.objs.size _ _ (S.push { cls:=.type "list_iterator",data:=.fields #[.ref a,.int 0 0] }) ⟨_,_,_,_,hlen,W,⟨⟨_,Heap.get?_push_size _ rfl,rfl,rfl⟩,hl.at fun o e=>Heap.get?_push_of_some _ e⟩,fun i h' hx=>?_,fun b hb hbI=>?_,fun i v _ hv=>?_,fun i h' o hx e=>?_⟩
 ·obtain⟨⟨o,ho,_⟩,_⟩:=hx;exact⟨o,ho⟩
 ·simp only [mem_cons,not_mem_nil,or_false] at hb
  rcases hb with rfl|rfl
  ·exact absurd rfl hbI
  ·exact⟨_,ha⟩
 ·exact x.getL (by simpa using hv)
 ·obtain⟨⟨o',ho,hc,hd⟩,_⟩:=hx
  rw [ho] at e;cases e
  exact⟨_,_,hc,hd,by decide⟩
theorem iter_tup {k:Nat}{R:Rel α}{v:Value}{xs:List α}{Q:Value→Shared→Prop}(hA:OkA A k)(S:St O K L m led h)(r:(rTup R).r K v xs)
  (c:∀I ob h',St O K L m ((I,ob)::led) h'→Src prog w A K h' I R xs→Q (.ref I) (sh s h' tk)) :
  wpAny (model prog w) A (pyIter v) Q E (sh s h tk):=by
 obtain⟨a,vs,rfl,ha,x⟩:=r
 have hl:h.IsTuple a vs.toArray:=⟨_,S.stays _ _ ha,rfl,0,rfl⟩
 have hne:=S.ne_of_K ha
 refine wpAny_pyIter_tuple (s:=sh s h tk) hl ?_
 have W:=Walks.tuple (prog:=prog) (w:=w) hA.handled h.objs.size a hne vs.toArray
 have hlen:vs.toArray.size=xs.length:=x.length
 refine c h.objs.size _ _ (S.push { cls:=.type "tuple_iterator",data:=.fields #[.ref a,.int 0 0] }) ⟨_,_,_,_,hlen,W,⟨⟨_,Heap.get?_push_size _ rfl,rfl,rfl⟩,hl.at fun o e=>Heap.get?_push_of_some _ e⟩,fun i h' hx=>?_,fun b hb hbI=>?_,fun i v _ hv=>?_,fun i h' o hx e=>?_⟩
 ·obtain⟨⟨o,ho,_⟩,_⟩:=hx;exact⟨o,ho⟩
 ·simp only [mem_cons,not_mem_nil,or_false] at hb
  rcases hb with rfl|rfl
  ·exact absurd rfl hbI
  ·exact⟨_,ha⟩
 ·exact x.getL (by simpa using hv)
 ·obtain⟨⟨o',ho,hc,hd⟩,_⟩:=hx
  rw [ho] at e;cases e
  exact⟨_,_,hc,hd,by decide⟩
section
variable {κ:Type}[DecidableEq κ]
noncomputable def rKey (knd:PySem.KeyKind prog w κ):Rel κ:=⟨fun _ v k=>knd.is k v=true,fun _ h=>h⟩
theorem dictAt_of {knd:PySem.KeyKind prog w κ}{h:Heap}{a:Addr}{o:Obj}{kvs:List (κ×Value)}(e:h.get? a=some o)(d:dictO knd o kvs):∃ep,h.DictAt knd a kvs ep:=by
 obtain⟨es,ep,h1,h2,h3,h4,h5⟩:=d
 exact⟨ep,o,es,e,h1,h2,h3,h4,h5⟩
theorem iter_dict {k:Nat}{R:Rel α}{knd:PySem.KeyKind prog w κ}{v:Value}{xs:List (κ×α)}{Q:Value→Shared→Prop}(hA:OkA A k)(S:St O K L m led h)(r:(rDict knd R).r K v xs)
  (c:∀I ob h',St O K L m ((I,ob)::led) h'→Src prog w A K h' I (rKey knd) (xs.map (·.1))→Q (.ref I) (sh s h' tk)) :
  wpAny (model prog w) A (pyIter v) Q E (sh s h tk):=by
 obtain⟨a,o,kvs,rfl,hs,ha,d,x⟩:=r
 obtain⟨ep,hd⟩:=dictAt_of (S.stays _ _ ha) d
 have hne:=S.ne_of_K ha
 refine wpAny_pyIter_dict (s:=sh s h tk) hs hd ?_
 have W:=Walks.dictKeys (prog:=prog) (w:=w) (knd:=knd) hA.handled h.objs.size a hne kvs ep
 have hlen:kvs.length=(xs.map (·.1)).length:=x.length.trans (length_map ..).symm
 refine c h.objs.size _ _ (S.push { cls:=.type "dict_keyiterator",data:=.fields #[.ref a,.int 0 0,.int kvs.length 0,.int ep 0] }) ⟨_,_,_,_,hlen,W,⟨⟨_,Heap.get?_push_size _ rfl,rfl,rfl⟩,hd.at' fun o e=>Heap.get?_push_of_some _ e⟩,fun i h' hx=>?_,fun b hb hbI=>?_,fun i v _ hv=>?_,fun i h' o hx e=>?_⟩
 ·obtain⟨⟨o,ho,_⟩,_⟩:=hx;exact⟨o,ho⟩
 ·simp only [mem_cons,not_mem_nil,or_false] at hb
  rcases hb with rfl|rfl
  ·exact absurd rfl hbI
  ·exact⟨_,ha⟩
 ·obtain⟨k,y,hy,hk⟩:=hv
  obtain⟨b,hb,e,_⟩:=x.getL hy
  exact⟨b.1,by rw [getElem?_map,hb];rfl,by dsimp only [rKey];rw [←e];exact hk⟩
 ·obtain⟨⟨o',ho,hc,hd⟩,_⟩:=hx
  rw [ho] at e;cases e
  exact⟨_,_,hc,hd,by decide⟩
end
end
theorem hide {M:Model}{A:Around}{β:Type}{t:Sem β}{Q:β→Shared→Prop}{E:Value→Shared→Prop}{s:Shared}(h:∀Q':β→Shared→Prop,(∀r s',Q r s'→Q' r s')→wpAny M A t Q' E s):wpAny M A t Q E s:=h Q fun _ _ x=>x
section
variable {M:Model}{rest:List Stmt}{Q:Flow→Shared→Prop}{pos:Pos}
theorem as_st {x:Str}{p:Pos}{value:Expr}(h:wpAny M A (eval value env) (fun v s₁=>wpAny M A (storeName env x v) (fun _ s₂=>wpAny M A (execs rest env) Q E s₂) E s₁) E s)
  (hs:swapsWith value (some (.Name x p)) pos.line env=pure false:=by rfl):wpAny M A (execs (.Assign [.Name x p] value pos::rest) env) Q E s:=
 wpAny_execs_cons (wpAny_Assign_Name h hs)
theorem ret_st {e:Expr}(h:wpAny M A (eval e env) (fun v s'=>Q (.ret v) s') E s):wpAny M A (execs (.Return (some e) pos::rest) env) Q E s:=
 wpAny_execs_cons (wpAny_Return_some h)
theorem if_end {test:Expr}{body orelse:List Stmt}(h:wpAny M A (isTrue test env (eval test env)) (fun b s₂=>if b=true then wpAny M A (execs body env) Q E s₂ else wpAny M A (execs orelse env) Q E s₂) E s):wpAny M A (execs [.If test body orelse pos] env) Q E s:=by
 refine wpAny_execs_cons (wpAny_If (wpAny_mono h (fun b s₂ h₂=>?_) fun _ _ e=>e))
 have e:∀(f:Flow) (s':Shared),Q f s'→(match f with | .next=>wpAny M A (execs [] env) Q E s'|f=>Q f s'):=fun f s' q=>by cases f <;> first|exact wpAny_execs_nil q|exact q
 cases b
 ·exact wpAny_mono h₂ e fun _ _ x=>x
 ·exact wpAny_mono h₂ e fun _ _ x=>x
theorem if_ret {test e:Expr}{p2:Pos}(h:wpAny M A (isTrue test env (eval test env)) (fun b s₂=>if b=true then wpAny M A (eval e env) (fun v s'=>Q (.ret v) s') E s₂ else wpAny M A (execs rest env) Q E s₂) E s) :
  wpAny M A (execs (.If test [.Return (some e) p2] [] pos::rest) env) Q E s:=by
 refine wpAny_execs_cons (wpAny_If (wpAny_mono h (fun b s₂ h₂=>?_) fun _ _ e=>e))
 cases b
 ·exact wpAny_execs_nil h₂
 ·exact wpAny_execs_cons (wpAny_Return_some h₂)
theorem ifp {c:Prop}[Decidable c]{p q:Prop}(h:c)(x:p):if c then p else q:=by rw [if_pos h];exact x
theorem ifn {c:Prop}[Decidable c]{p q:Prop}(h:¬c)(x:q):if c then p else q:=by rw [if_neg h];exact x
theorem if2 {c:Prop}[Decidable c]{p q:Prop}(x:c→p)(y:¬c→q):if c then p else q:=by
 by_cases h:c
 ·exact ifp h (x h)
 ·exact ifn h (y h)
theorem c_int {i:Int}{k:Nat}{h:Heap}{tk:Nat}{Q:Value→Shared→Prop}(q:Q (.int i tk) (sh s h (tk+1))):wpAny M A (eval (.Constant (.int i) k pos) env) Q E (sh s h tk):=wpAny_Constant_int q
theorem c_str {i:Str}{k:Nat}{h:Heap}{tk:Nat}{Q:Value→Shared→Prop}(q:Q (.str i tk) (sh s h (tk+1))):wpAny M A (eval (.Constant (.str i) k pos) env) Q E (sh s h tk):=wpAny_Constant_str q
end
section
variable {Q:Value→Shared→Prop}{a b:Int}{t u:Tok}
theorem add_i (q:Q (.int (a+b) tk) (sh s h (tk+1))):wpAny (model prog w) A (binaryOp .Add (.int a t) (.int b u)) Q E (sh s h tk):=P.add_int q
theorem sub_i (q:Q (.int (a - b) tk) (sh s h (tk+1))):wpAny (model prog w) A (binaryOp .Sub (.int a t) (.int b u)) Q E (sh s h tk):=PyProof.Rows.sub_int q
theorem mul_i (q:Q (.int (a*b) tk) (sh s h (tk+1)))(hm:IntMulOk a b):wpAny (model prog w) A (binaryOp .Mult (.int a t) (.int b u)) Q E (sh s h tk):=P.mul_int q hm
theorem neg_i (q:Q (.int (-a) tk) (sh s h (tk+1))):wpAny (model prog w) A (unaryOp .USub (.int a t)) Q E (sh s h tk):=PyProof.Rows.neg_int q
theorem mod_i (hb:b≠0)(q:Q (.int (a.fmod b) tk) (sh s h (tk+1))):wpAny (model prog w) A (binaryOp .Mod (.int a t) (.int b u)) Q E (sh s h tk):=PyProof.Rows.mod_int hb q
theorem gt_t {Q:Bool→Shared→Prop}(q:Q (decide (b<a)) s):wpAny (model prog w) A (compareOp .Gt (.int a t) (.int b u)) (fun c s₃=>wpAny (model prog w) A (truthy c) Q E s₃) E s:=PyProof.Rows.gt_int (wpAny_truthy_bool q)
theorem eq_t {Q:Bool→Shared→Prop}(q:Q (a == b) s):wpAny (model prog w) A (compareOp .Eq (.int a t) (.int b u)) (fun c s₃=>wpAny (model prog w) A (truthy c) Q E s₃) E s:=P.eq_int (wpAny_truthy_bool q)
end
section
noncomputable def ForE (prog:Program)(w:World)(A:Around)(E:Value→Shared→Prop)(env:Env)(target:Expr)(body:List Stmt)(Q:Flow→Shared→Prop)(it:Value)(s₂:Shared):Prop:=
 codeAny (model prog w) A (.forLoop target it body [] env) (fun r s'=>match r with | .ok f=>Q f s' | .error e=>cameBackBy (model prog w) A env E e s') s₂
noncomputable def ForP (prog:Program)(w:World)(A:Around)(E:Value→Shared→Prop)(env:Env)(target:Expr)(body rest:List Stmt)(Q:Flow→Shared→Prop)(it:Value)(s₂:Shared):Prop:=
 ForE prog w A E env target body (fun f s'=>match f with | .next=>wpAny (model prog w) A (execs rest env) Q E s'|f=>Q f s') it s₂
theorem for_ex {target iter:Expr}{body:List Stmt}{pos:Pos}{Q:Flow→Shared→Prop}{s:Shared}
  (hit:wpAny (model prog w) A (eval iter env) (fun x s₁=>wpAny (model prog w) A (pyIter x) (ForE prog w A E env target body Q) E s₁) E s)
  (hs:∀x,foldedSetIterable iter env x=pure x:=by intro _;rfl):wpAny (model prog w) A (exec (.For target iter body [] pos) env) Q E s:=
 wpAny_For (wpAny_mono hit (fun x s₁ h₁=>wpAny_mono h₁ (fun it s₂ h₂=>by unfold ForE at h₂;exact h₂) fun _ _ e=>e) fun _ _ e=>e) hs
theorem for_st {target iter:Expr}{body rest:List Stmt}{pos:Pos}{Q:Flow→Shared→Prop}{s:Shared}
  (hit:wpAny (model prog w) A (eval iter env) (fun x s₁=>wpAny (model prog w) A (pyIter x) (ForP prog w A E env target body rest Q) E s₁) E s)
  (hs:∀x,foldedSetIterable iter env x=pure x:=by intro _;rfl):wpAny (model prog w) A (execs (.For target iter body [] pos::rest) env) Q E s:=
 wpAny_execs_cons (for_ex (by unfold ForP at hit;exact hit) hs)
theorem St.off {I L:Addr}{ob:Obj}{h2:Heap}(S:St O K L m ((I,ob)::led) h)(hk:∀b o,b∉[I]→h.get? b=some o→h2.get? b=some o):St O K L m led h2:=by
 have hI:=S.ledg (I,ob) mem_cons_self
 have hnd:=S.nodup
 rw [map_cons,nodup_cons] at hnd
 refine S.move (fun b o hb hx e=>hk b o (fun q=>?_) e) (S.ns.at' fun o e=>hk _ o (fun q=>hI.2.1 (mem_singleton.mp q).symm) e) (fun p hp=>?_) hnd.2
 ·rw [mem_singleton] at q;subst q
  rcases hx with hx|hx
  ·rw [hI.2.2.1] at hx;cases hx
  ·rw [hI.2.2.2] at hx;cases hx
 ·have P1:=S.ledg p (mem_cons_of_mem _ hp)
  exact⟨hk _ _ (fun q=>hnd.1 (mem_map.mpr ⟨p,hp,mem_singleton.mp q⟩)) P1.1,P1.2⟩
theorem St.on {I L:Addr}{ob ob2:Obj}{h2:Heap}(S:St O K L m ((I,ob)::led) h)(hk:∀b o,b∉[I]→h.get? b=some o→h2.get? b=some o)(ho:h2.get? I=some ob2):St O K L m ((I,ob2)::led) h2:=
 (S.off hk).move (fun _ _ _ _ e=>e) (S.off hk).ns (fun p hp=>by
  rcases mem_cons.mp hp with rfl|hp
  ·exact⟨ho,(S.ledg (I,ob) mem_cons_self).2⟩
  ·exact (S.off hk).ledg p hp) S.nodup
theorem St.fpk {O':Org}{K1 K2 h1 h2:Heap}{L L' I:Addr}{m':Str→Option Value}{l l':List (Addr×Obj)}{ob:Obj}{fp:List Addr}(hfp:∀b∈fp,b≠I→∃o,K.get? b=some o)(hk1:Sub K K1)(T1:St O K1 L m l h1)(hk2:Sub K K2)(T2:St O' K2 L' m' ((I,ob)::l') h2)
  (hI:h1.get? I=some ob)(b:Addr)(hb:b∈fp)(o:Obj)(e:h1.get? b=some o):h2.get? b=some o:=by
 by_cases hbI:b=I
 ·subst hbI
  rw [hI] at e;cases e
  exact (T2.ledg _ mem_cons_self).1
 ·obtain⟨o',ho'⟩:=hfp b hb hbI
  rw [T1.stays _ _ (hk1 _ _ ho')] at e;cases e
  exact T2.stays _ _ (hk2 _ _ ho')
inductive ForI (O:Org)(K:Heap)(L I:Addr)(J:Nat→Heap→(Str→Option Value)→List (Addr×Obj)→Prop)(n:Nat)(Sx:Nat→Heap→Prop)(s:Shared)(k:Nat)(s':Shared):Prop
 | mk (i:Nat) (K1:Heap) (m1:Str→Option Value) (led1:List (Addr×Obj)) (h1:Heap) (tk1:Nat) (ob1:Obj):s'=sh s h1 tk1→k=n+1 - i→i≤n→Sub K K1→J i K1 m1 led1→St O K1 L m1 ((I,ob1)::led1) h1→Sx i h1→ForI O K L I J n Sx s k s'
theorem for_coreE {Qf:Flow→Shared→Prop}{Ra:Rel α}{xs:List α}{I:Addr}{ob:Obj}{target:Expr}{body:List Stmt}
  (S:St O K env.locals m ((I,ob)::led) h)(src:Src prog w A K h I Ra xs)(J:Nat→Heap→(Str→Option Value)→List (Addr×Obj)→Prop)(hJ:J 0 K m led)
  (turn:∀i a v K1 m1 led1 h1 tk1 ob1 E' (Q':Flow→Shared→Prop),xs[i]?=some a→Ra.r K1 v a→Sub K K1→J i K1 m1 led1→St O K1 env.locals m1 ((I,ob1)::led1) h1→TupGo ob1→
   (∀K' m' led' h' tk',Sub K1 K'→J (i+1) K' m' led'→St O K' env.locals m' ((I,ob1)::led') h'→Q' .next (sh s h' tk'))→(∀v s',Qf (.ret v) s'→Q' (.ret v) s')→
   wpAny (model prog w) A (letOwnedTupleGo target (.ref I) v) (fun _ s₁=>wpAny (model prog w) A (assign target env v) (fun _ s2=>wpAny (model prog w) A (execs body env) Q' E' s2) E' s₁) E' (sh s h1 tk1))
  (done:∀K1 m1 led1 h1 tk1,Sub K K1→J xs.length K1 m1 led1→St O K1 env.locals m1 led1 h1→Qf .next (sh s h1 tk1)) :
  ForE prog w A E env target body Qf (.ref I) (sh s h tk):=by
 unfold ForE
 obtain⟨n,fp,P,Sx,hn,W,st0,hob,hfp,hP,hgo⟩:=src
 subst hn
 refine codeAny_forLoop_any (ForI O K env.locals I J xs.length Sx s) (fun k s' H=>?_) (xs.length+1) (.mk 0 K m led h tk ob rfl rfl (Nat.zero_le _) (Sub.refl _) hJ S st0)
 obtain⟨i,K1,m1,led1,h1,tk1,ob1,rfl,rfl,hi,hK,hJ1,S1,hs1⟩:=H
 clear S st0 hJ
 by_cases hlt:i<xs.length
 ·refine W.item i _ _ _ hlt hs1 fun v h2 tk2 hPv hs2 hk2=>?_
  obtain⟨a,ha,hr⟩:=hP i v hlt hPv
  obtain⟨ob2,ho2⟩:=hob _ _ hs2
  have S2:=S1.on hk2 ho2
  refine turn i a v K1 m1 led1 h2 tk2 ob2 _ _ ha (Ra.mono hK hr) hK hJ1 S2 (hgo _ _ _ hs2 ho2) (fun K' m' led' h' tk' hK' hJ' S'=>?_) fun v s' q=>q
  refine⟨xs.length+1 - (i+1),Nat.sub_lt_sub_left (Nat.lt_succ_of_lt hlt) (Nat.lt_succ_self i),.mk (i+1) K' m' led' h' tk' ob2 rfl rfl hlt (hK.trans hK') hJ' S' (W.frame _ _ _ hs2 (St.fpk hfp hK S2 (hK.trans hK') S' ho2))⟩
 ·obtain rfl:i=xs.length:=nA hi (nN hlt)
  refine W.done _ _ _ hs1 fun h2 tk2 hk2=>wpAny_execs_nil (done K1 m1 led1 h2 tk2 hK hJ1 (S1.off hk2))
theorem for_core {Qf:Flow→Shared→Prop}{Ra:Rel α}{xs:List α}{I:Addr}{ob:Obj}{target:Expr}{body rest:List Stmt}
  (S:St O K env.locals m ((I,ob)::led) h)(src:Src prog w A K h I Ra xs)(J:Nat→Heap→(Str→Option Value)→List (Addr×Obj)→Prop)(hJ:J 0 K m led)
  (turn:∀i a v K1 m1 led1 h1 tk1 ob1 E' (Q':Flow→Shared→Prop),xs[i]?=some a→Ra.r K1 v a→Sub K K1→J i K1 m1 led1→St O K1 env.locals m1 ((I,ob1)::led1) h1→TupGo ob1→
   (∀K' m' led' h' tk',Sub K1 K'→J (i+1) K' m' led'→St O K' env.locals m' ((I,ob1)::led') h'→Q' .next (sh s h' tk'))→(∀v s',Qf (.ret v) s'→Q' (.ret v) s')→
   wpAny (model prog w) A (letOwnedTupleGo target (.ref I) v) (fun _ s₁=>wpAny (model prog w) A (assign target env v) (fun _ s2=>wpAny (model prog w) A (execs body env) Q' E' s2) E' s₁) E' (sh s h1 tk1))
  (done:∀K1 m1 led1 h1 tk1,Sub K K1→J xs.length K1 m1 led1→St O K1 env.locals m1 led1 h1→wpAny (model prog w) A (execs rest env) Qf E (sh s h1 tk1)) :
  ForP prog w A E env target body rest Qf (.ref I) (sh s h tk):=by
 unfold ForP
 exact for_coreE S src J hJ turn done
theorem for_go {Qf:Flow→Shared→Prop}{Ra:Rel α}{xs:List α}{I:Addr}{ob:Obj}{target:Expr}{body rest:List Stmt}
  (S:St O K env.locals m ((I,ob)::led) h)(src:Src prog w A K h I Ra xs)(J:Nat→Heap→(Str→Option Value)→List (Addr×Obj)→Prop)(hJ:J 0 K m led)
  (turn:∀i a v K1 m1 led1 h1 tk1 ob1 E' (Q':Flow→Shared→Prop),xs[i]?=some a→Ra.r K1 v a→Sub K K1→J i K1 m1 led1→St O K1 env.locals m1 ((I,ob1)::led1) h1→
   (∀K' m' led' h' tk',Sub K1 K'→J (i+1) K' m' led'→St O K' env.locals m' ((I,ob1)::led') h'→Q' .next (sh s h' tk'))→
   wpAny (model prog w) A (assign target env v) (fun _ s2=>wpAny (model prog w) A (execs body env) Q' E' s2) E' (sh s h1 tk1))
  (done:∀K1 m1 led1 h1 tk1,Sub K K1→J xs.length K1 m1 led1→St O K1 env.locals m1 led1 h1→wpAny (model prog w) A (execs rest env) Qf E (sh s h1 tk1))
  (ht:∀v,letOwnedTupleGo target (.ref I) v=pure ():=by intro _;rfl) :
  ForP prog w A E env target body rest Qf (.ref I) (sh s h tk):=
 for_core S src J hJ (fun i a v K1 m1 led1 h1 tk1 ob1 E' Q' a1 a2 a3 a4 a5 _ a7 _=>wpAny_of_eq (ht v) (turn i a v K1 m1 led1 h1 tk1 ob1 E' Q' a1 a2 a3 a4 a5 a7)) done
end
section
abbrev butI (h:Heap)(I:Addr):Heap:=cut h fun b=>b != I
theorem butI_get {h:Heap}{I b:Addr}:(butI h I).get? b=if b=I then none else h.get? b:=by
 rw [cut_get]
 by_cases hb:b=I <;> simp [hb]
theorem butI_size (h:Heap)(I:Addr):(butI h I).objs.size=h.objs.size:=by simp [butI,cut]
theorem St.back {ob:Obj}{I:Addr}{Kc hc:Heap}(S:St O K L m ((I,ob)::led) h)(T:Grow K (butI h I) Kc hc):St O Kc L m led hc:=by
 have hnd:=S.nodup
 rw [map_cons,nodup_cons] at hnd
 have hI:=S.ledg (I,ob) mem_cons_self
 have keep:∀b o,b≠I→h.get? b=some o→hc.get? b=some o:=fun b o hb e=>T.keep b o (by rw [butI_get,if_neg hb];exact e)
 have orgK:∀b o,Kc.get? b=some o→b<h.objs.size→K.get? b=some o:=fun b o e hb=>T.org b o e (by rw [butI_size];exact hb)
 refine⟨fun b o e=>keep b o ?_ (S.keepB b o e),fun b o e=>T.kk b o (S.fromK b o e),fun b o e hb=>S.org b o (orgK b o e (Nat.lt_of_lt_of_le hb S.sizeB)) hb,T.kh,S.ns.at' fun o e=>keep _ o (Ne.symm hI.2.1) e,?_,S.low,fun p hp=>?_,hnd.2⟩
 ·rintro rfl;rw [hI.2.2.2] at e;cases e
 ·cases q:Kc.get? L with
  | none=>rfl
  | some o=>have:=orgK L o q S.ns.lt;rw [S.hid] at this;cases this
 ·have P:=S.ledg p (mem_cons_of_mem _ hp)
  refine⟨keep _ _ (fun e=>hnd.1 (mem_map.mpr ⟨p,hp,e⟩)) P.1,P.2.1,?_,P.2.2.2⟩
  cases q:Kc.get? p.1 with
  | none=>rfl
  | some o=>have:=orgK _ o q (get_lt P.1);rw [P.2.2.1] at this;cases this
theorem Grow.sameBut {K h K' h' h'':Heap}{C:Addr}(g:Grow K h K' h')(hC:K'.get? C=none)(hB:h.get? C=none)(hs:Heap.SameBut C h' h''):Grow K h K' h'':=
 ⟨g.kk,fun b o e=>(hs.2 b fun q=>by subst q;rw [hC] at e;cases e).trans (g.kh b o e),g.org,fun b o e=>(hs.2 b fun q=>by subst q;rw [hB] at e;cases e).trans (g.keep b o e),hs.1▸g.size⟩
abbrev lc1 (x:Str)(v:Option Value):Str→Option Value:=loc [x] [v]
theorem comp_st {I C:Addr}{ob o0:Obj}{mc:Str→Option Value}{h₁:Heap}(S:St O K L m ((I,ob)::led) h)(hC:C=h.objs.size+1)(old:∀b o,h.get? b=some o→h₁.get? b=some o)
  (hD:h₁.get? h.objs.size=some o0)(hns:h₁.Ns C mc):St ⟨butI h I,K⟩ K C mc [(I,ob),(h.objs.size,o0)] h₁:=by
 subst hC
 have hI:=S.ledg (I,ob) mem_cons_self
 have hIlt:@LT.lt Nat _ I h.objs.size:=get_lt hI.1
 have noKge:∀b:Nat,h.objs.size≤b→K.get? b=none:=fun b hb=>by
  cases q:K.get? b with
  | none=>rfl
  | some o=>exact absurd (get_lt (S.stays _ _ q)) (Nat.not_lt.mpr hb)
 have noBge:∀b:Nat,h.objs.size≤b→(butI h I).get? b=none:=fun b hb=>by
  rw [butI_get]
  split
  ·rfl
  ·cases q:h.get? b with
   | none=>rfl
   | some o=>exact absurd (get_lt q) (Nat.not_lt.mpr hb)
 refine⟨fun b o e=>?_,Sub.refl _,fun _ _ e _=>e,fun b o e=>old b o (S.stays _ _ e),hns,noKge _ (Nat.le_succ _),?_,fun q hq=>?_,?_⟩
 ·have e':(butI h I).get? b=some o:=e
  rw [butI_get] at e'
  split at e'
  ·cases e'
  ·exact old b o e'
 ·show (butI h I).objs.size≤_;rw [butI_size];exact Nat.le_succ _
 ·simp only [mem_cons,not_mem_nil,or_false] at hq
  rcases hq with rfl|rfl
  ·exact⟨old _ _ hI.1,Nat.ne_of_lt (Nat.lt_succ_of_lt hIlt),hI.2.2.1,by show (butI h I).get? I=none;rw [butI_get,if_pos rfl]⟩
  ·exact⟨hD,Nat.ne_of_lt (Nat.lt_succ_self _),noKge _ (Nat.le_refl _),noBge _ (Nat.le_refl _)⟩
 ·simp only [map_cons,map_nil,nodup_cons,mem_singleton,not_mem_nil,not_false_eq_true,and_true,nodup_nil]
  exact Nat.ne_of_lt hIlt
theorem comp_end {I C:Addr}{mc:Str→Option Value}{K1 h2:Heap}{o:Obj}{P:Prop}(hC:C=h.objs.size+1)(S:St ⟨butI h I,K⟩ K1 C mc [(h.objs.size,o)] h2)
  (fin:∀K3,Sub K1 K3→h2.Ns C mc→K3.get? C=none→h.get? C=none→Grow K (butI h I) K3 h2→K3.get? h.objs.size=some o→P):P:=by
 subst hC
 obtain⟨K3,hK3,S3,hfr⟩:=S.freeze [] (nil_sublist _)
 refine fin K3 hK3 S3.ns S3.hid ?_ S3.toGrow (hfr _ _ (S.ledg _ mem_cons_self).1 ?_ (S.ledg _ mem_cons_self).2.1 (by simp))
 ·cases q:h.get? (h.objs.size+1) with
  | none=>rfl
  | some o=>exact absurd (get_lt q) (Nat.not_lt.mpr (Nat.le_succ _))
 ·show (butI h I).objs.size≤_;rw [butI_size];exact Nat.le_refl _
inductive CompI (h:Heap)(I:Addr)(K:Heap)(C:Addr)(x:Str)(Rb:Rel β)(ys:Nat→List β)(n:Nat)(Sx:Nat→Heap→Prop)(s:Shared)(k:Nat)(s':Shared):Prop
 | mk (i:Nat) (K1:Heap) (u:Option Value) (h1:Heap) (tk1:Nat) (ob1:Obj) (vs:List Value) (n1:Nat):s'=sh s h1 tk1→k=n+1 - i→i≤n→Sub K K1→St ⟨butI h I,K⟩ K1 C (lc1 x u) [(I,ob1),(h.objs.size,lo vs.toArray n1)] h1→Sx i h1→All2 (Rb.r K1) vs (ys i)→
   CompI h I K C x Rb ys n Sx s k s'
theorem loc1_none {x:Str}:(fun y=>([]:List (Str×Value)).reverse.lookup y)=lc1 x none:=by funext y;by_cases hy:y=x <;> simp [loc,hy]
structure CompBody (prog:Program)(w:World)(A:Around)(s:Shared)(h:Heap)(I:Addr)(K:Heap)(scope:Scope)(cl:List (Str×Addr))(env:Env)(x:Str)(ifs:List Expr)(elt:Expr)
  (Ra:Rel α)(Rb:Rel β)(xs:List α)(p:α→Bool)(f:α→β):Prop where
 tests:∀a v K1 C led1 h1 tk1 (Q:Bool→Shared→Prop) E',a∈xs→Ra.r K1 v a→Sub K K1→h.objs.size≤C→St ⟨butI h I,K⟩ K1 C (lc1 x (some v)) led1 h1→
  (∀K2 h2 tk2,Sub K1 K2→St ⟨butI h I,K⟩ K2 C (lc1 x (some v)) led1 h2→Q (p a) (sh s h2 tk2))→
  wpAny (model prog w) A (forIn ifs true fun c r=>if r=true then do let ok ←isTrue c (compEnvC scope cl C env) (eval c (compEnvC scope cl C env));pure (ForInStep.yield ok) else pure (ForInStep.yield r)) Q E' (sh s h1 tk1)
 elt:∀a v K1 C led1 h1 tk1 (Q:Value→Shared→Prop) E',a∈xs→p a=true→Ra.r K1 v a→Sub K K1→h.objs.size≤C→St ⟨butI h I,K⟩ K1 C (lc1 x (some v)) led1 h1→
  (∀y K2 h2 tk2,Sub K1 K2→St ⟨butI h I,K⟩ K2 C (lc1 x (some v)) led1 h2→Rb.r K2 y (f a)→Q y (sh s h2 tk2))→
  wpAny (model prog w) A (eval elt (compEnvC scope cl C env)) Q E' (sh s h1 tk1)
theorem loc1_set {x:Str}{v:Value}{u:Option Value}:(fun y=>if y=x then some v else lc1 x u y)=lc1 x (some v):=by
 funext y;by_cases hy:y=x <;> simp [loc,hy]
theorem comp_run {R:Value→Addr→Result→Shared→Prop}{Ra:Rel α}{Rb:Rel β}{xs:List α}{I:Addr}{ob:Obj}{elt iter:Expr}{x:Str}{px:Pos}{ifs:List Expr}{scope:Scope}{cl:List (Str×Addr)}{pos:Pos}
  (S:St O K L m ((I,ob)::led) h)(src:Src prog w A K h I Ra xs)(p:α→Bool)(f:α→β)
  (hcell:∀y∈scope.names,y.2 ≠ .cell)(hkind:scope.kind = .function)(hx:scope.names.lookup x=some .local)(hsz:xs.length≤2 ^ 24)
  (B:CompBody prog w A s h I K scope cl env x ifs elt Ra Rb xs p f)
  (fin:∀D C K3 h2 tk2 mc,h2.Ns C mc→K3.get? C=none→h.get? C=none→Grow K (butI h I) K3 h2→(rList Rb).r K3 (.ref D) ((xs.filter p).map f)→R (.ref D) C (.ok .next) (sh s h2 tk2)) :
  wpAny (model prog w) A (newList []) (fun acc s₃=>wpAny (model prog w) A (newFunctionEnv scope env.globals cl [] env.qual none .none (some env)) (fun cenv s₄=>
   codeAny (model prog w) A (.compStart (.ListComp elt [⟨.Name x px,iter,ifs,0⟩] scope pos) 0 (.ref I) acc { cenv with scope:=relabel scope env }) (R acc cenv.locals) s₄) E s₃) E (sh s h tk):=by
 refine wpAny_newObj_type (wpAny_newFunctionEnv hcell (by intro y hy;simp at hy) (fun h₁ hns₁ hsb₁=>?_) hkind)
 dsimp only at hns₁ hsb₁ ⊢
 generalize hH2:h.push { cls:=.type "list",dict:=none,data:=.seq ([]:List Value).toArray }=H2 at hns₁ hsb₁ ⊢
 have hC:H2.objs.size=h.objs.size+1:=by rw [←hH2,Heap.size_push]
 have old:∀b o,h.get? b=some o→h₁.get? b=some o:=fun b o e=>
  hsb₁.extBut b o (neN (by have:=get_lt e;exact Nat.ne_of_lt (lp [_,_,_] [(su zA,zB),(su zC,zA)] (su zC) zB rfl (eqR hC) this))) (Heap.get?_push_of_some _ (hH2▸Heap.get?_push_of_some _ e))
 have hD:h₁.get? h.objs.size=some (lo ([]:List Value).toArray 0):=hsb₁.extBut _ _ (neN (Nat.ne_of_lt (eqR hC))) (Heap.get?_push_of_some _ (hH2▸Heap.get?_push_size _ rfl))
 have S₁:=comp_st S hC old hD hns₁
 rw [loc1_none (x:=x)] at S₁
 obtain⟨n,fp,P,Sx,hn,W,st0,hob,hfp,hP,_⟩:=src
 subst hn
 have st1:Sx 0 h₁:=W.frame _ _ _ st0 fun b _ o e=>old b o e
 have kindx:∀C,(compEnvC scope cl C env).kindOf x=some .local:=fun C=>lookup_relabel_local hx
 have plainx:∀C,((compEnvC scope cl C env).scope.kind == .class||((compEnvC scope cl C env).scope.kind == .module&&(compEnvC scope cl C env).locals != (compEnvC scope cl C env).globals))=false:=fun C=>by simp [compEnvC,relabel,hkind]
 have loop:∀s₃:Shared,(∃tk₃,s₃=sh s h₁ tk₃)→
   codeAny (model prog w) A (.compLoop (.ListComp elt [⟨.Name x px,iter,ifs,0⟩] scope pos) 0 (.ref I) (.ref h.objs.size) (compEnvC scope cl H2.objs.size env)) (R (.ref h.objs.size) H2.objs.size) s₃:=by
  rintro s₃ ⟨tk₃,rfl⟩
  refine codeAny_compLoop_tests (CompI h I K H2.objs.size x Rb (fun i=>((xs.take i).filter p).map f) xs.length Sx s) (fun k s' H=>?_) (xs.length+1)
   (.mk 0 K none h₁ tk₃ ob [] 0 rfl rfl (Nat.zero_le _) (Sub.refl _) S₁ st1 .nil)
  obtain⟨i,K1,u,h1,tk1,ob1,vs,n1,rfl,rfl,hi,hK,S1,hs1,hvs⟩:=H
  by_cases hlt:i<xs.length
  ·refine W.item i _ _ _ hlt hs1 fun v h2 tk2 hPv hs2 hk2=>?_
   obtain⟨a,ha,hr⟩:=hP i v hlt hPv
   have hax:a∈xs:=mem_of_getElem? ha
   obtain⟨ob2,ho2⟩:=hob _ _ hs2
   have S2:=S1.on hk2 ho2
   refine wpAny_assign_Name (wpAny_storeName_local (kindx _) S2.ns (fun h3 hn3 hs3=>?_) (plainx _))
   have S3:St ⟨butI h I,K⟩ K1 H2.objs.size (lc1 x (some v)) [(I,ob2),(h.objs.size,lo vs.toArray n1)] h3:=S2.store (loc1_set▸hn3) hs3
   refine B.tests a v K1 H2.objs.size _ h3 _ _ _ hax (Ra.mono hK hr) hK (lp [_,_] [(su zA,zB)] zA zB rfl (eqR hC)) S3 fun K4 h4 tk4 hK4 S4=>?_
   have hs4:Sx (i+1) h4:=W.frame _ _ _ hs2 (St.fpk hfp hK S2 (hK.trans hK4) S4 ho2)
   have htake:(xs.take (i+1)).filter p=(xs.take i).filter p++(if p a then [a] else []):=take_succ_filter p xs i a ha
   cases hp:p a with
   | false=>
    simp only [Bool.false_eq_true,if_false]
    refine⟨xs.length+1 - (i+1),Nat.sub_lt_sub_left (Nat.lt_succ_of_lt hlt) (Nat.lt_succ_self i),.mk (i+1) K4 _ h4 tk4 ob2 vs n1 rfl rfl hlt (hK.trans hK4) S4 hs4 ?_⟩
    rw [htake,hp]
    simpa using hvs.imp fun _ _ q=>Rb.mono hK4 q
   | true=>
    simp only [if_true]
    refine B.elt a v K4 H2.objs.size _ h4 _ _ _ hax hp (Ra.mono (hK.trans hK4) hr) (hK.trans hK4) (lp [_,_] [(su zA,zB)] zA zB rfl (eqR hC)) S4 fun y K5 h5 tk5 hK5 S5 hy=>?_
    have hD5:=S5.ledg (h.objs.size,lo vs.toArray n1) (mem_cons_of_mem _ mem_cons_self)
    have hszv:vs.toArray.size≤sizeLine:=by
     have e1:=hvs.length
     rw [length_map] at e1
     have e2:((xs.take i).filter p).length≤(xs.take i).length:=length_filter_le _ _
     have e3:(xs.take i).length≤xs.length:=by rw [length_take];exact Nat.min_le_right _ _
     have e4:vs.toArray.size=vs.length:=rfl
     show _≤2 ^ 24
     exact lp [_,_,_,_,_] [(zA,.num 16777216),(zB,zC),(zC,zD),(zD,zA),(zE,zB)] zE (.num 16777216) rfl hsz (eqL e1) e2 e3 (eqL e4)
    refine wpAny_list_append_plain (s:=sh s h5 tk5) (hsz:=hszv) ⟨n1,hD5.1⟩ fun h6 hl6 hs6=>?_
    obtain⟨n6,ho6⟩:=hl6
    have S6:St ⟨butI h I,K⟩ K5 H2.objs.size (lc1 x (some v)) [(I,ob2),(h.objs.size,lo (vs++[y]).toArray n6)] h6:=by
     have:=S5.turn (a:=h.objs.size) (o':=lo (vs++[y]).toArray n6) 1 rfl hs6 (by rw [ho6];simp)
     exact this
    refine⟨xs.length+1 - (i+1),Nat.sub_lt_sub_left (Nat.lt_succ_of_lt hlt) (Nat.lt_succ_self i),.mk (i+1) K5 _ h6 tk5 ob2 (vs++[y]) n6 rfl rfl hlt ((hK.trans hK4).trans hK5) S6 (W.frame _ _ _ hs2 (St.fpk hfp hK S2 ((hK.trans hK4).trans hK5) S6 ho2)) ?_⟩
    rw [htake,hp]
    simp only [if_true,List.map_append,map_cons,map_nil]
    exact (hvs.imp fun _ _ q=>Rb.mono hK5 (Rb.mono hK4 q)).snoc hy
  ·have hin:i=xs.length:=nA hi (nN hlt)
   subst hin
   refine W.done _ _ _ hs1 fun h2 tk2 hk2=>?_
   rw [take_length] at hvs
   exact comp_end hC (S1.off hk2) fun K3 a0 a1 a2 a3 a4 a5=>fin _ _ K3 h2 tk2 _ a1 a2 a3 a4 ⟨_,vs,n1,rfl,a5,hvs.imp fun _ _ q=>Rb.mono a0 q⟩
 exact codeAny_compStart_list (loop _ ⟨_,rfl⟩) (W.self 0 _ _ _ st1 (loop _ ⟨_,rfl⟩))
inductive CompP {α β:Type}(prog:Program)(w:World)(A:Around)(s:Shared)(scope:Scope)(cl:List (Str×Addr))(env:Env)(x:Str)(ifs:List Expr)(elt:Expr)(Ra:Rel α)(Rb:Rel β)(p:α→Bool)(f:α→β)(Q:Value→Shared→Prop)(it:Value)(s₂:Shared):Prop
 | mk (O:Org) (K:Heap) (L:Addr) (m:Str→Option Value) (led:List (Addr×Obj)) (I:Addr) (ob:Obj) (h:Heap) (tk:Nat) (xs:List α):it = .ref I→s₂=sh s h tk→xs.length≤2 ^ 24→St O K L m ((I,ob)::led) h→
   Src prog w A K h I Ra xs→CompBody prog w A s h I K scope cl env x ifs elt Ra Rb xs p f→
   (∀v K' h' tk',St O K' L m led h'→Sub K K'→(rList Rb).r K' v ((xs.filter p).map f)→Q v (sh s h' tk'))→CompP prog w A s scope cl env x ifs elt Ra Rb p f Q it s₂
theorem comp_list {Q:Value→Shared→Prop}{Ra:Rel α}{Rb:Rel β}{elt iter:Expr}{x:Str}{px:Pos}{ifs:List Expr}{scope:Scope}{cl:List (Str×Addr)}{pos:Pos}(p:α→Bool)(f:α→β)
  (hclos:closureFor scope env=pure cl)(hcell:∀y∈scope.names,y.2 ≠ .cell)(hkind:scope.kind = .function)
  (hnames:∀y∈scope.names,y.2 = .local→scope.names.lookup y.1=some .local)(hx:scope.names.lookup x=some .local)
  (hit:wpAny (model prog w) A (eval iter env) (fun xv s₁=>wpAny (model prog w) A (pyIter xv) (CompP prog w A s scope cl env x ifs elt Ra Rb p f Q) E s₁) E (sh s h tk))
  (hs:∀x,foldedSetIterable iter env x=pure x:=by intro _;rfl) :
  wpAny (model prog w) A (eval (.ListComp elt [⟨.Name x px,iter,ifs,0⟩] scope pos) env) Q E (sh s h tk):=by
 rw [eval_ListComp]
 refine wpAny_comprehension_free (use:=none) rfl hs hclos hkind hnames (wpAny_mono hit (fun xv s₁ h₁=>wpAny_mono h₁ (fun it s₂ h₂=>?_) fun _ _ e=>e) fun _ _ e=>e)
 obtain⟨O,K,L,m,led,I,ob,h,tk,xs,rfl,rfl,hsz,S,src,B,hQ⟩:=h₂
 refine comp_run (R:=fun acc C=>compPost (model prog w) A E none Q acc C) S src p f hcell hkind hx hsz B ?_
 intro D C K3 h2 tk2 mc hn hC hB g hv
 exact⟨mc,hn,fun h3 hs3=>hQ _ K3 h3 tk2 (S.back (g.sameBut hC (by rw [butI_get,hB];split <;> rfl) hs3)) g.kk hv⟩
end
end Mine
namespace Mine
noncomputable def stA (i:Nat):Stmt:=PySem.Challenge.pw_wz0005_01.main.body.getD i (.Pass ⟨0,0,0,0⟩)
noncomputable def bodyOf (x:Stmt):List Stmt:=by
 cases x with
 | FunctionDef _ _ b=>exact b
 | ClassDef _ _ _ b=>exact b
 | For _ _ b=>exact b
 | If _ b=>exact b
 | _=>exact []
noncomputable def scopeOf (x:Stmt):Scope:=by
 cases x with
 | FunctionDef _ _ _ _ _ _ sc=>exact sc
 | _=>exact default
noncomputable def argsOf (x:Stmt):Arguments:=by
 cases x with
 | FunctionDef _ a=>exact a
 | _=>exact⟨[],[],none,[],[],none,[]⟩
noncomputable def valOf (x:Stmt):Expr:=by
 cases x with
 | Assign _ v=>exact v
 | Expr v=>exact v
 | For _ v=>exact v
 | If v=>exact v
 | _=>exact .Name "" ⟨0,0,0,0⟩
noncomputable def kids (x:Expr):List Expr:=by
 cases x with
 | Call f a=>exact f::a
 | BinOp l _ r=>exact [l,r]
 | Compare l _ r=>exact l::r
 | Attribute o=>exact [o]
 | _=>exact []
noncomputable def kid (x:Expr)(i:Nat):Expr:=(kids x).getD i (.Name "" ⟨0,0,0,0⟩)
noncomputable def strOf (x:Expr):Str:=by
 cases x with
 | Constant c=>
  cases c with
  | str x=>exact x
  | _=>exact⟨#[]⟩
 | _=>exact⟨#[]⟩
inductive FnAt (h:Heap)(f:Addr)(params:Arguments)(body:List Stmt)(scope:Scope):Prop
 | mk (nm q:Str) (doc pm cd:Value):h.CodeRec cd q→∀o,h.get? f=some o→o.data = .func (fnOf nm q params body scope .none .none doc pm none cd .none)→FnAt h f params body scope
theorem CodeRec.sub {h h':Heap}{cd:Value}{q:Str}(x:h.CodeRec cd q)(hk:Sub h h'):h'.CodeRec cd q:=by
 obtain⟨c,o,vs,t,e,g,r⟩:=x;exact⟨c,o,vs,t,e,hk _ _ g,r⟩
theorem FnAt.sub {h h':Heap}{f:Addr} {params body scope}(x:FnAt h f params body scope)(hk:Sub h h'):FnAt h' f params body scope:=by
 obtain⟨nm,q,doc,pm,cd,hc,o,ho,hd⟩:=x;exact⟨nm,q,doc,pm,cd,CodeRec.sub hc hk,o,hk _ _ ho,hd⟩
theorem lookup_zip_loc:∀(ps:List Str)(vals:List Value)(rest:List Str)(ov:List (Option Value)),ps.length=vals.length→ps.Nodup→(∀v∈ov,v=none)→(∀y∈ps,y∉rest)→
  (fun x=>(ps.zip vals).reverse.lookup x)=loc (ps++rest) (vals.map some++ov)
 | [],[],rest,ov,_,_,hov,_=>by
  funext x
  have:∀(rest:List Str) (ov:List (Option Value)),(∀v∈ov,v=none)→loc rest ov x=none:=by
   intro rest
   induction rest with
   | nil=>intro ov _;rfl
   | cons n ns ih=>
    intro ov h
    cases ov with
    | nil=>rfl
    | cons v vs=>
     simp only [loc]
     split
     ·exact h v mem_cons_self
     ·exact ih vs fun v hv=>h v (mem_cons_of_mem _ hv)
  simpa using (this rest ov hov).symm
 | p::ps,v::vals,rest,ov,hl,hd,hov,hr=>by
  rw [nodup_cons] at hd
  have ih:=lookup_zip_loc ps vals rest ov (by simpa using hl) hd.2 hov fun y hy=>hr y (mem_cons_of_mem _ hy)
  funext x
  have ihx:=congrFun ih x
  simp only [List.zip_cons_cons,List.reverse_cons,List.lookup_append,cons_append,map_cons,loc]
  by_cases hx:x=p
  ·subst hx
   have h0:(ps.zip vals).reverse.lookup x=none:=by
    rw [ihx]
    have:∀(ps:List Str) (vals:List Value),ps.length=vals.length→x∉ps→loc (ps++rest) (vals.map some++ov) x=loc rest ov x:=by
     intro ps
     induction ps with
     | nil=>intro vals h _;cases vals with
      | nil=>rfl
      | cons _ _=>simp at h
     | cons a as ih=>
      intro vals h hm
      cases vals with
      | nil=>simp at h
      | cons b bs=>
       rw [mem_cons,not_or] at hm
       simp only [cons_append,map_cons,loc,if_neg hm.1]
       exact ih bs (by simpa using h) hm.2
    rw [this ps vals (by simpa using hl) hd.1]
    exact loc_none (hr x mem_cons_self)
   rw [h0];simp
  ·have hb:(x == p)=false:=beq_eq_false_iff_ne.mpr hx
   simp only [if_neg hx,List.lookup_cons,hb,List.lookup_nil,Option.or_none]
   exact ihx
 | [],_::_,_,_,h,_,_,_=>by simp at h
 | _::_,[],_,_,h,_,_,_=>by simp at h
section
theorem call_fn {k:Nat}{f:Addr}{params:Arguments}{body:List Stmt}{scope:Scope}{vals:List Value}{Q:Value→Shared→Prop}(ps rest:List Str)(ov:List (Option Value))
  (hA:OkA A (k+1))(F:FnAt h f params body scope)(hn:h.NoLimit)(hs:Sub K h)
  (hb:∀nm q doc pm cd,bindArgs (fnOf nm q params body scope .none .none doc pm none cd .none) ⟨vals,[]⟩=pure (ps.zip vals))
  (hl:ps.length=vals.length)(hd:ps.Nodup)(hov:∀v∈ov,v=none)(hr:∀y∈ps,y∉rest)
  (hloc:∀x∈ps,scope.names.lookup x=some .local)(hcell:∀x∈scope.names,x.2 ≠ .cell)
  (c:∀A' h₀ tk₀ q L cd,OkA A' k→St ⟨h,K⟩ K L (loc (ps++rest) (vals.map some++ov)) [] h₀→
   wpAny (model prog w) A' (execs body (en q scope L f cd [])) (fun fl s'=>Q (match fl with | .ret v=>v|_=>.none) s') (fun _ _=>False) (sh s h₀ tk₀))
  (hco:scope.isCoroutine=false:=by rfl)(hgen:scope.isGenerator=false:=by rfl)(hk:scope.kind = .function:=by rfl) :
  wpAny (model prog w) A (call (.ref f) vals) Q E (sh s h tk):=by
 obtain⟨nm,q,doc,pm,cd,hc,o,ho,hdata⟩:=F
 refine wpAny_call ?_
 refine codeAny_call_def (s:=sh s h tk) (binds:=ps.zip vals) hA.room ho hdata hn hc rfl (BindsTo.of_eq (hb ..)) hcell (fun x hx=>hloc x.1 (of_mem_zip hx).1) (fun h₀ hns hk₀=>?_) hco hgen hk
 rw [lookup_zip_loc ps vals rest ov hl hd hov hr] at hns
 have S:St ⟨h,K⟩ K h.objs.size (loc (ps++rest) (vals.map some++ov)) [] h₀:=St.enter hs hns hk₀
 refine wpAny_mono (c _ h₀ _ q h.objs.size cd (OkA.deeper hA) S) (fun fl s' hq=>?_) fun _ _ e=>e.elim
 cases fl <;> exact hq
end
noncomputable def gRef:List (Str×Addr):=[("quotedata",48),("TupleComp",72),("add_callers",83),("count_calls",90),("EXACT_TOKEN_TYPES",91),("ISTERMINAL",100),("ISNONTERMINAL",107),("ISEOF",114),
 ("_law_tape",119),("_law_rules",126),("_law_texts",133),("_law_many",140),("_law_states",145),("_law_first",150),("_twin_re_1",36),("_twin_re_2",41)]
noncomputable def gInt:List (Str×Int):=[("NT_OFFSET",256),("ENDMARKER",0)]
noncomputable def gBlt:List (Str×Value):=[("isinstance",.builtin "isinstance"),("tuple",.type "tuple"),("range",.type "range"),("sorted",.builtin "sorted"),("len",.builtin "len"),("set",.type "set"),("sum",.builtin "sum")]
structure Mod (base:Heap):Prop where
 nolimit:base.NoLimit
 names:∃mg mb,base.Ns mainGlobals mg∧base.Ns builtinsNs mb∧(∀p∈gRef,mg p.1=some (.ref p.2))∧(∀p∈gInt,∃t,mg p.1=some (.int p.2 t))∧(∃t,mg "CRLF" = some (.str "\r\n" t))∧
  (∀p∈gBlt,mg p.1=none∧mb p.1=some p.2)
 fns:∀p∈([(48,5),(83,8),(90,9),(100,62),(107,63),(114,64),(119,66),(126,67),(133,68),(140,69),(145,70),(150,71)]:List (Nat×Nat)),FnAt base p.1 (argsOf (stA p.2)) (bodyOf (stA p.2)) (scopeOf (stA p.2))
 noSys:sysModules<mainGlobals
theorem sys_lt {base h:Heap}(B:Mod base)(hs:Sub base h):@LT.lt Nat _ sysModules h.objs.size:=by
 obtain⟨mg,mb,h1,_⟩:=B.names
 exact Nat.lt_trans B.noSys (h1.keeps hs).lt
theorem not_sys {base h:Heap}(B:Mod base)(hs:Sub base h):((h.objs.size:Addr) == sysModules)=false:=by
 rw [beq_eq_false_iff_ne];exact Nat.ne_of_gt (sys_lt B hs)
section
variable {M:Model}
theorem gl_ref (B:Mod base)(hs:Sub base h){x:Str}{pos:Pos}{a:Addr}{Q:Value→Shared→Prop}(k:Q (.ref a) (sh s h tk))(hm:(x,a)∈gRef:=by simp [gRef])(hg:env.globals=mainGlobals:=by rfl)
  (hl:env.kindOf x=some .globalImplicit:=by rfl)(hk:env.scope.kind = .function:=by rfl)(hdb:(x == ("__debug__" : Str))=false:=by rfl):wpAny M A (eval (.Name x pos) env) Q E (sh s h tk):=by
 obtain⟨mg,mb,h1,h2,h3,h4,h5,h6⟩:=B.names
 exact Calls.Name_function_global hk hl (Calls.loadGlobal_global (hg▸h1.keeps hs) (h3 _ hm) k) hdb
theorem gl_int (B:Mod base)(hs:Sub base h){x:Str}{pos:Pos}{a:Int}{Q:Value→Shared→Prop}(k:∀t,Q (.int a t) (sh s h tk))(hm:(x,a)∈gInt:=by simp [gInt])(hg:env.globals=mainGlobals:=by rfl)
  (hl:env.kindOf x=some .globalImplicit:=by rfl)(hk:env.scope.kind = .function:=by rfl)(hdb:(x == ("__debug__" : Str))=false:=by rfl):wpAny M A (eval (.Name x pos) env) Q E (sh s h tk):=by
 obtain⟨mg,mb,h1,h2,h3,h4,h5,h6⟩:=B.names
 obtain⟨t,ht⟩:=h4 _ hm
 exact Calls.Name_function_global hk hl (Calls.loadGlobal_global (hg▸h1.keeps hs) ht (k t)) hdb
theorem gl_crlf (B:Mod base)(hs:Sub base h){pos:Pos}{Q:Value→Shared→Prop}(k:∀t,Q (.str "\r\n" t) (sh s h tk))(hg:env.globals=mainGlobals:=by rfl)
  (hl:env.kindOf "CRLF" = some .globalImplicit:=by rfl)(hk:env.scope.kind = .function:=by rfl):wpAny M A (eval (.Name "CRLF" pos) env) Q E (sh s h tk):=by
 obtain⟨mg,mb,h1,h2,h3,h4,⟨t,ht⟩,h6⟩:=B.names
 exact Calls.Name_function_global hk hl (Calls.loadGlobal_global (hg▸h1.keeps hs) ht (k t)) (by decide)
theorem gl_blt (B:Mod base)(hs:Sub base h){x:Str}{pos:Pos}{v:Value}{Q:Value→Shared→Prop}(k:Q v (sh s h tk))(hm:(x,v)∈gBlt:=by simp [gBlt])(hg:env.globals=mainGlobals:=by rfl)(hgb:env.builtins=builtinsNs:=by rfl)
  (hl:env.kindOf x=some .globalImplicit:=by rfl)(hk:env.scope.kind = .function:=by rfl)(hdb:(x == ("__debug__" : Str))=false:=by rfl):wpAny M A (eval (.Name x pos) env) Q E (sh s h tk):=by
 obtain⟨mg,mb,h1,h2,h3,h4,h5,h6⟩:=B.names
 exact Calls.Name_function_global hk hl (Calls.loadGlobal_builtin (hg▸h1.keeps hs) (h6 _ hm).1 (hgb▸h2.keeps hs) (h6 _ hm).2 k) hdb
end
section
variable {M:Model}
theorem cw_blt {pos:Pos}{id:String}{e:Expr}{rest:List Expr}{Q:Value→Shared→Prop}
  (h:wpAny M A (spliced (backTo pos (starEach (e::rest) env))) (fun vs s₁=>wpAny M A (call (.builtin id) vs) Q E s₁) E s)
  (he:starEach (e::rest) env=(false,eval e env)::starEach rest env:=by rfl)
  (hplain:(backTo pos (starEach rest env)).any (·.1)=false:=by rfl) :
  wpAny M A (callWith pos (.builtin id) [] (backTo pos (starEach (e::rest) env)) []) Q E s:=PyProof.Rows.callWith_builtin1 h he hplain
theorem cw_type {pos:Pos}{T:String}{e:Expr}{rest:List Expr}{Q:Value→Shared→Prop}
  (h:wpAny M A (spliced (backTo pos (starEach (e::rest) env))) (fun vs s₁=>wpAny M A (call (.type T) vs) Q E s₁) E s)
  (he:starEach (e::rest) env=(false,eval e env)::starEach rest env:=by rfl)
  (hplain:(backTo pos (starEach rest env)).any (·.1)=false:=by rfl) :
  wpAny M A (callWith pos (.type T) [] (backTo pos (starEach (e::rest) env)) []) Q E s:=PyProof.Rows.callWith_type1 h he hplain
theorem cw_fn {pos:Pos}{f:Addr}{params:Arguments}{body:List Stmt}{scope:Scope}{e:Expr}{rest:List Expr}{Q:Value→Shared→Prop}(F:FnAt base f params body scope)
  (h:wpAny M A (spliced (backTo pos (starEach (e::rest) env))) (fun vs s₁=>Sub base s₁.heap∧wpAny M A (call (.ref f) vs) Q E s₁) E s)
  (he:starEach (e::rest) env=(false,eval e env)::starEach rest env:=by rfl) :
  wpAny M A (callWith pos (.ref f) [] (backTo pos (starEach (e::rest) env)) []) Q E s:=by
 obtain⟨nm,q,doc,pm,cd,hc,o,ho,hd⟩:=F
 exact PyProof.Rows.callWith_def hd (wpAny_mono h (fun vs s₁ h₁=>⟨h₁.1 _ _ ho,h₁.2⟩) fun _ _ e=>e) he
end
end Mine
namespace Mine
abbrev DS:=List (Str×Int)
noncomputable def bump (d:DS)(k:Str)(v:Int):DS:=if d.any (fun e=>decide (e.1=k)) then d.map (fun e=>if e.1=k then (e.1,e.2+v) else e) else d++[(k,v)]
noncomputable def addD (t s:DS):DS:=s.foldl (fun acc e=>bump acc e.1 e.2) t
noncomputable def getD' (d:DS)(k:Str):Option Int:=(d.find? fun e=>decide (e.1=k)).map (·.2)
theorem bump_keys (d:DS)(k:Str)(v:Int):(bump d k v).map (·.1)=if d.any (fun e=>decide (e.1=k)) then d.map (·.1) else d.map (·.1)++[k]:=by
 unfold bump
 split
 ·rw [map_map]
  apply map_congr_left
  intro e _
  by_cases he:e.1=k <;> simp [he]
 ·simp
theorem bump_nodup {d:DS}(hd:(d.map (·.1)).Nodup)(k:Str)(v:Int):((bump d k v).map (·.1)).Nodup:=by
 rw [bump_keys]
 split
 ·exact hd
 ·rename_i h
  rw [List.nodup_append]
  refine⟨hd,by simp,fun a ha b hb=>?_⟩
  rw [mem_singleton] at hb;subst hb
  rintro rfl
  apply h
  obtain⟨e,he,rfl⟩:=mem_map.mp ha
  exact any_eq_true.mpr ⟨e,he,by simp⟩
theorem bump_length (d:DS)(k:Str)(v:Int):(bump d k v).length≤d.length+1:=by
 unfold bump;split <;> simp
theorem addD_length (s:DS):∀t:DS,(addD t s).length≤t.length+s.length:=by
 induction s with
 | nil=>intro t;exact Nat.le_refl _
 | cons e r ih=>
  intro t
  have h1:=ih (bump t e.1 e.2)
  have h2:=bump_length t e.1 e.2
  show (addD (bump t e.1 e.2) r).length≤_
  rw [length_cons];exact lp [_,_,_,_] [(zA,.add zB zC),(zB,su zD)] zA (.add zD (su zC)) rfl h1 h2
theorem find_unique {α β:Type}[DecidableEq α]{d:List (α×β)}(hd:(d.map (·.1)).Nodup){k:α}{b:β}(hf:d.find? (fun e=>decide (e.1=k))=some (k,b)):∀e∈d,e.1=k→e.2=b:=by
 induction d with
 | nil=>intro e he;cases he
 | cons x r ih=>
  rw [map_cons,nodup_cons] at hd
  intro e he hk
  by_cases hx:x.1=k
  ·have hx2:x=(k,b):=by simpa [find?_cons,hx] using hf
   rcases mem_cons.mp he with rfl|he
   ·rw [hx2]
   ·exact absurd (mem_map.mpr ⟨e,he,hk.trans hx.symm⟩) hd.1
  ·have hf':r.find? (fun e=>decide (e.1=k))=some (k,b):=by simpa [find?_cons,hx] using hf
   rcases mem_cons.mp he with rfl|he
   ·exact absurd hk hx
   ·exact ih hd.2 hf' e he hk
theorem bump_old {d:DS}(hd:(d.map (·.1)).Nodup){k:Str}{old:Int}(v:Int)(hf:d.find? (fun e=>decide (e.1=k))=some (k,old)) :
  bump d k v=d.map (fun e=>if e.1=k then (e.1,old+v) else e):=by
 unfold bump
 rw [if_pos (any_eq_true.mpr ⟨_,mem_of_find?_eq_some hf,by simp⟩)]
 apply map_congr_left
 intro e he
 by_cases hk:e.1=k
 ·rw [if_pos hk,if_pos hk,find_unique hd hf e he hk]
 ·rw [if_neg hk,if_neg hk]
section
variable {κ:Type}[DecidableEq κ]{R:Value→α→Prop}
abbrev PR (R:Value→α→Prop):κ×Value→κ×α→Prop:=fun p x=>p.1=x.1∧R p.2 x.2
theorem pr_any {kvs:List (κ×Value)}{xs:List (κ×α)}(x:All2 (PR R) kvs xs)(k:κ):(kvs.any fun e=>decide (e.1=k))=xs.any fun e=>decide (e.1=k):=by
 induction x with
 | nil=>rfl
 | cons h _ ih=>simp only [List.any_cons,h.1,ih]
theorem pr_keys {kvs:List (κ×Value)}{xs:List (κ×α)}(x:All2 (PR R) kvs xs):kvs.map (·.1)=xs.map (·.1):=by
 induction x with
 | nil=>rfl
 | cons h _ ih=>simp only [map_cons,h.1,ih]
theorem pr_at {kvs:List (κ×Value)}{xs:List (κ×α)}(x:All2 (PR R) kvs xs)(k:κ) :
  (valueAt kvs k=none∧xs.find? (fun e=>decide (e.1=k))=none)∨∃v a,valueAt kvs k=some v∧xs.find? (fun e=>decide (e.1=k))=some (k,a)∧R v a:=by
 induction x with
 | nil=>exact .inl ⟨rfl,rfl⟩
 | @cons p y ps ys h t ih=>
  by_cases hk:p.1=k
  ·refine .inr ⟨p.2,y.2,by simp [valueAt,hk],?_,h.2⟩
   have:y.1=k:=h.1▸hk
   subst this
   simp
  ·have hk':¬y.1=k:=h.1▸hk
   simpa [valueAt,find?_cons,hk,hk'] using ih
theorem pr_set {kvs:List (κ×Value)}{xs:List (κ×α)}(x:All2 (PR R) kvs xs)(k:κ){v:Value}{a:α}(h:R v a) :
  All2 (PR R) (stored kvs k v) (if xs.any (fun e=>decide (e.1=k)) then xs.map (fun e=>if e.1=k then (e.1,a) else e) else xs++[(k,a)]):=by
 unfold stored
 rw [pr_any x k]
 split
 ·rename_i hany;clear hany
  induction x with
  | nil=>exact .nil
  | @cons p y ps ys h1 t ih=>
   refine .cons ?_ ih
   dsimp only
   by_cases hk:y.1=k
   ·rw [if_pos (h1.1.trans hk),if_pos hk];exact⟨h1.1,h⟩
   ·rw [if_neg (fun e=>hk (h1.1.symm.trans e)),if_neg hk];exact h1
 ·exact x.snoc ⟨rfl,h⟩
end
end Mine
namespace Mine
section
variable {κ:Type}[DecidableEq κ]{knd:PySem.KeyKind prog w κ}
abbrev itemO (d:Addr)(i n ep:Nat)(ok ov:Value):Obj:={ cls:=.type "dict_itemiterator",dict:=none,data:=.fields #[.none,.bool false,.ref d,.int i 0,.int n 0,.int ep 0,ok,ov],slots:=#[] }
theorem St.stepAt (S:St O K env.locals m led h){h':Heap}{I:Addr}{o o':Obj}(i:Nat)(hi:led[i]?=some (I,o))(hk:∀b x,b≠I→h.get? b=some x→h'.get? b=some x)(ho:h'.get? I=some o') :
  St O K env.locals m (led.set i (I,o')) h':=by
 have hI:=S.ledg _ (mem_of_getElem? hi)
 refine S.move (fun b x hb hx e=>hk b x (fun q=>?_) e) (S.ns.at' fun x e=>hk _ x (Ne.symm hI.2.1) e) (fun p hp=>?_) (by rw [map_fst_set led i I o o' hi];exact S.nodup)
 ·subst q
  rcases hx with hx|hx
  ·rw [hI.2.2.1] at hx;cases hx
  ·rw [hI.2.2.2] at hx;cases hx
 ·obtain⟨j,hj⟩:=mem_iff_getElem?.mp hp
  rw [List.getElem?_set] at hj
  by_cases hij:i=j
  ·subst hij
   rw [if_pos rfl] at hj
   split at hj
   ·cases hj;exact⟨ho,hI.2⟩
   ·cases hj
  ·rw [if_neg hij] at hj
   have P:=S.ledg p (mem_of_getElem? hj)
   refine⟨hk _ _ (fun q=>hij ?_) P.1,P.2⟩
   have:led[j]?=some (I,p.2):=by rw [hj,←q]
   exact nodup_get_inj S.nodup hi this
inductive ItemsI (O:Org)(K:Heap)(L I d:Addr)(ep:Nat)(J:Nat→Heap→(Str→Option Value)→List (Addr×Obj)→Prop)(n:Nat)(s:Shared)(k:Nat)(s':Shared):Prop
 | mk (i:Nat) (K1:Heap) (m1:Str→Option Value) (led1:List (Addr×Obj)) (h1:Heap) (tk1:Nat) (ok ov:Value):s'=sh s h1 tk1→k=n+1 - i→i≤n→Sub K K1→J i K1 m1 led1→St O K1 L m1 ((I,itemO d i n ep ok ov)::led1) h1→ItemsI O K L I d ep J n s k s'
theorem for_items {k:Nat}{Qf:Flow→Shared→Prop}{xk xv:Str}{pk pv pt:Pos}{x1:Nat}{body rest:List Stmt}{I d:Addr}{od:Obj}{kvs:List (κ×Value)}{ep:Nat}
  (hA:OkA A k)(hxk:env.kindOf xk=some .local)(hxv:env.kindOf xv=some .local)(hk:env.scope.kind = .function)
  (hd:K.get? d=some od)(hda:∀h':Heap,h'.get? d=some od→h'.DictAt knd d kvs ep)
  (S:St O K env.locals m ((I,itemO d 0 kvs.length ep .none .none)::led) h)(J:Nat→Heap→(Str→Option Value)→List (Addr×Obj)→Prop)(hJ:J 0 K m led)
  (turn:∀i k v key K1 m1 led1 h1 tk1 ob1 E' (Q':Flow→Shared→Prop),kvs[i]?=some (k,v)→knd.is k key=true→Sub K K1→J i K1 m1 led1→
   St O K1 env.locals (fun y=>if y=xv then some v else if y=xk then some key else m1 y) ((I,ob1)::led1) h1→
   (∀K' m' led' h' tk',Sub K1 K'→J (i+1) K' m' led'→St O K' env.locals m' ((I,ob1)::led') h'→Q' .next (sh s h' tk'))→
   wpAny (model prog w) A (execs body env) Q' E' (sh s h1 tk1))
  (done:∀K1 m1 led1 h1 tk1,Sub K K1→J kvs.length K1 m1 led1→St O K1 env.locals m1 led1 h1→wpAny (model prog w) A (execs rest env) Qf E (sh s h1 tk1)) :
  ForP prog w A E env (.Tuple [.Name xk pk,.Name xv pv] x1 pt) body rest Qf (.ref I) (sh s h tk):=by
 unfold ForP
 have hp:(env.scope.kind == .class||(env.scope.kind == .module&&env.locals != env.globals))=false:=by rw [hk];rfl
 refine codeAny_forLoop_any (ItemsI O K env.locals I d ep J kvs.length s) (fun n s' H=>?_) (kvs.length+1) (.mk 0 K m led h tk .none .none rfl rfl (Nat.zero_le _) (Sub.refl _) hJ S)
 obtain⟨i,K1,m1,led1,h1,tk1,ok,ov,rfl,rfl,hi,hK,hJ1,S1⟩:=H
 clear S hJ
 have hI:=S1.ledg _ mem_cons_self
 have hd1:=S1.stays _ _ (hK _ _ hd)
 have hnd:=S1.nodup
 rw [map_cons,nodup_cons] at hnd
 cases hv:kvs[i]? with
 | none=>
  have hsz:i=kvs.length:=nA hi (by simpa using hv)
  subst hsz
  refine wpAny_pyNext_items_end (s:=sh s h1 tk1) (knd:=knd) (kvs:=kvs) hA.handled hI.1 (hda _ hd1) hv fun h₁ he₁=>wpAny_execs_nil ?_
  refine done K1 m1 led1 h₁ tk1 hK hJ1 (S1.move (fun b o hb hx e=>he₁ b o (fun q=>?_) e) (S1.ns.at' fun o e=>he₁ _ o (Ne.symm hI.2.1) e) (fun p hp=>?_) hnd.2)
  ·subst q
   rcases hx with hx|hx
   ·rw [hI.2.2.1] at hx;cases hx
   ·rw [hI.2.2.2] at hx;cases hx
  ·have P:=S1.ledg p (mem_cons_of_mem _ hp)
   exact⟨he₁ _ _ (fun q=>hnd.1 (mem_map.mpr ⟨p,hp,q⟩)) P.1,P.2⟩
 | some kv=>
  obtain⟨k,v⟩:=kv
  have hlt:i<kvs.length:=(List.getElem?_eq_some_iff.mp hv).1
  have hIH:I<h1.objs.size:=get_lt hI.1
  have hLH:env.locals<h1.objs.size:=S1.ns.lt
  refine wpAny_pyNext_items_item (s:=sh s h1 tk1) (knd:=knd) (kvs:=kvs) hI.1 (hda _ hd1) hv fun key h₂ hkey heo ht₂ hz₂ hk₂=>?_
  have S2:=S1.stepAt 0 rfl hk₂ heo
  refine wpAny_letOwnedTupleGo_items (s:=sh s h₂ tk1) heo fun h₃ he₃ hs₃=>?_
  have S3:=S2.turn 0 rfl hs₃ he₃
  have ht₃:h₃.IsTuple h1.objs.size #[key,v]:=⟨_,(hs₃.2 _ (Nat.ne_of_gt hIH)).trans ht₂,rfl,_,rfl⟩
  refine wpAny_assign_Tuple (s:=sh s h₃ tk1) hA.handled ht₃ rfl rfl fun h₄ hx₄=>?_
  have S4:St O K1 env.locals m1 ((I,itemO d (i+1) kvs.length ep key v)::led1) h₄:=by
   refine S3.move (fun b o hb hx e=>hx₄ b o ?_ e) (S3.ns.at' fun o e=>hx₄ _ o (Nat.ne_of_lt (get_lt e)) e) (fun p hp=>?_) S3.nodup
   ·exact Nat.ne_of_lt (get_lt e)
   ·have P:=S3.ledg p hp
    exact⟨hx₄ _ _ (Nat.ne_of_lt (get_lt P.1)) P.1,P.2⟩
  show wpAny _ _ (do holding [v] (assign (.Name xk pk) env key);do holding [] (assign (.Name xv pv) env v);pure ()) _ _ _
  refine wpAny_bind (wpAny_holding (wpAny_assign_Name (wpAny_storeName_local hxk S4.ns (fun h₅ hn₅ hs₅=>?_) hp)))
  have S5:=S4.store hn₅ hs₅
  refine wpAny_bind (wpAny_holding (wpAny_assign_Name (wpAny_storeName_local hxv S5.ns (fun h₆ hn₆ hs₆=>wpAny_pure ?_) hp)))
  have S6:=S5.store hn₆ hs₆
  refine turn i k v key K1 m1 led1 h₆ _ _ _ _ hv hkey hK hJ1 S6 fun K' m' led' h' tk' hK' hJ' S'=>?_
  exact⟨kvs.length+1 - (i+1),Nat.sub_lt_sub_left (Nat.lt_succ_of_lt hlt) (Nat.lt_succ_self i),.mk (i+1) K' m' led' h' tk' key v rfl rfl hlt (hK.trans hK') hJ' S'⟩
end
end Mine
namespace Mine
section
variable {κ:Type}[DecidableEq κ]{knd:PySem.KeyKind prog w κ}
theorem set_dict (S:St O K L m led h)(i:Nat){D:Addr}{o:Obj}{kvs:List (κ×Value)}{k:κ}{key v:Value}{Q:Unit→Shared→Prop}(hi:led[i]?=some (D,o))(hd:dictO knd o kvs)(hkey:knd.is k key=true)
  (hsz:kvs.length≤sizeLine)(c:∀o' h' tk',dictO knd o' (stored kvs k v)→St O K L m (led.set i (D,o')) h'→Q () (sh s h' tk')):wpAny (model prog w) A (setItem (.ref D) key v) Q E (sh s h tk):=by
 refine wpAny_setItem_pairs (s:=sh s h tk) (knd:=knd) hkey (dictOf_of (S.at i hi) hd) (fun h' hd' hs'=>?_) hsz
 obtain⟨o',ho',hdo'⟩:=dictO_of hd'
 exact c o' h' _ hdo' (S.turn i hi hs' ho')
abbrev emptyD:Obj:={ cls:=.type "dict",data:=.dict #[] }
theorem dictO_empty (knd:PySem.KeyKind prog w κ):dictO knd emptyD []:=⟨#[],0,⟨rfl,rfl,rfl⟩,rfl,fun _ he=>by simp at he,Pairs.nil,nodup_nil⟩
theorem dict_new {base:Heap}{pos:Pos}{Q:Value→Shared→Prop}(B:Mod base)(hb:Sub base h)(S:St O K L m led h)(c:∀D h',O.B.objs.size≤D→((D:Addr) == sysModules)=false→St O K L m ((D,emptyD)::led) h'→Q (.ref D) (sh s h' tk)) :
  wpAny (model prog w) A (eval (.Dict [] [] pos) env) Q E (sh s h tk):=wpAny_Dict_empty (c _ _ S.sizeB (not_sys B hb) (S.push emptyD))
theorem items_call {α:Type}{R:Rel α}{o:Expr}{apos pos:Pos}{v:Value}{xs:List (κ×α)}{Q:Value→Shared→Prop}(S:St O K L m led h)(r:(rDict knd R).r K v xs)
  (ho:∀Q',Q' v (sh s h tk)→wpAny (model prog w) A (eval o env) Q' E (sh s h tk))
  (c:∀V d h',v = .ref d→h'.IsItemsView V d→Sub h h'→St O K L m ((V,{ cls:=.type "dict_items",data:=.fields #[.ref d] })::led) h'→Q (.ref V) (sh s h' tk))
  (hbase:attributeBase o "items" env (eval o env)=eval o env:=by rfl)(hline:(apos.endLine == pos.line)=true:=by rfl) :
  wpAny (model prog w) A (eval (.Call (.Attribute o "items" apos) [] [] pos) env) Q E (sh s h tk):=by
 obtain⟨d,od,kvs,rfl,hs,hd,hdo,x⟩:=r
 refine wpAny_Call_items (s:=sh s h tk) hs (dictOf_of (S.stays _ _ hd) hdo) hbase hline ho ?_
 exact c _ d _ rfl ⟨_,Heap.get?_push_size _ rfl,rfl,rfl⟩ (fun b o e=>Heap.get?_push_of_some _ e) (S.push { cls:=.type "dict_items",data:=.fields #[.ref d] })
end
noncomputable def acN:List Str:=["target","source","new_callers","func","caller"]
theorem acN_nd:acN.Nodup:=by decide
section
theorem take_stored {kt:List (Str×Value)}{i:Nat}{kk:Str}{vv:Value}(hnd:(kt.map (·.1)).Nodup)(hkv:kt[i]?=some (kk,vv)):stored (kt.take i) kk vv=kt.take (i+1):=by
 have hlt:i<kt.length:=(List.getElem?_eq_some_iff.mp hkv).1
 rw [take_add_one,hkv]
 unfold stored
 rw [if_neg]
 ·rfl
 ·intro hany
  obtain⟨p,hp,hpk⟩:=any_eq_true.mp hany
  have hpk':p.1=kk:=of_decide_eq_true hpk
  obtain⟨j,hj,rfl⟩:=List.getElem_of_mem hp
  have hj':j<i:=by rw [length_take] at hj;exact nT hj (Nat.min_le_left _ _)
  rw [List.getElem_take] at hpk'
  have h1:(kt.map (·.1))[j]?=some kk:=by rw [getElem?_map,getElem?_eq_getElem (Nat.lt_trans hj' hlt),Option.map_some,hpk']
  have h2:(kt.map (·.1))[i]?=some kk:=by rw [getElem?_map,hkv];rfl
  exact absurd ((List.getElem?_inj (by rw [length_map];exact Nat.lt_trans hj' hlt) hnd).mp (h1.trans h2.symm)) (Nat.ne_of_lt hj')
theorem put_new {K:Heap}{kvs:List (Str×Value)}{T:DS}{kk:Str}{a:Int}{ta:Tok}(hx:All2 (PR (rInt.r K)) kvs T)(hf:T.find? (fun e=>decide (e.1=kk))=none):All2 (PR (rInt.r K)) (stored kvs kk (.int a ta)) (bump T kk a):=by
 have:=pr_set hx kk (v:=.int a ta) (a:=a) ⟨ta,rfl⟩
 have hany:T.any (fun e=>decide (e.1=kk))=false:=by
  rw [List.any_eq_false]
  exact fun e he=>find?_eq_none.mp hf e he
 unfold bump
 rw [hany] at this ⊢
 exact this
theorem put_old {K:Heap}{kvs:List (Str×Value)}{T:DS}{kk:Str}{a old:Int}{tt:Tok}(hx:All2 (PR (rInt.r K)) kvs T)(hnd:(T.map (·.1)).Nodup)(hf:T.find? (fun e=>decide (e.1=kk))=some (kk,old)):All2 (PR (rInt.r K)) (stored kvs kk (.int (old+a) tt)) (bump T kk a):=by
 rw [bump_old hnd a hf]
 have:=pr_set (R:=rInt.r K) hx kk (v:=.int (old+a) tt) (a:=old+a) ⟨tt,rfl⟩
 rwa [if_pos (any_eq_true.mpr ⟨_,mem_of_find?_eq_some hf,by simp⟩)] at this
inductive AcI (prog:Program)(w:World)(K:Heap)(D:Addr)(v1 v2:Value)(P:Nat→List (Str×Value)→Prop):Nat→Heap→(Str→Option Value)→List (Addr×Obj)→Prop
 | mk (i:Nat) (o:Obj) (x y:Option Value) (kvs:List (Str×Value)):dictO (strKind prog w) o kvs→P i kvs→AcI prog w K D v1 v2 P i K (loc acN [some v1,some v2,some (.ref D),x,y]) [(D,o)]
theorem add_call {k:Nat}{v1 v2:Value}{t u:DS}{Q:Value→Shared→Prop}(B:Mod base)(hb:Sub base K)(hs:Sub K h)(hA:OkA A (k+1))(r1:(rDict (strKind prog w) rInt).r K v1 t)(r2:(rDict (strKind prog w) rInt).r K v2 u)
  (hsz:t.length+u.length≤2 ^ 24)(c:∀K' h' tk' v,Grow K h K' h'→(rDict (strKind prog w) rInt).r K' v (addD t u)→Q v (sh s h' tk')) :
  wpAny (model prog w) A (call (.ref 83) [v1,v2]) Q E (sh s h tk):=by
 refine call_fn (k:=k) ["target","source"] ["new_callers","func","caller"] [none,none,none] hA ((B.fns (83,8) (by decide)).sub (hb.trans hs)) (B.nolimit.keeps (hb.trans hs)) hs (fun _ _ _ _ _=>rfl) rfl (by decide) (by simp) (by decide) (by decide) (by decide) (fun A' h₀ tk₀ q L cd hA' S=>?_)
 replace S:St ⟨h,K⟩ K (en q (scopeOf (stA 8)) L 83 cd []).locals (loc acN [some v1,some v2,none,none,none]) [] h₀:=S
 refine as_st (dict_new B (hb.trans S.stays) S fun D hD hlow hsys SD=>stn SD 2 acN_nd fun h1 tk1 S1=>?_)
 clear S SD
 obtain⟨dt,ot,kt,e1,hst,ht,hto,xt⟩:=id r1
 obtain⟨ds,os,ks,e2,hss,hds,hso,xs⟩:=id r2
 obtain⟨ept,hat⟩:=dictAt_of ht hto
 obtain⟨eps,hes⟩:=dictAt_of hds hso
 have hnd:(kt.map (·.1)).Nodup:=hto.nodup
 refine for_st (items_call S1 r1 (fun Q' hq=>ld S1 0 acN_nd hq) fun V d' h2 ed hV hsub S2=>?_)
 obtain rfl:d'=dt:=by rw [e1] at ed;cases ed;rfl
 refine wpAny_pyIter_items (s:=sh s h2 tk1) (knd:=strKind prog w) (kvs:=kt) hV (hat.at' fun o e=>S2.stays _ _ e) ?_
 refine for_items (knd:=strKind prog w) (kvs:=kt) (od:=ot) (ep:=ept) (I:=h2.objs.size) (led:=[(D,emptyD)]) hA' rfl rfl rfl ht (fun h' e=>hat.at' fun o e'=>by rw [ht] at e';cases e';exact e)
  ((S2.push (itemO d' 0 kt.length ept .none .none)).drop (by simp)) (AcI prog w K D v1 v2 fun i kvs=>kvs=kt.take i) (.mk 0 _ _ _ _ (dictO_empty _) rfl) ?_ ?_
 ·clear S1 S2 hV hsub c xs hes hso hds hss r1 r2 hst hto ht hat
  intro i kk vv key K1 m1 led1 h3 tk3 ob1 E' Q' hkv hkey _ hq1 S3 next
  obtain⟨o,x,y,kvs,hdo,hP⟩:=hq1
  replace hdo:dictO (strKind prog w) o (kt.take i):=(show kvs=kt.take i from hP)▸hdo
  rw [loc_set2 3 4 (ns:=acN) rfl rfl acN_nd (by simp) (by simp)] at S3
  have hlt:i<kt.length:=(List.getElem?_eq_some_iff.mp hkv).1
  refine wpAny_execs_cons (wpAny_Assign_Subscript (ld S3 4 acN_nd (ld S3 2 acN_nd (ld S3 3 acN_nd ?_))))
  refine set_dict S3 1 rfl hdo hkey (by rw [length_take];have:=xt.length;show _≤2 ^ 24;exact lp [_,_,_,_] [(.add zA zB,.num 16777216),(zC,zA),(zD,zC)] zD (.num 16777216) rfl hsz (eqL this) (Nat.min_le_right _ _)) fun o' h4 tk4 hdo' S4=>?_
  rw [take_stored hnd hkv] at hdo'
  exact wpAny_execs_nil (next K _ _ h4 tk4 (Sub.refl _) (.mk (i+1) o' _ _ _ hdo' rfl) S4)
 intro K1 m1 led1 h3 tk3 _ hq1 S3
 obtain⟨o,x,y,kvs,hdo,hP⟩:=hq1
 obtain rfl:kvs=kt:=(show kvs=kt.take kt.length from hP).trans take_length
 clear S1 S2 hV hsub hat ht hto hst hnd r1
 refine for_st (items_call S3 r2 (fun Q' hq=>ld S3 1 acN_nd hq) fun V2 d2 h4 ed2 hV2 hsub2 S4=>?_)
 obtain rfl:d2=ds:=by rw [e2] at ed2;cases ed2;rfl
 refine wpAny_pyIter_items (s:=sh s h4 tk3) (knd:=strKind prog w) (kvs:=ks) hV2 (hes.at' fun o e=>S4.stays _ _ e) ?_
 refine for_items (knd:=strKind prog w) (kvs:=ks) (od:=os) (ep:=eps) (I:=h4.objs.size) (led:=[(D,o)]) hA' rfl rfl rfl hds (fun h' e=>hes.at' fun o e'=>by rw [hds] at e';cases e';exact e)
  ((S4.push (itemO d2 0 ks.length eps .none .none)).drop (by simp)) (AcI prog w K D v1 v2 fun i kvs=>All2 (PR (rInt.r K)) kvs (addD t (u.take i))) (.mk 0 _ _ _ _ hdo (by simpa [addD] using xt)) ?_ ?_
 ·clear S3 S4 hV2 hsub2 c hdo hes hso hds hss r2
  intro i kk vv key K1 m1 led1 h5 tk5 ob1 E' Q' hkv hkey _ hq1 S5 next
  obtain⟨o,x,y,kvs,hdo,hx⟩:=hq1
  rw [loc_set2 3 4 (ns:=acN) rfl rfl acN_nd (by simp) (by simp)] at S5
  obtain⟨⟨k',a⟩,hu,hk',ta,hvv⟩:=xs.getL hkv
  dsimp only at hk' hvv
  subst hk' hvv
  have hlen:kvs.length≤2 ^ 24:=by
   have h1:=hx.length
   have h2:=addD_length (u.take i) t
   rw [length_take] at h2
   exact lp [_,_,_,_,_] [(.add zA zB,.num 16777216),(zC,zD),(zD,.add zA zE),(zE,zB)] zC (.num 16777216) rfl hsz (eqL h1) h2 (Nat.min_le_right _ _)
  have estep:addD t (u.take (i+1))=bump (addD t (u.take i)) kk a:=by
   rw [take_add_one,hu];simp [addD,foldl_append]
  have hmap:h5.MapOf (strKind prog w) D (valueAt kvs):=(dictOf_of (S5.at 1 rfl) hdo).mapOf
  replace next:∀o' kvs' h6 tk6,dictO (strKind prog w) o' kvs'→All2 (PR (rInt.r K)) kvs' (bump (addD t (u.take i)) kk a)→St ⟨h,K⟩ K L (loc acN [some v1,some v2,some (.ref D),some key,some (.int a ta)]) [(h4.objs.size,ob1),(D,o')] h6→Q' .next (sh s h6 tk6):=
   fun o' kvs' h6 tk6 b1 b2 S6=>next K _ _ h6 tk6 (Sub.refl _) (.mk (i+1) o' _ _ _ b1 (estep▸b2)) S6
  generalize addD t (u.take i)=T at hx next
  refine if_end (wpAny_isTrue_Compare1 (ld S5 3 acN_nd (ld S5 2 acN_nd (wpAny_in_of (s:=sh s h5 tk5) (knd:=strKind prog w) hkey hsys hmap (wpAny_truthy_bool ?_)))))
  have hb5:Sub base h5:=hb.trans S5.stays
  rcases pr_at hx kk with ⟨hv0,hf⟩|⟨v,old,hv0,hf,told,rfl⟩
  ·
   rw [hv0]
   refine ifn (by simp) (wpAny_execs_cons (wpAny_Assign_Subscript (ld S5 4 acN_nd (ld S5 2 acN_nd (ld S5 3 acN_nd ?_)))))
   exact set_dict S5 1 rfl hdo hkey hlen fun o' h6 tk6 hdo' S6=>wpAny_execs_nil (next o' _ h6 tk6 hdo' (put_new hx hf) S6)
  ·have hnd2:(T.map (·.1)).Nodup:=pr_keys hx▸hdo.nodup
   rw [hv0]
   refine ifp (by simp) (if_end (wpAny_isTrue_value (Call_ (gl_blt (v:=.builtin "isinstance") B hb5 (cw_blt (args_cons (ld S5 4 acN_nd (args_cons (gl_blt (v:=.type "tuple") B hb5 (args_nil (IsiPair.int_tuple (wpAny_truthy_bool ?_))))))))))))
   refine ifn (by simp) (wpAny_execs_cons (wpAny_AugAssign_Subscript (ld S5 2 acN_nd (ld S5 3 acN_nd (wpAny_getItem_of (s:=sh s h5 _) (knd:=strKind prog w) hkey hmap hv0 (ld S5 4 acN_nd (wpAny_iadd_int ?_)))))))
   exact set_dict S5 1 rfl hdo hkey hlen fun o' h6 tk6 hdo' S6=>wpAny_execs_nil (next o' _ h6 tk6 hdo' (put_old hx hnd2 hf) S6)
 intro K1 m1 led1 h5 tk5 _ hq1 S5
 obtain⟨o,x,y,kvs,hdo,hx⟩:=hq1
 rw [xs.length,take_length] at hx
 refine ret_st (ld S5 2 acN_nd ?_)
 obtain⟨K',hK',S6,hfr⟩:=S5.freeze [] (nil_sublist _)
 exact c K' h5 tk5 _ S6.toGrow ⟨D,o,kvs,rfl,hsys,hfr D o (S5.at 0 rfl) hlow (S5.ledg _ mem_cons_self).2.1 (by simp),hdo,hx.imp fun _ _ q=>⟨q.1,rInt.mono hK' q.2⟩⟩
end
end Mine
namespace Mine
section
variable {κ:Type}[DecidableEq κ]{knd:PySem.KeyKind prog w κ}{R:Rel α}
theorem values_call {o:Expr}{apos pos:Pos}{v:Value}{xs:List (κ×α)}{Q:Value→Shared→Prop}(S:St O K L m led h)(r:(rDict knd R).r K v xs)
  (ho:∀Q',Q' v (sh s h tk)→wpAny (model prog w) A (eval o env) Q' E (sh s h tk))
  (c:∀V d h',v = .ref d→h'.IsValuesView V d→St O K L m ((V,{ cls:=.type "dict_values",data:=.fields #[.ref d] })::led) h'→Q (.ref V) (sh s h' tk))
  (hbase:attributeBase o "values" env (eval o env)=eval o env:=by rfl)(hline:(apos.endLine == pos.line)=true:=by rfl) :
  wpAny (model prog w) A (eval (.Call (.Attribute o "values" apos) [] [] pos) env) Q E (sh s h tk):=by
 obtain⟨d,od,kvs,rfl,hs,hd,hdo,x⟩:=r
 have hm:=dictOf_of (S.stays _ _ hd) hdo
 refine wpAny_Call_method (T:="dict") (id:="dict.values") hbase rfl hline F.plainAttrs_dict F.slot_dict_values F.type_dict_values (ho _ ⟨Heap.DictOf.typeIs (s:=sh s h tk) hm,hm.mapOf.noDict,?_⟩)
 show wpAny _ _ (callWith pos (.builtin "dict.values") [.ref d] [] []) Q E _
 refine method_meetsIn F.slot_dict_values F.entry_dict_values rfl (PySem.evalArgs_none ⟨rfl,Heap.DictOf.typeIs (s:=sh s h tk) hm,F.args_dict_values_1 _,_,meets_dict_values knd d hs,⟨kvs,hm⟩,?_⟩)
 exact c _ d _ rfl ⟨_,Heap.get?_push_size _ rfl,rfl,rfl⟩ (S.push { cls:=.type "dict_values",data:=.fields #[.ref d] })
theorem iter_values {k:Nat}{d V:Addr}{xs:List (κ×α)}{Q:Value→Shared→Prop}(hA:OkA A k)(S:St O K L m led h)(r:(rDict knd R).r K (.ref d) xs)(hV:h.IsValuesView V d)
  (c:∀I ob h',St O K L m ((I,ob)::led) h'→Src prog w A K h' I R (xs.map (·.2))→Q (.ref I) (sh s h' tk)) :
  wpAny (model prog w) A (pyIter (.ref V)) Q E (sh s h tk):=by
 obtain⟨a,o,kvs,e,hs,ha,hdo,x⟩:=r
 cases e
 obtain⟨ep,hd⟩:=dictAt_of (S.stays _ _ ha) hdo
 have hne:=S.ne_of_K ha
 refine wpAny_pyIter_values (s:=sh s h tk) hV hd ?_
 have W:=Walks.dictValues (prog:=prog) (w:=w) (knd:=knd) hA.handled h.objs.size d hne kvs ep
 have hlen:kvs.length=(xs.map (·.2)).length:=x.length.trans (length_map ..).symm
 refine c h.objs.size _ _ (S.push { cls:=.type "dict_valueiterator",data:=.fields #[.ref d,.int 0 0,.int kvs.length 0,.int ep 0] }) ⟨_,_,_,_,hlen,W,⟨⟨_,Heap.get?_push_size _ rfl,rfl,rfl⟩,hd.at' fun o e=>Heap.get?_push_of_some _ e⟩,fun i h' hx=>?_,fun b hb hbI=>?_,fun i v _ hv=>?_,fun i h' o hx e=>?_⟩
 ·obtain⟨⟨o,ho,_⟩,_⟩:=hx;exact⟨o,ho⟩
 ·simp only [mem_cons,not_mem_nil,or_false] at hb
  rcases hb with rfl|rfl
  ·exact absurd rfl hbI
  ·exact⟨_,ha⟩
 ·obtain⟨k,hy⟩:=hv
  obtain⟨b,hb,_,hr⟩:=x.getL hy
  exact⟨b.2,by rw [getElem?_map,hb];rfl,hr⟩
 ·obtain⟨⟨o',ho,hc,hd⟩,_⟩:=hx
  rw [ho] at e;cases e
  exact⟨_,_,hc,hd,by decide⟩
end
noncomputable def ccN:List Str:=["callers","nc","calls"]
theorem ccN_nd:ccN.Nodup:=by decide
noncomputable def countD (d:DS):Int:=(d.map (·.2)).foldl (·+·) 0
section
theorem count_call {k:Nat}{v1:Value}{t:DS}{Q:Value→Shared→Prop}(B:Mod base)(hb:Sub base K)(hs:Sub K h)(hA:OkA A (k+1))(r1:(rDict (strKind prog w) rInt).r K v1 t)
  (c:∀K' h' tk' v,Grow K h K' h'→rInt.r K' v (countD t)→Q v (sh s h' tk')) :
  wpAny (model prog w) A (call (.ref 90) [v1]) Q E (sh s h tk):=by
 refine call_fn (k:=k) ["callers"] ["nc","calls"] [none,none] hA ((B.fns (90,9) (by decide)).sub (hb.trans hs)) (B.nolimit.keeps (hb.trans hs)) hs (fun _ _ _ _ _=>rfl) rfl (by decide) (by simp) (by decide) (by decide) (by decide) (fun A' h₀ tk₀ q L cd hA' S=>?_)
 replace S:St ⟨h,K⟩ K (en q (scopeOf (stA 9)) L 90 cd []).locals (loc ccN [some v1,none,none]) [] h₀:=S
 refine as_st (c_int (stn S 1 ccN_nd fun h1 tk1 S1=>?_))
 refine for_st (values_call S1 r1 (fun Q' hq=>ld S1 0 ccN_nd hq) fun V d' h2 ed hV S2=>?_)
 subst ed
 refine iter_values hA' S2 r1 hV fun I ob h3 S3 src=>?_
 clear S S1 S2 hV
 refine for_go S3.drop1 src (fun i K1 m1 led1=>led1=[]∧∃t1 x,m1=loc ccN [some (.ref d'),some (.int (((t.map (·.2)).take i).foldl (·+·) 0) t1),x]) ⟨rfl,_,_,rfl⟩ ?_ ?_
 ·clear S3 src c r1
  intro i a v K1 m1 led1 h4 tk4 ob1 E' Q' ha hq1 hK hq2 S4 next
  obtain⟨ta,rfl⟩:=hq1
  obtain⟨rfl,t1,x,rfl⟩:=hq2
  refine wpAny_assign_Name (stn S4 2 ccN_nd fun h5 tk5 S5=>?_)
  refine wpAny_execs_cons (wpAny_AugAssign_Name (ldn S5 1 ccN_nd (ld S5 2 ccN_nd (wpAny_iadd_int (stn S5 1 ccN_nd fun h6 tk6 S6=>?_)))))
  have e:((t.map (·.2)).take (i+1)).foldl (·+·) 0=((t.map (·.2)).take i).foldl (·+·) 0+a:=by
   rw [take_add_one,ha]
   simp only [Option.toList_some,foldl_append,foldl_cons,List.foldl_nil]
  rw [←e] at S6
  exact wpAny_execs_nil (next K1 _ _ h6 tk6 (Sub.refl _) ⟨rfl,_,_,rfl⟩ S6)
 ·rintro K1 m1 led1 h4 tk4 hK ⟨rfl,t1,x,rfl⟩ S4
  rw [take_length] at S4
  exact ret_st (ld S4 1 ccN_nd (c K1 h4 tk4 _ S4.toGrow ⟨_,rfl⟩))
end
end Mine
namespace Mine
section
theorem isterm_call {k:Nat}{v:Value}{x:Int}{Q:Value→Shared→Prop}(B:Mod base)(hb:Sub base K)(hs:Sub K h)(hA:OkA A (k+1))(r:rInt.r K v x)
  (c:∀h' tk',Grow K h K h'→Q (.bool (decide (x<256))) (sh s h' tk')):wpAny (model prog w) A (call (.ref 100) [v]) Q E (sh s h tk):=by
 refine call_fn (k:=k) ["x"] [] [] hA ((B.fns (100,62) (by decide)).sub (hb.trans hs)) (B.nolimit.keeps (hb.trans hs)) hs (fun _ _ _ _ _=>rfl) rfl (by decide) (by simp) (by decide) (by decide) (by decide) (fun A' h₀ tk₀ q L cd hA' S=>?_)
 replace S:St ⟨h,K⟩ K (en q (scopeOf (stA 62)) L 100 cd []).locals (loc ["x"] [some v]) [] h₀:=S
 obtain⟨t,rfl⟩:=r
 exact wpAny_execs_cons (wpAny_Return_some (wpAny_Compare1 (ld S 0 (by decide) (gl_int (a:=256) B (hb.trans S.stays) fun t'=>wpAny_lt_int (c h₀ tk₀ S.toGrow)))))
theorem isnont_call {k:Nat}{v:Value}{x:Int}{Q:Value→Shared→Prop}(B:Mod base)(hb:Sub base K)(hs:Sub K h)(hA:OkA A (k+1))(r:rInt.r K v x)
  (c:∀h' tk',Grow K h K h'→Q (.bool (decide (x≥256))) (sh s h' tk')):wpAny (model prog w) A (call (.ref 107) [v]) Q E (sh s h tk):=by
 refine call_fn (k:=k) ["x"] [] [] hA ((B.fns (107,63) (by decide)).sub (hb.trans hs)) (B.nolimit.keeps (hb.trans hs)) hs (fun _ _ _ _ _=>rfl) rfl (by decide) (by simp) (by decide) (by decide) (by decide) (fun A' h₀ tk₀ q L cd hA' S=>?_)
 replace S:St ⟨h,K⟩ K (en q (scopeOf (stA 63)) L 107 cd []).locals (loc ["x"] [some v]) [] h₀:=S
 obtain⟨t,rfl⟩:=r
 exact wpAny_execs_cons (wpAny_Return_some (wpAny_Compare1 (ld S 0 (by decide) (gl_int (a:=256) B (hb.trans S.stays) fun t'=>P.ge_int (c h₀ tk₀ S.toGrow)))))
theorem iseof_call {k:Nat}{v:Value}{x:Int}{Q:Value→Shared→Prop}(B:Mod base)(hb:Sub base K)(hs:Sub K h)(hA:OkA A (k+1))(r:rInt.r K v x)
  (c:∀h' tk',Grow K h K h'→Q (.bool (x == 0)) (sh s h' tk')):wpAny (model prog w) A (call (.ref 114) [v]) Q E (sh s h tk):=by
 refine call_fn (k:=k) ["x"] [] [] hA ((B.fns (114,64) (by decide)).sub (hb.trans hs)) (B.nolimit.keeps (hb.trans hs)) hs (fun _ _ _ _ _=>rfl) rfl (by decide) (by simp) (by decide) (by decide) (by decide) (fun A' h₀ tk₀ q L cd hA' S=>?_)
 replace S:St ⟨h,K⟩ K (en q (scopeOf (stA 64)) L 114 cd []).locals (loc ["x"] [some v]) [] h₀:=S
 obtain⟨t,rfl⟩:=r
 exact wpAny_execs_cons (wpAny_Return_some (wpAny_Compare1 (ld S 0 (by decide) (gl_int (a:=0) B (hb.trans S.stays) fun t'=>P.eq_int (c h₀ tk₀ S.toGrow)))))
end
section
theorem assign2 {k:Nat}{T:Addr}{a b:Value}{x1 x2:Str}{p1 p2 pt:Pos}{n:Nat}{Q:Unit→Shared→Prop}(hA:OkA A k)(S:St O K env.locals m led h)(hT:K.get? T=some (tu #[a,b]))
  (hx1:env.kindOf x1=some .local)(hx2:env.kindOf x2=some .local)(hk:env.scope.kind = .function)
  (c:∀h' tk',St O K env.locals (fun y=>if y=x2 then some b else if y=x1 then some a else m y) led h'→Q () (sh s h' tk')) :
  wpAny (model prog w) A (assign (.Tuple [.Name x1 p1,.Name x2 p2] n pt) env (.ref T)) Q E (sh s h tk):=by
 have hp:(env.scope.kind == .class||(env.scope.kind == .module&&env.locals != env.globals))=false:=by rw [hk];rfl
 have ht:h.IsTuple T #[a,b]:=⟨_,S.stays _ _ hT,rfl,_,rfl⟩
 refine wpAny_assign_Tuple (s:=sh s h tk) hA.handled ht rfl rfl fun h₄ hx₄=>?_
 have S4:St O K env.locals m led h₄:=by
  refine S.move (fun b o hb hx e=>hx₄ b o (Nat.ne_of_lt (get_lt e)) e) (S.ns.at' fun o e=>hx₄ _ o (Nat.ne_of_lt (get_lt e)) e) (fun p hp=>?_) S.nodup
  have P:=S.ledg p hp
  exact⟨hx₄ _ _ (Nat.ne_of_lt (get_lt P.1)) P.1,P.2⟩
 show wpAny _ _ (do holding [b] (assign (.Name x1 p1) env a);do holding [] (assign (.Name x2 p2) env b);pure ()) _ _ _
 refine wpAny_bind (wpAny_holding (wpAny_assign_Name (wpAny_storeName_local hx1 S4.ns (fun h₅ hn₅ hs₅=>?_) hp)))
 have S5:=S4.store hn₅ hs₅
 refine wpAny_bind (wpAny_holding (wpAny_assign_Name (wpAny_storeName_local hx2 S5.ns (fun h₆ hn₆ hs₆=>wpAny_pure ?_) hp)))
 exact c _ _ (S5.store hn₆ hs₆)
theorem tup2_ex {α β:Type}{R:Rel α}{R':Rel β}{K:Heap}{v:Value}{a:α×β}(x:(rTup2 R R').r K v a):∃T b c,v = .ref T∧K.get? T=some (tu #[b,c]):=by
 obtain⟨T,b,c,e,h,_,_⟩:=x;exact⟨T,b,c,e,h⟩
theorem for_goT {Qf:Flow→Shared→Prop}{Ra:Rel α}{xs:List α}{I:Addr}{ob:Obj}{x1 x2:Str}{p1 p2 pt:Pos}{nn:Nat}{body rest:List Stmt}
  (S:St O K env.locals m ((I,ob)::led) h)(src:Src prog w A K h I Ra xs)(J:Nat→Heap→(Str→Option Value)→List (Addr×Obj)→Prop)(hJ:J 0 K m led)
  (htup:∀K v a,Ra.r K v a→∃T b c,v = .ref T∧K.get? T=some (tu #[b,c]))
  (turn:∀i a T b c K1 m1 led1 h1 tk1 ob1 E' (Q':Flow→Shared→Prop),xs[i]?=some a→Ra.r K1 (.ref T) a→K1.get? T=some (tu #[b,c])→Sub K K1→J i K1 m1 led1→St O K1 env.locals m1 ((I,ob1)::led1) h1→
   (∀K' m' led' h' tk',Sub K1 K'→J (i+1) K' m' led'→St O K' env.locals m' ((I,ob1)::led') h'→Q' .next (sh s h' tk'))→(∀v s',Qf (.ret v) s'→Q' (.ret v) s')→
   wpAny (model prog w) A (assign (.Tuple [.Name x1 p1,.Name x2 p2] nn pt) env (.ref T)) (fun _ s2=>wpAny (model prog w) A (execs body env) Q' E' s2) E' (sh s h1 tk1))
  (done:∀K1 m1 led1 h1 tk1,Sub K K1→J xs.length K1 m1 led1→St O K1 env.locals m1 led1 h1→wpAny (model prog w) A (execs rest env) Qf E (sh s h1 tk1)) :
  ForP prog w A E env (.Tuple [.Name x1 p1,.Name x2 p2] nn pt) body rest Qf (.ref I) (sh s h tk):=by
 refine for_core S src J hJ (fun i a v K1 m1 led1 h1 tk1 ob1 E' Q' hi hr hK hJ1 S1 hgo next ret=>?_) done
 obtain⟨T,b,c,rfl,hT⟩:=htup _ _ _ hr
 obtain⟨cn,cvs,hcls,hdat,hcon⟩:=hgo
 have ht:=turn i a T b c K1 m1 led1 h1 tk1 ob1 E' Q' hi hr hT hK hJ1 S1 next ret
 show wpAny _ _ (load I >>= _) _ _ _
 refine wpAny_bind (wpAny_load (show (sh s h1 tk1).heap.get? I=some ob1 from (S1.ledg _ mem_cons_self).1) ?_)
 rw [hcls,hdat]
 dsimp only
 rw [hcon]
 exact wpAny_pure ht
theorem for_go2 {k:Nat}{Qf:Flow→Shared→Prop}{Ra:Rel α}{xs:List α}{I:Addr}{ob:Obj}{x1 x2:Str}{p1 p2 pt:Pos}{nn:Nat}{body rest:List Stmt}(hA:OkA A k)
  (hx1:env.kindOf x1=some .local)(hx2:env.kindOf x2=some .local)(hk:env.scope.kind = .function)
  (S:St O K env.locals m ((I,ob)::led) h)(src:Src prog w A K h I Ra xs)(J:Nat→Heap→(Str→Option Value)→List (Addr×Obj)→Prop)(hJ:J 0 K m led)
  (htup:∀K v a,Ra.r K v a→∃T b c,v = .ref T∧K.get? T=some (tu #[b,c]))
  (turn:∀i a T b c K1 m1 led1 h1 tk1 ob1 E' (Q':Flow→Shared→Prop),xs[i]?=some a→Ra.r K1 (.ref T) a→K1.get? T=some (tu #[b,c])→Sub K K1→J i K1 m1 led1→
   St O K1 env.locals (fun y=>if y=x2 then some c else if y=x1 then some b else m1 y) ((I,ob1)::led1) h1→
   (∀K' m' led' h' tk',Sub K1 K'→J (i+1) K' m' led'→St O K' env.locals m' ((I,ob1)::led') h'→Q' .next (sh s h' tk'))→(∀v s',Qf (.ret v) s'→Q' (.ret v) s')→
   wpAny (model prog w) A (execs body env) Q' E' (sh s h1 tk1))
  (done:∀K1 m1 led1 h1 tk1,Sub K K1→J xs.length K1 m1 led1→St O K1 env.locals m1 led1 h1→wpAny (model prog w) A (execs rest env) Qf E (sh s h1 tk1)) :
  ForP prog w A E env (.Tuple [.Name x1 p1,.Name x2 p2] nn pt) body rest Qf (.ref I) (sh s h tk):=
 for_goT S src J hJ htup (fun i a T b c K1 m1 led1 h1 tk1 ob1 E' Q' hi hr hT hK hJ1 S1 next ret=>
  assign2 hA S1 hT hx1 hx2 hk fun h3 tk3 S3=>turn i a T b c K1 m1 led1 h3 tk3 ob1 E' Q' hi hr hT hK hJ1 S3 next ret) done
end
noncomputable def cbody (i:Nat):Stmt:=(bodyOf (stA 7)).getD i (.Pass ⟨0,0,0,0⟩)
structure Cls (base:Heap):Prop where
 ex:∃K:Frag,K.In base∧makesIn K 72=true∧findIn K (.ref 72) "__init__" = some (some (.ref 62))∧typeIn K (.ref 62)=some (.type "function")∧plainGet K 72 "compare" = true∧
  findIn K (.ref 72) "compare" = some (some (.ref 69))∧isFn K (.ref 69)=true∧keepIn K (.ref 69)=true∧keepIn K (.ref 72)=true∧hasDictIn K 72=true∧findIn K (.ref 72) "comp_select_list" = some none∧
  findIn K (.ref 72) "__setattr__" = some (some (.builtin "object.__setattr__"))∧plainOver K 72=true∧takerIn K 72 "comp_select_list" = some none
 fInit:FnAt base 62 (argsOf (cbody 0)) (bodyOf (cbody 0)) (scopeOf (cbody 0))
 fCmp:FnAt base 69 (argsOf (cbody 1)) (bodyOf (cbody 1)) (scopeOf (cbody 1))
abbrev selO (hash:Int)(v:Value)(tk:Tok):Obj:={ cls:=.type "dict",data:=.dict #[⟨hash,.str "comp_select_list" tk,v⟩] 1 }
inductive JudgeR (K:Heap)(v:Value)(sel:List (Int×Int)):Prop
 | mk (x dx:Addr) (c:Value) (hash:Int) (tk:Tok):v = .ref x→K.get? x=some (instObj 72 dx)→K.get? dx=some (selO hash c tk)→(rTup (rTup2 rInt rInt)).r K c sel→JudgeR K v sel
noncomputable def rJudge:Rel (List (Int×Int)):=
 ⟨JudgeR,fun hk q=>by
  obtain⟨x,dx,c,hash,tk,h1,h2,h3,h4⟩:=q
  exact⟨x,dx,c,hash,tk,h1,hk _ _ h2,hk _ _ h3,(rTup (rTup2 rInt rInt)).mono hk h4⟩⟩
noncomputable def told (w0 w1:Int)(x y:Str×Int):Int:=
 if x.2<y.2 then -w0 else if y.2<x.2 then w0 else if x.1.cps.toList<y.1.cps.toList then -w1 else if y.1.cps.toList<x.1.cps.toList then w1 else 0
section
theorem item_tu {value slice:Expr}{t:Addr}{vs:List Value}{k:Int}{u:Tok}{j:Nat}{x:Value}{Q:Value→Shared→Prop}(S:St O K L m led h)(ht:K.get? t=some (tu vs.toArray))
  (hj:seqIndex? k vs.length=some j)(hlo:-(2 ^ 63)≤k)(hhi:k<2 ^ 63)(hx:vs[j]?=some x)(q:Q x (sh s h tk))
  (hs:subscripted slice false (.ref t) (.int k u)=operate [.ref t,.int k u] (getItem (.ref t) (.int k u)):=by with_unfolding_all rfl)(hg:∀r,letTemporaryGo value (.ref t) r=pure ():=by intro _;with_unfolding_all rfl) :
  wpAny (model prog w) A (subscriptTail value slice (.ref t) (.int k u)) Q E (sh s h tk):=
 item_tupleL ⟨_,S.stays _ _ ht,rfl,0,rfl⟩ hlo hhi hj hx q hs hg
theorem attr_sel {x:Str}{xp pos:Pos}{sel:List (Int×Int)}{v:Value}{Q:Value→Shared→Prop}(C:Cls base)(hb:Sub base h)(S:St O K L m led h)(r:rJudge.r K v sel)
  (ho:∀Q',Q' v (sh s h tk)→wpAny (model prog w) A (eval (.Name x xp) env) Q' E (sh s h tk))
  (c:∀cv tk',(rTup (rTup2 rInt rInt)).r K cv sel→Q cv (sh s h tk')):wpAny (model prog w) A (eval (.Attribute (.Name x xp) "comp_select_list" pos) env) Q E (sh s h tk):=by
 obtain⟨F0,X,hm,hi,hti,hpg,hf,hfn,hkp,hkp2,hdict,hnone,hset,hpo,hta⟩:=C.ex
 obtain⟨xa,dx,cv,hash,ttk,rfl,h2,h3,h4⟩:=r
 refine Attribute_Name_ (ho _ ?_)
 have X':F0.In (sh s h tk).heap:=fun b o e=>hb _ _ (X b o e)
 have I:InstAt (sh s h tk).heap xa (instObj 72 dx) 72 (some (selO hash cv ttk)):=⟨S.stays _ _ h2,rfl,rfl,S.stays _ _ h3⟩
 have hl:lookIn "comp_select_list" (selO hash cv ttk)=some (some cv):=rfl
 obtain⟨ca,vs,rfl,hc,hx⟩:=id h4
 exact get_value X' I (plainGet_of hpg).1 (findObj_own hdict hnone rfl hl) rfl (c _ _ h4)
noncomputable def cmN:List Str:=["self","left","right","index","direction","l","r"]
theorem cmN_nd:cmN.Nodup:=by decide
abbrev enC (q:Str)(L:Addr)(cd:Value):Env:=en q (scopeOf (cbody 1)) L 69 cd []
theorem cmp_tail {q:Str}{cd:Value}{a1 a2 a3 a4 a5 a6 a7 b1 b2 b3 b4 b5 b6:Pos}{x0 x1 x2 x3:Option Value}{l r:Value}{d:Int}{td:Tok}{lt gt:Bool}{Q:Flow→Shared→Prop}(S:St O K (enC q L cd).locals (loc cmN [x0,x1,x2,x3,some (.int d td),some l,some r]) led h)
  (hlt:∀(Q':Value→Shared→Prop),Q' (.bool lt) (sh s h tk)→wpAny (model prog w) A (compareOp .Lt l r) Q' E (sh s h tk))(hgt:∀(Q':Value→Shared→Prop),Q' (.bool gt) (sh s h tk)→wpAny (model prog w) A (compareOp .Gt l r) Q' E (sh s h tk))
  (q1:lt=true→Q (.ret (.int (-d) tk)) (sh s h (tk+1)))(q2:¬lt=true→gt=true→Q (.ret (.int d td)) (sh s h tk))(q3:¬lt=true→¬gt=true→Q .next (sh s h tk)) :
  wpAny (model prog w) A (execs [.If (.Compare (.Name "l" a1) [.Lt] [.Name "r" a2] a3) [.Return (some (.UnaryOp .USub (.Name "direction" a4) a5)) a6] [] a7,.If (.Compare (.Name "l" b1) [.Gt] [.Name "r" b2] b3) [.Return (some (.Name "direction" b4)) b5] [] b6] (enC q L cd)) Q E (sh s h tk):=by
 refine if_ret (wpAny_isTrue_Compare1 (ld S 5 cmN_nd (ld S 6 cmN_nd (hlt _ (wpAny_truthy_bool (if2 (fun c=>?_) fun c=>?_))))))
 ·exact UnaryOp_ (ld S 4 cmN_nd (neg_i (q1 c)))
 ·refine if_ret (wpAny_isTrue_Compare1 (ld S 5 cmN_nd (ld S 6 cmN_nd (hgt _ (wpAny_truthy_bool (if2 (fun c2=>?_) fun c2=>?_))))))
  ·exact ld S 4 cmN_nd (q2 c c2)
  ·exact wpAny_execs_nil (q3 c c2)
structure CmD (x y:Str×Int)(i:Nat):Prop where
 one:0<i→x.2=y.2
 two:1<i→¬x.1.cps.toList<y.1.cps.toList∧¬y.1.cps.toList<x.1.cps.toList
inductive CmJ (K:Heap)(j v1 v2:Value)(x y:Str×Int):Nat→Heap→(Str→Option Value)→List (Addr×Obj)→Prop
 | mk (i:Nat) (x1 x2 x3 x4:Option Value):CmD x y i→CmJ K j v1 v2 x y i K (loc cmN [some j,some v1,some v2,x1,x2,x3,x4]) []
theorem compare_call {k:Nat}{j v1 v2:Value}{w0 w1:Int}{x y:Str×Int}{Q:Value→Shared→Prop}(B:Mod base)(C:Cls base)(hb:Sub base K)(hs:Sub K h)(hA:OkA A (k+1))
  (rj:rJudge.r K j [(1,w0),(0,w1)])(r1:(rTup2 rStr rInt).r K v1 x)(r2:(rTup2 rStr rInt).r K v2 y)(c:∀K' h' tk' v,Grow K h K' h'→rInt.r K' v (told w0 w1 x y)→Q v (sh s h' tk')) :
  wpAny (model prog w) A (call (.ref 69) [j,v1,v2]) Q E (sh s h tk):=by
 refine call_fn (k:=k) ["self","left","right"] ["index","direction","l","r"] [none,none,none,none] hA (C.fCmp.sub (hb.trans hs)) (B.nolimit.keeps (hb.trans hs)) hs (fun _ _ _ _ _=>rfl) rfl (by decide) (by simp) (by decide) (by decide) (by decide) (fun A' h₀ tk₀ q L cd hA' S=>?_)
 replace S:St ⟨h,K⟩ K (enC q L cd).locals (loc cmN [some j,some v1,some v2,none,none,none,none]) [] h₀:=S
 replace c:∀h' tk' z t m led,St ⟨h,K⟩ K L m led h'→told w0 w1 x y=z→Q (.int z t) (sh s h' tk'):=fun h' tk' z t m led S e=>c K h' tk' _ S.toGrow (e▸⟨t,rfl⟩)
 refine hide fun Q0 fin0=>?_
 replace c:∀h' tk' z t m led,St ⟨h,K⟩ K L m led h'→told w0 w1 x y=z→Q0 (.ret (.int z t)) (sh (sh s h₀ tk₀) h' tk'):=fun h' tk' z t m led S e=>fin0 _ _ (c h' tk' z t m led S e)
 clear fin0
 obtain⟨a1,u1,u2,rfl,hT1,⟨t1,rfl⟩,⟨t2,rfl⟩⟩:=r1
 obtain⟨a2,u3,u4,rfl,hT2,⟨t3,rfl⟩,⟨t4,rfl⟩⟩:=r2
 refine for_st (attr_sel C (hb.trans S.stays) S rj (fun Q' hq=>ld S 0 cmN_nd hq) fun cv tk1 rc=>?_)
 refine iter_tup hA' S rc fun I ob h1 S1 src=>?_
 clear S rc rj
 refine for_go2 hA' rfl rfl rfl S1.drop1 src (CmJ K j (.ref a1) (.ref a2) x y) (.mk 0 _ _ _ _ ⟨fun h=>absurd h (Nat.lt_irrefl _),fun h=>absurd h (Nat.not_lt_zero _)⟩) (fun K v a=>tup2_ex) ?_ ?_
 ·clear S1 src
  intro i sel T b c' K1 m1 led1 h2 tk2 ob1 E' Q' hi hq1 hT hK hq2 S2 next ret
  obtain⟨T',b',c'',e0,hT',⟨tb,rfl⟩,⟨tc,rfl⟩⟩:=hq1
  obtain⟨y1,y2,y3,y4,hJ⟩:=hq2
  cases e0
  rw [hT'] at hT;cases hT
  rw [loc_set2 3 4 (ns:=cmN) rfl rfl cmN_nd (by simp) (by simp)] at S2
  match i,hi with
  | 0,hi=>
   cases hi
   refine as_st (Subscript_ (ld S2 1 cmN_nd (ld S2 3 cmN_nd (item_tu S2 hT1 (k:=1) (j:=1) rfl (by decide) (by decide) rfl (stn S2 5 cmN_nd fun h3 tk3 S3=>?_)))))
   refine as_st (Subscript_ (ld S3 2 cmN_nd (ld S3 3 cmN_nd (item_tu S3 hT2 (k:=1) (j:=1) rfl (by decide) (by decide) rfl (stn S3 6 cmN_nd fun h4 tk4 S4=>?_)))))
   refine cmp_tail S4 (fun Q' q=>wpAny_lt_int q) (fun Q' q=>PyProof.Rows.gt_int q) (fun g1=>?_) (fun g1 g2=>?_) fun g1 g2=>?_
   ·exact ret _ _ (c _ _ _ _ _ _ S4 (by unfold told;rw [if_pos (of_decide_eq_true g1)]))
   ·exact ret _ _ (c _ _ _ _ _ _ S4 (by unfold told;rw [if_neg fun q=>g1 (decide_eq_true q),if_pos (of_decide_eq_true g2)]))
   ·exact next K _ _ h4 tk4 (Sub.refl _) (.mk 1 _ _ _ _ ⟨fun _=>iT (Int.not_lt.mp fun q=>g2 (decide_eq_true q)) (Int.not_lt.mp fun q=>g1 (decide_eq_true q)),fun h=>absurd h (Nat.lt_irrefl _)⟩) S4
  | 1,hi=>
   cases hi
   have e1:=hJ.one Nat.one_pos
   have n1:¬x.2<y.2:=fun q=>absurd (e1▸q) (Int.lt_irrefl _)
   have n2:¬y.2<x.2:=fun q=>absurd (e1▸q) (Int.lt_irrefl _)
   refine as_st (Subscript_ (ld S2 1 cmN_nd (ld S2 3 cmN_nd (item_tu S2 hT1 (k:=0) (j:=0) rfl (by decide) (by decide) rfl (stn S2 5 cmN_nd fun h3 tk3 S3=>?_)))))
   refine as_st (Subscript_ (ld S3 2 cmN_nd (ld S3 3 cmN_nd (item_tu S3 hT2 (k:=0) (j:=0) rfl (by decide) (by decide) rfl (stn S3 6 cmN_nd fun h4 tk4 S4=>?_)))))
   refine cmp_tail S4 (fun Q' q=>PyProof.Rows.lt_str q) (fun Q' q=>P.gt_str q) (fun g1=>?_) (fun g1 g2=>?_) fun g1 g2=>?_
   ·exact ret _ _ (c _ _ _ _ _ _ S4 (by unfold told;rw [if_neg n1,if_neg n2,if_pos (of_decide_eq_true g1)]))
   ·exact ret _ _ (c _ _ _ _ _ _ S4 (by unfold told;rw [if_neg n1,if_neg n2,if_neg fun q=>g1 (decide_eq_true q),if_pos (of_decide_eq_true g2)]))
   ·exact next K _ _ h4 tk4 (Sub.refl _) (.mk 2 _ _ _ _ ⟨fun _=>e1,fun _=>⟨fun q=>g1 (decide_eq_true q),fun q=>g2 (decide_eq_true q)⟩⟩) S4
  | n+2,hi=>simp at hi
 ·intro K1 m1 led1 h2 tk2 hK hq2 S2
  obtain⟨y1,y2,y3,y4,hJ⟩:=hq2
  have e1:=hJ.one (Nat.succ_pos _)
  have e2:=hJ.two (Nat.lt_succ_self _)
  refine ret_st (c_int (c _ _ _ _ _ _ S2 ?_))
  unfold told
  rw [if_neg fun q=>absurd (e1▸q) (Int.lt_irrefl _),if_neg fun q=>absurd (e1▸q) (Int.lt_irrefl _),if_neg e2.1,if_neg e2.2]
end
end Mine
namespace Mine
open PySem.Sre (M)
noncomputable def iter (n:Nat)(m:M):M:=match n with
 | 0=>m
 | n+1=>iter n m.step
theorem step_done {m:M}(h:m.outcome.isSome=true):m.step=m:=by unfold M.step;rw [if_pos h]
theorem iter_done {m:M}(h:m.outcome.isSome=true):∀n,iter n m=m
 | 0=>rfl
 | n+1=>by rw [iter,step_done h];exact iter_done h n
theorem runFor_iter:∀(n:Nat)(m:M),M.runFor n m=iter n m
 | 0,_=>rfl
 | n+1,m=>by
  unfold M.runFor
  by_cases h:m.outcome.isSome=true
  ·rw [if_pos h,iter_done h]
  ·rw [if_neg h,runFor_iter n];rfl
theorem iter_add:∀(a b:Nat)(m:M),iter (a+b) m=iter b (iter a m)
 | 0,b,m=>by rw [Nat.zero_add];rfl
 | a+1,b,m=>by rw [show a+1+b=(a+b)+1 by exact nA (lp [_,_] [] (.add (su zA) zB) (su (.add zA zB)) rfl) (lp [_,_] [] (su (.add zA zB)) (.add (su zA) zB) rfl),iter,iter,iter_add a b]
noncomputable def Ends (m:M)(n:Nat)(P:M→Prop):Prop:=∃k,k≤n∧(iter k m).outcome.isSome=true∧P (iter k m)
theorem Ends.step {m:M}{n:Nat}{P:M→Prop}(h:Ends m.step n P):Ends m (n+1) P:=by
 obtain⟨k,hk,ho,hp⟩:=h
 exact⟨k+1,lp [_,_] [(zA,zB)] (su zA) (su zB) rfl hk,ho,hp⟩
theorem Ends.mono {m:M}{n n':Nat}{P:M→Prop}(h:Ends m n P)(hn:n≤n'):Ends m n' P:=by
 obtain⟨k,hk,r⟩:=h
 exact⟨k,nT hk hn,r⟩
noncomputable def c1:Array Nat:=#[14,4,0,1,1,6,1,16,46,1]
noncomputable def c2:Array Nat:=#[14,9,4,1,2,16,10,16,13,0,7,7,16,13,16,10,15,18,5,16,10,15,13,11,16,13,5,5,0,16,10,1,15,2,0,1]
abbrev mk (code text:Array Nat)(lim s:Nat)(mu om:Bool)(pc pos handed:Nat)(frames:List Sre.Frame)(w:Nat)(ans:Option Bool)(sn:Sre.Seen):M:=
 { code,text,lim,start:=s,lastStart:=lim,wholeText:=false,mustAdvance:=mu,pc,pos,handed,outermost:=om,marks:=#[],lastmark:=-1,lastindex:=-1,loops:=#[],inner:=none,frames,weight:=w,answer:=ans,seen:=sn,outcome:=none }
abbrev fr0 (pc s:Nat)(om:Bool):Sre.Frame:={ wait:=.nextStart,pc:=pc,pos:=s,outermost:=om }
noncomputable def found (s e:Nat)(m:M):Prop:=(match m.outcome with|some .matched=>True|_=>False)∧m.start=s∧m.handed=e
noncomputable def lost (m:M):Prop:=match m.outcome with|some .failed=>True|_=>False
section
variable {text:Array Nat}{lim s:Nat}{mu om:Bool}{sn:Sre.Seen}
theorem at_c1:(mk c1 text lim s mu om 5 s s [fr0 5 s om] 1 none sn).step=if (s == 0||text.getD (s - 1) 0 == 10)=true then mk c1 text lim s mu om 7 s s [fr0 5 s om] 1 none ((sn.add 6).add 44)
  else mk c1 text lim s mu om 5 s s [fr0 5 s om] 1 (some false) ((sn.add 6).add 44):=rfl
theorem lit_c1:(mk c1 text lim s mu om 7 s s [fr0 5 s om] 1 none sn).step=if s≥lim then mk c1 text lim s mu om 7 s s [fr0 5 s om] 1 (some false) (sn.add 16) else
  if text.getD s 0 == 46 then mk c1 text lim s mu om 9 (s+1) s [fr0 5 s om] 1 none (sn.add 16)
  else mk c1 text lim s mu om 7 s s [fr0 5 s om] 1 (some false) (sn.add 16):=by
 show (if s≥lim then _ else _)=_
 by_cases h:s≥lim
 ·rw [if_pos h,if_pos h];rfl
 ·rw [if_neg h,if_neg h]
  show (match (Except.ok (text.getD s 0 == 46,sn.add 16):Except String (Bool×Sre.Seen)) with | .error why=>_ | .ok (false,seen)=>_ | .ok (true,seen)=>_)=_
  cases text.getD s 0 == 46 <;> rfl
theorem suc_c1 {pos hd:Nat}(hp:(mu&&pos == s)=false):(mk c1 text lim s mu om 9 pos hd [fr0 5 s om] 1 none sn).step=mk c1 text lim s mu om 9 pos pos [fr0 5 s om] 1 (some true) (sn.add 1):=by
 show (if (om&&(false&&pos != lim||mu&&pos == s))=true then _ else _)=_
 rw [hp]
 simp
 rfl
theorem ret1_c1 {pc pos hd:Nat}{o:Bool}:(mk c1 text lim s mu o pc pos hd [fr0 5 s om] 1 (some true) sn).step=mk c1 text lim s mu om 5 s hd [] 0 (some true) sn:=rfl
theorem ret0_c1 {pc pos hd:Nat}{o:Bool}:(mk c1 text lim s mu o pc pos hd [fr0 5 s om] 1 (some false) sn).step=if s<lim then mk c1 text lim (s+1) false false 5 (s+1) (s+1) [fr0 5 (s+1) false] 1 none sn else mk c1 text lim s mu om 5 s hd [] 0 (some false) sn:=by
 show (if s<lim then _ else _)=_
 by_cases h:s<lim
 ·rw [if_pos h,if_pos h];rfl
 ·rw [if_neg h,if_neg h];rfl
noncomputable def dotAt (text:Array Nat)(lim:Nat)(s:Nat):Prop:=s<lim∧(s=0∨text.getD (s - 1) 0=10)∧text.getD s 0=46
theorem found_end {m:M}{a e:Nat}(h1:m.step.outcome=some .matched)(h2:m.step.start=a)(h3:m.step.handed=e):Ends m 1 (fun m'=>found a e m'):=
 ⟨1,Nat.le_refl _,by show m.step.outcome.isSome=true;rw [h1];rfl,by show (match m.step.outcome with|some .matched=>True|_=>False)∧_;rw [h1];exact⟨trivial,h2,h3⟩⟩
theorem lost_end {code:Array Nat}{pc pos hd:Nat}:Ends (mk code text lim s mu om pc pos hd [] 0 (some false) sn) 1 lost:=⟨1,Nat.le_refl _,rfl,trivial⟩
theorem run_c1:∀(n s:Nat)(mu om:Bool)(sn:Sre.Seen),n=lim - s→s≤lim→
  Ends (mk c1 text lim s mu om 5 s s [fr0 5 s om] 1 none sn) (5*(n+1)) fun m'=>
   (∃a,s≤a∧dotAt text lim a∧(∀b,s≤b→b<a→¬dotAt text lim b)∧found a (a+1) m')∨((∀b,s≤b→¬dotAt text lim b)∧lost m'):=by
 intro n
 induction n with
 | zero=>
  intro s mu om sn hn hs
  have hs':s=lim:=nA (lp [_,_,_] [(.add zA zB,zC)] zB zC rfl (sbB _ _ hs)) (lp [_,_,_] [(zA,.num 0),(zB,.add zA zC)] zB zC rfl (eqR hn) (sbA _ _))
  subst hs'
  have hno:∀b,s≤b→¬dotAt text s b:=fun b hb h=>absurd h.1 (Nat.not_lt_of_le hb)
  have back:∀pc sn,Ends (mk c1 text s s mu om pc s s [fr0 5 s om] 1 (some false) sn) 2 fun m'=>
   (∃a,s≤a∧dotAt text s a∧(∀b,s≤b→b<a→¬dotAt text s b)∧found a (a+1) m')∨((∀b,s≤b→¬dotAt text s b)∧lost m'):=by
   intro pc sn
   refine Ends.step ?_
   rw [ret0_c1,if_neg (by exact Nat.not_lt_of_le (lp [_] [] zA zA rfl))]
   obtain⟨k,hk,ho,hp⟩:=lost_end (text:=text) (lim:=s) (s:=s) (mu:=mu) (om:=om) (sn:=sn) (code:=c1) (pc:=5) (pos:=s) (hd:=s)
   exact⟨k,hk,ho,.inr ⟨hno,hp⟩⟩
  refine Ends.mono (n:=4) ?_ (lp [] [] (.num 4) (.mulL 5 (.add (.num 0) (.num 1))) rfl)
  refine Ends.step ?_
  rw [at_c1]
  split
  ·refine Ends.step ?_
   rw [lit_c1,if_pos (Nat.le_refl _)]
   exact back _ _
  ·exact (back _ _).mono (lp [] [] (.num 2) (.num 3) rfl)
 | succ n ih=>
  intro s mu om sn hn hs
  have hlt:s<lim:=lp [_,_,_,_] [(su zA,zB),(.add zB zC,zD)] (su zC) zD rfl (eqL hn) (sbB _ _ hs)
  have next:∀pc sn,¬dotAt text lim s→Ends (mk c1 text lim s mu om pc s s [fr0 5 s om] 1 (some false) sn) (5*(n+1)+1) fun m'=>
   (∃a,s≤a∧dotAt text lim a∧(∀b,s≤b→b<a→¬dotAt text lim b)∧found a (a+1) m')∨((∀b,s≤b→¬dotAt text lim b)∧lost m'):=by
   intro pc sn hd
   refine Ends.step ?_
   rw [ret0_c1,if_pos hlt]
   obtain⟨k,hk,ho,hp⟩:=ih (s+1) false false sn (nA (lp [_,_,_,_,_] [(su zA,zB),(zC,.add zD (su zE)),(.add zB zE,zC)] zA zD rfl (eqL hn) (sbA _ _) (sbB _ _ (lp [_,_,_] [(.add zA (su zB),zC)] zB zC rfl (sbB _ _ hlt)))) (lp [_,_,_,_,_] [(zA,su zB),(zC,.add zA zD),(.add zE (su zD),zC)] zE zB rfl (eqR hn) (sbA _ _) (sbB _ _ hlt))) (hlt)
   refine⟨k,hk,ho,?_⟩
   rcases hp with ⟨a,ha,h1,h2,h3⟩|⟨h1,h2⟩
   ·refine .inl ⟨a,lp [_,_] [(su zA,zB)] zA zB rfl ha,h1,fun b hb hba=>?_,h3⟩
    by_cases hbs:b=s
    ·subst hbs;exact hd
    ·exact h2 b (nE hb (Ne.symm hbs)) hba
   ·refine .inr ⟨fun b hb=>?_,h2⟩
    by_cases hbs:b=s
    ·subst hbs;exact hd
    ·exact h1 b (nE hb (Ne.symm hbs))
  refine Ends.mono (n:=5*(n+1)+5) ?_ (lp [_] [] (.add (.mulL 5 (su zA)) (.num 5)) (.mulL 5 (.add (su zA) (.num 1))) rfl)
  refine Ends.step ?_
  rw [at_c1]
  split
  ·rename_i hb
   have hb':s=0∨text.getD (s - 1) 0=10:=by simpa using hb
   refine Ends.step ?_
   rw [lit_c1,if_neg (Nat.not_le_of_lt ‹_›)]
   split
   ·rename_i h46
    have h46':text.getD s 0=46:=by simpa using h46
    refine Ends.step ?_
    rw [suc_c1 (by simp)]
    refine Ends.step ?_
    rw [ret1_c1]
    obtain⟨k,hk,ho,hp⟩:=found_end (m:=mk c1 text lim s mu om 5 s (s+1) [] 0 (some true) ((((sn.add 6).add 44).add 16).add 1)) (a:=s) (e:=s+1) rfl rfl rfl
    exact⟨k,lp [_,_] [(zA,.num 1)] zA (.add (.mulL 5 (su zB)) (.num 1)) rfl hk,ho,.inl ⟨s,Nat.le_refl _,⟨hlt,hb',h46'⟩,fun b hb hba=>absurd hba (Nat.not_lt_of_le hb),hp⟩⟩
   ·rename_i h46
    exact (next _ _ fun h=>h46 (by rw [h.2.2];rfl)).mono (lp [_] [] (.add (.mulL 5 (su zA)) (.num 1)) (.add (.mulL 5 (su zA)) (.num 3)) rfl)
  ·rename_i hb
   exact (next _ _ fun h=>hb (by rcases h.2.1 with q|q <;> simp [q])).mono (lp [_] [] (.add (.mulL 5 (su zA)) (.num 1)) (.add (.mulL 5 (su zA)) (.num 4)) rfl)
end
abbrev kp0:Sre.Kept:={ lastmark:=-1,lastindex:=-1,whole:=false,marks:=#[] }
abbrev frB (pc s:Nat)(om:Bool):Sre.Frame:={ wait:=.nextBranch,pc:=pc,pos:=s,outermost:=om,kept:=kp0 }
abbrev frL (pc s:Nat)(om:Bool):Sre.Frame:={ wait:=.lookNot,pc:=pc,pos:=s,outermost:=om,kept:=kp0 }
section
variable {text:Array Nat}{lim s:Nat}{mu om o':Bool}{sn:Sre.Seen}{fs:List Sre.Frame}{wt hd pos:Nat}
theorem br_c2:(mk c2 text lim s mu om 10 s s [fr0 10 s om] 1 none sn).step=mk c2 text lim s mu om 12 s s [frB 11 s om,fr0 10 s om] 2 none (sn.add 7):=rfl
theorem lit_c2_12:(mk c2 text lim s mu om 12 pos hd fs wt none sn).step=if pos≥lim then mk c2 text lim s mu om 12 pos hd fs wt (some false) (sn.add 16) else
  if text.getD pos 0 == 13 then mk c2 text lim s mu om 14 (pos+1) hd fs wt none (sn.add 16)
  else mk c2 text lim s mu om 12 pos hd fs wt (some false) (sn.add 16):=by
 show (if pos≥lim then _ else _)=_
 by_cases h:pos≥lim
 ·rw [if_pos h,if_pos h];rfl
 ·rw [if_neg h,if_neg h]
  show (match (Except.ok (text.getD pos 0 == 13,sn.add 16):Except String (Bool×Sre.Seen)) with | .error why=>_ | .ok (false,seen)=>_ | .ok (true,seen)=>_)=_
  cases text.getD pos 0 == 13 <;> rfl
theorem lit_c2_14:(mk c2 text lim s mu om 14 pos hd fs wt none sn).step=if pos≥lim then mk c2 text lim s mu om 14 pos hd fs wt (some false) (sn.add 16) else
  if text.getD pos 0 == 10 then mk c2 text lim s mu om 16 (pos+1) hd fs wt none (sn.add 16)
  else mk c2 text lim s mu om 14 pos hd fs wt (some false) (sn.add 16):=by
 show (if pos≥lim then _ else _)=_
 by_cases h:pos≥lim
 ·rw [if_pos h,if_pos h];rfl
 ·rw [if_neg h,if_neg h]
  show (match (Except.ok (text.getD pos 0 == 10,sn.add 16):Except String (Bool×Sre.Seen)) with | .error why=>_ | .ok (false,seen)=>_ | .ok (true,seen)=>_)=_
  cases text.getD pos 0 == 10 <;> rfl
theorem lit_c2_19:(mk c2 text lim s mu om 19 pos hd fs wt none sn).step=if pos≥lim then mk c2 text lim s mu om 19 pos hd fs wt (some false) (sn.add 16) else
  if text.getD pos 0 == 10 then mk c2 text lim s mu om 21 (pos+1) hd fs wt none (sn.add 16)
  else mk c2 text lim s mu om 19 pos hd fs wt (some false) (sn.add 16):=by
 show (if pos≥lim then _ else _)=_
 by_cases h:pos≥lim
 ·rw [if_pos h,if_pos h];rfl
 ·rw [if_neg h,if_neg h]
  show (match (Except.ok (text.getD pos 0 == 10,sn.add 16):Except String (Bool×Sre.Seen)) with | .error why=>_ | .ok (false,seen)=>_ | .ok (true,seen)=>_)=_
  cases text.getD pos 0 == 10 <;> rfl
theorem lit_c2_24:(mk c2 text lim s mu om 24 pos hd fs wt none sn).step=if pos≥lim then mk c2 text lim s mu om 24 pos hd fs wt (some false) (sn.add 16) else
  if text.getD pos 0 == 13 then mk c2 text lim s mu om 26 (pos+1) hd fs wt none (sn.add 16)
  else mk c2 text lim s mu om 24 pos hd fs wt (some false) (sn.add 16):=by
 show (if pos≥lim then _ else _)=_
 by_cases h:pos≥lim
 ·rw [if_pos h,if_pos h];rfl
 ·rw [if_neg h,if_neg h]
  show (match (Except.ok (text.getD pos 0 == 13,sn.add 16):Except String (Bool×Sre.Seen)) with | .error why=>_ | .ok (false,seen)=>_ | .ok (true,seen)=>_)=_
  cases text.getD pos 0 == 13 <;> rfl
theorem lit_c2_29:(mk c2 text lim s mu om 29 pos hd fs wt none sn).step=if pos≥lim then mk c2 text lim s mu om 29 pos hd fs wt (some false) (sn.add 16) else
  if text.getD pos 0 == 10 then mk c2 text lim s mu om 31 (pos+1) hd fs wt none (sn.add 16)
  else mk c2 text lim s mu om 29 pos hd fs wt (some false) (sn.add 16):=by
 show (if pos≥lim then _ else _)=_
 by_cases h:pos≥lim
 ·rw [if_pos h,if_pos h];rfl
 ·rw [if_neg h,if_neg h]
  show (match (Except.ok (text.getD pos 0 == 10,sn.add 16):Except String (Bool×Sre.Seen)) with | .error why=>_ | .ok (false,seen)=>_ | .ok (true,seen)=>_)=_
  cases text.getD pos 0 == 10 <;> rfl
theorem jmp_c2 (pc:Nat)(hpc:pc=16∨pc=21∨pc=32):(mk c2 text lim s mu om pc pos hd fs wt none sn).step=mk c2 text lim s mu om 35 pos hd fs wt none (sn.add 15):=by
 rcases hpc with rfl|rfl|rfl <;> rfl
theorem suc_c2 (hp:(mu&&pos == s)=false):(mk c2 text lim s mu om 35 pos hd fs wt none sn).step=mk c2 text lim s mu om 35 pos pos fs wt (some true) (sn.add 1):=by
 show (if (om&&(false&&pos != lim||mu&&pos == s))=true then _ else _)=_
 rw [hp]
 simp
 rfl
theorem retB_c2 {pc p2:Nat}{k:Nat}:(mk c2 text lim s mu o' pc pos hd [frB k p2 om,fr0 10 s om] 2 (some true) sn).step=mk c2 text lim s mu om k p2 hd [fr0 10 s om] 1 (some true) sn:=rfl
theorem ret0_c2 {pc:Nat}:(mk c2 text lim s mu o' pc pos hd [fr0 10 s om] 1 (some true) sn).step=mk c2 text lim s mu om 10 s hd [] 0 (some true) sn:=rfl
theorem altB_c2 {pc:Nat}:(mk c2 text lim s mu o' pc pos hd [frB 11 s om,fr0 10 s om] 2 (some false) sn).step=mk c2 text lim s mu om 19 s s [frB 18 s om,fr0 10 s om] 2 none sn:=rfl
theorem altC_c2 {pc:Nat}:(mk c2 text lim s mu o' pc pos hd [frB 18 s om,fr0 10 s om] 2 (some false) sn).step=mk c2 text lim s mu om 24 s s [frB 23 s om,fr0 10 s om] 2 none sn:=rfl
theorem not_c2:(mk c2 text lim s mu om 26 pos hd [frB 23 s om,fr0 10 s om] 2 none sn).step=mk c2 text lim s mu false 29 pos pos [frL 26 pos om,frB 23 s om,fr0 10 s om] 3 none (sn.add 5):=rfl
theorem notB_c2 {pc p2:Nat}:(mk c2 text lim s mu o' pc pos hd [frL 26 p2 om,frB 23 s om,fr0 10 s om] 3 (some false) sn).step=mk c2 text lim s mu om 32 p2 hd [frB 23 s om,fr0 10 s om] 2 none sn:=rfl
noncomputable def brk2 (text:Array Nat)(lim s:Nat):Prop:=s<lim∧(text.getD s 0=10∨text.getD s 0=13)
noncomputable def end2 (text:Array Nat)(lim s:Nat):Nat:=if text.getD s 0=13∧s+1<lim∧text.getD (s+1) 0=10 then s+2 else s+1
theorem tail_c2 {k p2 e:Nat}(hp:(mu&&e == s)=false)(pc:Nat)(hpc:pc=16∨pc=21∨pc=32):Ends (mk c2 text lim s mu om pc e hd [frB k p2 om,fr0 10 s om] 2 none sn) 5 (found s e):=by
 refine Ends.step ?_
 rw [jmp_c2 pc hpc]
 refine Ends.step ?_
 rw [suc_c2 hp]
 refine Ends.step ?_
 rw [retB_c2]
 refine Ends.step ?_
 rw [ret0_c2]
 exact found_end rfl rfl rfl
theorem at_c2 (h:brk2 text lim s):Ends (mk c2 text lim s false om 10 s s [fr0 10 s om] 1 none sn) 20 (found s (end2 text lim s)):=by
 obtain⟨hlt,h⟩:=h
 refine Ends.step ?_
 rw [br_c2]
 refine Ends.step ?_
 rw [lit_c2_12,if_neg (Nat.not_le_of_lt ‹_›)]
 by_cases h13:text.getD s 0=13
 ·rw [if_pos (by rw [h13];rfl)]
  refine Ends.step ?_
  rw [lit_c2_14]
  have alt:∀sn,¬(s+1<lim∧text.getD (s+1) 0=10)→Ends (mk c2 text lim s false om 14 (s+1) s [frB 11 s om,fr0 10 s om] 2 (some false) sn) 17 (found s (end2 text lim s)):=by
   intro sn hno
   have he:end2 text lim s=s+1:=by unfold end2;rw [if_neg];exact fun q=>hno q.2
   refine Ends.step ?_
   rw [altB_c2]
   refine Ends.step ?_
   rw [lit_c2_19,if_neg (Nat.not_le_of_lt ‹_›),if_neg (by rw [h13];decide)]
   refine Ends.step ?_
   rw [altC_c2]
   refine Ends.step ?_
   rw [lit_c2_24,if_neg (Nat.not_le_of_lt ‹_›),if_pos (by rw [h13];rfl)]
   refine Ends.step ?_
   rw [not_c2]
   refine Ends.step ?_
   rw [lit_c2_29]
   have fin:∀sn,Ends (mk c2 text lim s false false 29 (s+1) (s+1) [frL 26 (s+1) om,frB 23 s om,fr0 10 s om] 3 (some false) sn) 6 (found s (end2 text lim s)):=by
    intro sn
    refine Ends.step ?_
    rw [notB_c2,he]
    exact tail_c2 rfl 32 (by simp)
   split
   ·exact (fin _).mono (lp [] [] (.num 6) (.num 11) rfl)
   ·rename_i hge
    rw [if_neg (fun q=>hno ⟨Nat.lt_of_not_le ‹_›,by simpa using q⟩)]
    exact (fin _).mono (lp [] [] (.num 6) (.num 11) rfl)
  split
  ·rename_i hge
   exact alt _ (by lia)
  ·rename_i hge
   split
   ·rename_i h10
    have h10':text.getD (s+1) 0=10:=by simpa using h10
    have he:end2 text lim s=s+2:=by unfold end2;rw [if_pos ⟨h13,Nat.lt_of_not_le ‹_›,h10'⟩]
    rw [he]
    exact (tail_c2 rfl 16 (by simp)).mono (lp [] [] (.num 5) (.num 17) rfl)
   ·rename_i h10
    exact alt _ fun q=>h10 (by rw [q.2];rfl)
 ·have h10:text.getD s 0=10:=h.resolve_right h13
  have he:end2 text lim s=s+1:=by unfold end2;rw [if_neg];exact fun q=>h13 q.1
  rw [if_neg (by rw [h10];decide),he]
  refine Ends.step ?_
  rw [altB_c2]
  refine Ends.step ?_
  rw [lit_c2_19,if_neg (Nat.not_le_of_lt ‹_›),if_pos (by rw [h10];rfl)]
  exact (tail_c2 rfl 21 (by simp)).mono (lp [] [] (.num 5) (.num 16) rfl)
end
end Mine
namespace Mine
theorem plainAttrs_re:PlainAttrs "re.Pattern":=
 ⟨⟨"object.__getattribute__",by rw [typeLookup_type,builtinLookup_eq_fast];kernel_rfl,by decide +kernel⟩,by rw [typeLookup_type,builtinLookup_eq_fast];kernel_rfl⟩
theorem type_re_sub:typeOf (.builtin "re.Pattern.sub")=pure (.type "method_descriptor"):=by show builtinType _=_;rw [builtinType_eq_fast];kernel_rfl
theorem entry_re_sub:entryFor table "re.Pattern.sub" = some Builtin.«re.Pattern.sub»:=entryFor_of_tree (by kernel_rfl)
theorem entry_re_subloop:entryFor table "re.Pattern.sub.loop" = some Builtin.«re.Pattern.sub.loop»:=entryFor_of_tree (by kernel_rfl)
end Mine
namespace Mine
theorem owner_re:Manifest.owners.lookup (String.ofList ['n','r','e','t','t','a','P','.','e','r'].reverse)=some Manifest.sig_re_Pattern:=by kernel_rfl
theorem args_re_sub_3 (a b c:Value):argsOk "re.Pattern.sub" ⟨[a,b,c],[]⟩:=by
 unfold argsOk;rw [signature?_of (id:="re.Pattern.sub") (n:=['b','u','s']) (o:=['n','r','e','t','t','a','P','.','e','r']) (by kernel_rfl) owner_re];kernel_rfl
theorem slot_re_sub:Slot "re.Pattern" "sub" "re.Pattern.sub":=
 .of (owner:="re.Pattern") (n:="sub") (by rw [typeLookup_type,builtinLookup_eq_fast];kernel_rfl) (by decide +kernel) (by decide +kernel) (by decide +kernel)
  (by first|exact .inl (by decide +kernel)|exact .inr (by decide +kernel)) (by rw [isSubtype_type];kernel_rfl)
section
variable {M:Model}
open PySem.Builtin.Re (reDrive reRunToEnd reNextFound reTurnSteps)
theorem wp_drive {Q:Sre.M→Shared→Prop}{P:Sre.M→Prop}:∀(turns n:Nat)(m:Sre.M),Ends m n P→n≤4*turns→(∀m',m'.outcome.isSome=true→P m'→Q m' s)→0<turns→wpAny M A (reDrive turns m) Q E s
 | 0,_,_,_,_,_,h=>absurd h (Nat.lt_irrefl 0)
 | turns+1,n,m,hE,hn,hQ,_=>by
  obtain⟨k,hk,ho,hp⟩:=hE
  unfold reDrive
  show wpAny M A (if ((Sre.M.runFor 4 m).outcome.isSome)=true then pure (Sre.M.runFor 4 m) else do rule "sre.turn";reDrive turns (Sre.M.runFor 4 m)) Q E s
  rw [runFor_iter]
  by_cases h4:(iter 4 m).outcome.isSome=true
  ·rw [if_pos h4]
   have e:iter 4 m=iter k m:=by
    rcases Nat.le_total k 4 with h|h
    ·have:iter 4 m=iter (4 - k) (iter k m):=by rw [←iter_add];congr 1;exact nA (lp [_,_] [(.num 4,.add zA zB)] (.num 4) (.add zB zA) rfl (sbA _ _)) (lp [_,_] [(.add zA zB,.num 4)] (.add zB zA) (.num 4) rfl (sbB _ _ h))
     rw [this,iter_done ho]
    ·have:iter k m=iter (k - 4) (iter 4 m):=by rw [←iter_add];congr 1;exact nA (lp [_,_] [(zA,.add zB (.num 4))] zA (.add (.num 4) zB) rfl (sbA _ _)) (lp [_,_] [(.add zA (.num 4),zB)] (.add (.num 4) zA) zB rfl (sbB _ _ h))
     rw [this,iter_done h4]
   exact wpAny_pure (hQ _ h4 (e▸hp))
  ·rw [if_neg h4]
   have hk4:4<k:=by
    rcases Nat.lt_or_ge 4 k with h|h
    ·exact h
    ·have:iter 4 m=iter (4 - k) (iter k m):=by rw [←iter_add];congr 1;exact nA (lp [_,_] [(.num 4,.add zA zB)] (.num 4) (.add zB zA) rfl (sbA _ _)) (lp [_,_] [(.add zA zB,.num 4)] (.add zB zA) (.num 4) rfl (sbB _ _ h))
     rw [this,iter_done ho] at h4
     exact absurd ho h4
   have e:iter k m=iter (k - 4) (iter 4 m):=by rw [←iter_add];congr 1;exact nA (lp [_,_] [(zA,.add zB (.num 4))] zA (.add (.num 4) zB) rfl (sbA _ _)) (lp [_,_] [(.add zA (.num 4),zB)] (.add (.num 4) zA) zB rfl (sbB _ _ (lp [_] [(.add (.num 4) (.num 1),zA)] (.num 4) zA rfl hk4)))
   rw [e] at ho hp
   exact wpAny_bind (wpAny_rule (wp_drive turns (k - 4) _ ⟨k - 4,Nat.le_refl _,ho,hp⟩ (lp [_,_,_,_] [(zA,.mulL 4 (su zB)),(zC,zA),(.add zD (.num 4),zC)] zD (.mulL 4 zB) rfl hn hk (sbB _ _ (lp [_] [(.add (.num 4) (.num 1),zA)] (.num 4) zA rfl hk4))) hQ (lq [_,_,_] [(1,zA,.mulL 4 (su zB)),(1,zC,zA),(1,.add (.num 4) (.num 1),zC)] 4 (.add (.num 0) (.num 1)) zB rfl hn hk hk4)))
theorem wp_next {t:Builtin.Re.ReTarget}{start:Nat}{must:Bool}{n:Nat}{Q:Option Sre.M→Shared→Prop}{P:Nat→Nat→Prop}{N:Prop}
  (hE:Ends (Sre.forSearch t.code t.text t.groups start t.lim must) n fun m'=>(∃a e,P a e∧found a e m')∨(N∧lost m'))(hn:n≤2 ^ 66)
  (h1:∀m a e,P a e→m.start=a→m.handed=e→Q (some m) s)(h2:N→Q none s):wpAny M A (reNextFound t start must) Q E s:=by
 unfold reNextFound reRunToEnd
 refine wpAny_bind (wp_drive (2 ^ 64) n _ hE (lp [_] [(zA,.num 73786976294838206464)] zA (.mulL 4 (.num 18446744073709551616)) rfl hn) (fun m ho hp=>?_) (lp [] [] (.add (.num 0) (.num 1)) (.num 18446744073709551616) rfl))
 refine wpAny_bind (wpAny_forIn_list _ (fun _ _ s'=>s'=s) _ (fun x rest b s' hs=>?_) (fun b s' hs=>?_) _ _ rfl)
 ·subst hs
  split
  ·exact wpAny_bind (wpAny_rule (wpAny_pure rfl))
  ·exact wpAny_pure rfl
 ·subst hs
  rcases hp with ⟨a,e,hP,ho',h3,h4⟩|⟨hN,hl⟩
  ·cases hm:m.outcome with
   | none=>rw [hm] at ho';exact ho'.elim
   | some o=>
    rw [hm] at ho'
    cases o with
    | matched=>exact wpAny_pure (h1 m a e hP h3 h4)
    | failed=>exact ho'.elim
    | stuck w=>exact ho'.elim
  ·cases hm:m.outcome with
   | none=>unfold lost at hl;rw [hm] at hl;exact hl.elim
   | some o=>
    unfold lost at hl;rw [hm] at hl
    cases o with
    | matched=>exact hl.elim
    | failed=>exact wpAny_pure (h2 hN)
    | stuck w=>exact hl.elim
end
theorem search_c1 (text:Array Nat)(p:Nat)(must:Bool)(hp:p≤text.size) :
  Ends (Sre.forSearch c1 text 0 p text.size must) (5*(text.size+2)) fun m'=>(∃a e,(p≤a∧e=a+1∧dotAt text text.size a∧∀b,p≤b→b<a→¬dotAt text text.size b)∧found a e m')∨((∀b,p≤b→¬dotAt text text.size b)∧lost m'):=by
 show Ends (if (decide (p>text.size)||decide (text.size - p<1))=true then _ else _) _ _
 by_cases h:p=text.size
 ·rw [if_pos (by simp [h])]
  exact⟨1,lp [_] [] (.num 1) (.mulL 5 (.add zA (.num 2))) rfl,rfl,.inr ⟨fun b hb q=>absurd q.1 (Nat.not_lt_of_le (nT (eqR h) hb)),trivial⟩⟩
 ·rw [if_neg (by simp;exact⟨lp [_,_] [(su zA,zB)] zA zB rfl (nE (lp [_,_,_] [(.add zA zB,zC)] zB zC rfl (sbB _ _ hp)) h),Nat.ne_of_gt (lp [_,_,_] [(zA,.add zB zC),(su zC,zA)] (.add (.num 0) (.num 1)) zB rfl (sbA _ _) (nE (lp [_,_,_] [(.add zA zB,zC)] zB zC rfl (sbB _ _ hp)) h))⟩)]
  obtain⟨k,hk,ho,hr⟩:=run_c1 (text:=text) (lim:=text.size) (text.size - p) p must true (({}:Sre.Seen).add 14) rfl hp
  refine⟨k,lq [_,_,_,_] [(1,zA,.mulL 5 (su zB)),(5,.add zB zC,zD)] 1 zA (.mulL 5 (.add zD (.num 2))) rfl hk (sbB _ _ hp),ho,?_⟩
  rcases hr with ⟨a,h1,h2,h3,h4⟩|h
  ·exact .inl ⟨a,a+1,⟨h1,rfl,h2,h3⟩,h4⟩
  ·exact .inr h
theorem adm_c2 {m:Sre.M}(hc:m.code=c2)(hl:m.lim=m.text.size):∀(fuel s:Nat)(sn:Sre.Seen),m.text.size+1 - s≤fuel→s≤m.text.size→∃sn',
  (∃a,s≤a∧brk2 m.text m.text.size a∧(∀b,s≤b→b<a→¬brk2 m.text m.text.size b)∧Sre.M.admitted m fuel s sn = .ok (some a,sn'))∨
  ((∀b,s≤b→¬brk2 m.text m.text.size b)∧Sre.M.admitted m fuel s sn = .ok (none,sn'))
 | 0,s,sn,h,h'=>absurd h (Nat.not_le_of_lt (lp [_,_,_] [(zA,zB),(su zB,.add zC zA)] (.add (.num 0) (.num 1)) zC rfl h' (sbA _ _)))
 | fuel+1,s,sn,h,h'=>by
  unfold Sre.M.admitted
  rw [hc,hl]
  by_cases hs:s≥m.text.size
  ·rw [if_pos hs]
   exact⟨sn,.inr ⟨fun b hb q=>absurd q.1 (Nat.not_lt_of_le (nT hs hb)),rfl⟩⟩
  ·rw [if_neg hs]
   have e:Sre.inSet c2 (m.text.getD s 0) c2.size 5 true sn=if (m.text.getD s 0 == 10)=true then .ok (true,sn.add 16) else if (m.text.getD s 0 == 13)=true then .ok (true,(sn.add 16).add 16) else .ok (false,((sn.add 16).add 16).add 0):=by
    show (if (m.text.getD s 0 == 10)=true then _ else if (m.text.getD s 0 == 13)=true then _ else _)=_
    rfl
   rw [e]
   by_cases h10:(m.text.getD s 0 == 10)=true
   ·rw [if_pos h10]
    exact⟨_,.inl ⟨s,Nat.le_refl _,⟨Nat.lt_of_not_le ‹_›,.inl (by simpa using h10)⟩,fun b hb hba=>absurd hba (Nat.not_lt_of_le hb),rfl⟩⟩
   ·rw [if_neg h10]
    by_cases h13:(m.text.getD s 0 == 13)=true
    ·rw [if_pos h13]
     exact⟨_,.inl ⟨s,Nat.le_refl _,⟨Nat.lt_of_not_le ‹_›,.inr (by simpa using h13)⟩,fun b hb hba=>absurd hba (Nat.not_lt_of_le hb),rfl⟩⟩
    ·rw [if_neg h13]
     have hno:¬brk2 m.text m.text.size s:=fun q=>q.2.elim (fun q=>h10 (by rw [q];rfl)) fun q=>h13 (by rw [q];rfl)
     obtain⟨sn',h⟩:=adm_c2 hc hl fuel (s+1) (((sn.add 16).add 16).add 0) (lp [_,_,_,_,_] [(zA,su zB),(su zC,.add zA zD),(.add zE (su zD),su zC)] zE zB rfl h (sbA _ _) (sbB _ _ (lp [_,_] [(zA,zB)] (su zA) (su zB) rfl h'))) (Nat.lt_of_not_le ‹_›)
     refine⟨sn',?_⟩
     rcases h with ⟨a,h1,h2,h3,h4⟩|⟨h1,h2⟩
     ·refine .inl ⟨a,lp [_,_] [(su zA,zB)] zA zB rfl h1,h2,fun b hb hba=>?_,h4⟩
      by_cases hbs:b=s
      ·subst hbs;exact hno
      ·exact h3 b (nE hb (Ne.symm hbs)) hba
     ·refine .inr ⟨fun b hb=>?_,h2⟩
      by_cases hbs:b=s
      ·subst hbs;exact hno
      ·exact h1 b (nE hb (Ne.symm hbs))
theorem search_c2 (text:Array Nat)(p:Nat)(must:Bool)(hp:p≤text.size) :
  Ends (Sre.forSearch c2 text 0 p text.size must) 20 fun m'=>(∃a e,(p≤a∧e=end2 text text.size a∧brk2 text text.size a∧∀b,p≤b→b<a→¬brk2 text text.size b)∧found a e m')∨((∀b,p≤b→¬brk2 text text.size b)∧lost m'):=by
 show Ends (if (decide (p>text.size)||decide (text.size - p<1))=true then _ else _) _ _
 by_cases h:p=text.size
 ·rw [if_pos (by simp [h])]
  exact⟨1,lp [] [] (.num 1) (.num 20) rfl,rfl,.inr ⟨fun b hb q=>absurd q.1 (Nat.not_lt_of_le (nT (eqR h) hb)),trivial⟩⟩
 ·rw [if_neg (by simp;exact⟨lp [_,_] [(su zA,zB)] zA zB rfl (nE (lp [_,_,_] [(.add zA zB,zC)] zB zC rfl (sbB _ _ hp)) h),Nat.ne_of_gt (lp [_,_,_] [(zA,.add zB zC),(su zC,zA)] (.add (.num 0) (.num 1)) zB rfl (sbA _ _) (nE (lp [_,_,_] [(.add zA zB,zC)] zB zC rfl (sbB _ _ hp)) h))⟩)]
  let m:Sre.M:={ code:=c2,text,lim:=text.size,start:=p,lastStart:=text.size,pc:=10,pos:=p,handed:=p,marks:=#[],mustAdvance:=must,seen:=({}:Sre.Seen).add 14 }
  show Ends (match Sre.M.admitted m (text.size+1 - p) p m.seen with
   | .ok (some s,seen)=>Sre.M.attemptAt { m with mustAdvance:=false,seen } s true
   | .ok (none,seen)=>Sre.M.say { m with seen } false
   | .error why=>m.stick why) _ _
  obtain⟨sn',hr⟩:=adm_c2 (m:=m) rfl rfl (text.size+1 - p) p m.seen (Nat.le_refl _) hp
  rcases hr with ⟨a,h1,h2,h3,h4⟩|⟨h1,h2⟩
  ·rw [h4]
   obtain⟨k,hk,ho,hr⟩:=at_c2 (text:=text) (lim:=text.size) (s:=a) (om:=true) (sn:=sn') h2
   exact⟨k,hk,ho,.inl ⟨a,_,⟨h1,rfl,h2,h3⟩,hr⟩⟩
  ·rw [h2]
   exact⟨1,lp [] [] (.num 1) (.num 20) rfl,rfl,.inr ⟨h1,trivial⟩⟩
end Mine
namespace Mine
open PySem.Builtin.Re (reWholeTarget reNextFound ReTarget reRawOf reRawNat)
structure PatAt (h:Heap)(p:Addr)(code:Array Nat):Prop where
 ex:∃o fs T oT items n,h.get? p=some o∧o.cls = .type "re.Pattern"∧o.dict=none∧o.data = .fields fs∧fs.getD 5 .none = .ref T∧reRawNat (fs.getD 6 .none)=0∧reRawNat (fs.getD 2 .none)=0∧
  h.get? T=some oT∧oT.data = .seq items n∧(items.map reRawOf).map (·.toNat)=code
theorem PatAt.sub {h h':Heap} {p code}(x:PatAt h p code)(hk:Sub h h'):PatAt h' p code:=by
 obtain⟨o,fs,T,oT,items,n,h1,h2,h3,h4,h5,h6,h7,h8,h9,h10⟩:=x.ex
 exact⟨o,fs,T,oT,items,n,hk _ _ h1,h2,h3,h4,h5,h6,h7,hk _ _ h8,h9,h10⟩
section
variable {M:Model}
abbrev tgt (p:Addr)(x:Str)(t:Tok)(code:Array Nat):ReTarget:={ pattern:=.ref p,string:=.str x t,code,text:=x.cps,kind:=0,groups:=0,pos:=0,lim:=x.cps.size }
theorem wp_whole {p:Addr}{x:Str}{t:Tok}{code:Array Nat}{Q:ReTarget→Shared→Prop}(P:PatAt s.heap p code)(h:Q (tgt p x t code) s):wpAny M A (reWholeTarget (.ref p) (.str x t)) Q E s:=by
 obtain⟨o,fs,T,oT,items,n,h1,h2,h3,h4,h5,h6,h7,h8,h9,h10⟩:=P.ex
 unfold reWholeTarget
 refine wpAny_bind (wpAny_fieldsOf h1 h4 ?_)
 show wpAny _ _ (pure (x.cps,0) >>= _) _ _ _
 refine wpAny_bind (wpAny_pure ?_)
 dsimp only
 rw [h6,h5,h7]
 simp only [beq_self_eq_true,Bool.true_and]
 show wpAny _ _ (Builtin.Re.reNoCollectionInside (.str x t) 0 >>= _) _ _ _
 refine wpAny_bind (wpAny_pure ?_)
 unfold Builtin.Re.reRawItems
 refine wpAny_bind (wpAny_bind (wpAny_seqItems h8 h9 (wpAny_pure (wpAny_pure ?_))))
 simp only [Option.getD_some]
 rw [h10]
 exact h
end
end Mine
namespace Mine
open PySem.Builtin.Re (reWholeTarget reNextFound ReTarget reRawOf reRawNat)
section
abbrev subArgs (p:Addr)(x:Str)(t:Tok)(r:Str)(u:Tok)(n st:Nat)(must:Bool)(l:Addr):Args:=
 ⟨[.ref p,.str x t,.str r u,rawInt (0:Nat),rawInt 0,rawInt n,rawInt st,rawInt st,.bool must,.ref l,.bool false],[]⟩
theorem plain_subloop:plainId "re.Pattern.sub.loop" = true:=by decide +kernel
structure SubSpec (code:Array Nat)(x r:Str)(G:Nat→List Nat):Prop where
 ex:∃(Found:Nat→Nat→Nat→Prop) (NotF:Nat→Prop),
  (∀st must,st≤x.cps.size→∃n,n≤2 ^ 66∧Ends (Sre.forSearch code x.cps 0 st x.cps.size must) n (fun m'=>(∃a e,Found st a e∧found a e m')∨(NotF st∧lost m')))∧
  (∀st a e,Found st a e→st≤a∧a<e∧e≤x.cps.size∧G st=(x.cps.extract st a).toList++r.cps.toList++G e)∧
  (∀st,NotF st→G st=(x.cps.extract st x.cps.size).toList)
theorem strsAre_of {K:Heap}{vs:List Value}{ys:List Str}(h:All2 (rStr.r K) vs ys):StrsAre vs ys:=by
 induction h with
 | nil=>exact .nil
 | cons h _ ih=>obtain⟨t,rfl⟩:=h;exact .cons _ t ih
theorem length_flat:∀ys:List Str,(ys.flatMap (·.cps.toList)).length=(ys.map (·.length)).sum
 | []=>rfl
 | y::ys=>by
  rw [flatMap_cons,length_append,length_flat ys,map_cons,List.sum_cons]
  simp [Str.length]
theorem glue_flat (g:Array Nat):∀(ys:List Str)(acc:Array Nat),ys.foldl (fun acc p=>acc++g++p.cps) acc=acc++(ys.flatMap (fun p=>g.toList++p.cps.toList)).toArray
 | [],acc=>by simp
 | y::ys,acc=>by
  rw [foldl_cons,glue_flat g ys,flatMap_cons]
  apply Array.ext'
  simp [append_assoc]
theorem join_flat (e:Array Nat)(ys:List Str):Txt.join ⟨e.extract 0 0⟩ ys=⟨(ys.flatMap (·.cps.toList)).toArray⟩:=by
 have e0:e.extract 0 0=#[]:=by simp
 rw [e0]
 exact congrArg Str.mk (by
  rw [glue_flat]
  cases ys with
  | nil=>rfl
  | cons y ys=>simp [flatMap_cons])
theorem push_seq (vs:List Value)(v:Value)(nn:Nat):Obj.mapSeq (·.push v) (lo vs.toArray nn)=lo (vs++[v]).toArray (nn+1):=by simp [Obj.mapSeq]
theorem sub_loop {p:Addr}{x:Str}{t:Tok}{r:Str}{u:Tok}{code:Array Nat}{G:Nat→List Nat}(P:PatAt K p code)(Sp:SubSpec code x r G)(hx:x.cps.size≤2 ^ 20)(hG:(G 0).length≤2 ^ 23){R:Result→Shared→Prop}{l:Addr} :
  ∀(k n st:Nat) (must:Bool) (vs:List Value) (ys:List Str) (nn:Nat) (h:Heap) (tk:Nat),k=x.cps.size - st→st≤x.cps.size→vs.length≤2*st→All2 (rStr.r K) vs ys→ys.flatMap (·.cps.toList)++G st=G 0→
   St O K L m ((l,lo vs.toArray nn)::led) h→(∀v h' tk',St O K L m led h'→rStr.r K v ⟨(G 0).toArray⟩→R (.ok (.ret v)) (sh s h' tk'))→
   codeAny (model prog w) A (.builtin "re.Pattern.sub.loop" (subArgs p x t r u n st must l)) R (sh s h tk):=by
 obtain⟨Found,NotF,hs,hF,hN⟩:=Sp.ex
 intro k
 induction k using Nat.strongRecOn with
 | ind k ih=>
 intro n st must vs ys nn h tk hk hst hlen hys hsum S c
 refine codeAny_builtin entry_re_subloop ?_
 rw [Around.under_plainId plain_subloop]
 unfold Builtin.«re.Pattern.sub.loop»
 dsimp only [subArgs]
 refine wpAny_bind (wp_whole (P.sub S.stays) ?_)
 show wpAny _ _ (Builtin.Re.reLiteralCannotBeTurned (.str r u) >>= _) _ _ _
 refine wpAny_bind (wpAny_pure ?_)
 show wpAny _ _ (reNextFound (tgt p x t code) st must >>= _) _ _ _
 obtain⟨N,hN1,hE⟩:=hs st must hst
 have hsz:vs.toArray.size≤sizeLine:=by rw [size_toArray];show vs.length≤2 ^ 24;exact lq [_,_,_,_] [(2,zA,.num 1048576),(1,zB,.mulL 2 zC),(2,.add zD zC,zA)] 1 zB (.num 16777216) rfl hx hlen (sbB _ _ hst)
 refine wpAny_bind (wp_next hE hN1 (fun mm a e hP h1 h2=>?_) fun hNo=>?_)
 ·obtain⟨g1,g2,g3,g4⟩:=hF st a e hP
  dsimp only
  subst h1 h2
  have key:∀(vs':List Value) (ys':List Str) (nn':Nat) (h':Heap) (tk':Nat),vs'.length≤2*st+1→All2 (rStr.r K) vs' ys'→ys'.flatMap (·.cps.toList)++r.cps.toList++G mm.handed=G 0→
    St O K L m ((l,lo vs'.toArray nn')::led) h'→wpAny (model prog w) A.in1
     (do updateSeq l (·.push (.str r u));again (.builtin "re.Pattern.sub.loop" ⟨[.ref p,.str x t,.str r u,rawInt (0:Nat),rawInt 0,rawInt (n+1),rawInt mm.handed,rawInt mm.handed,.bool (mm.handed == mm.start),.ref l,.bool false],[]⟩))
     (fun fin s'=>match fin with | .done f=>R (.ok f) s' | .again c'=>c'.quiet=true∧codeAny (model prog w) A c' R s') (fun e s'=>R (.error e) s') (sh s h' tk'):=by
   intro vs' ys' nn' h' tk' hl' ha' hsum' S'
   refine wpAny_bind (wpAny_updateSeq (S'.at 0 rfl) rfl ?_ (by rw [size_toArray];show vs'.length≤2 ^ 24;exact lq [_,_,_,_] [(2,zA,.num 1048576),(1,zB,su (.mulL 2 zC)),(2,.add zD zC,zA)] 1 zB (.num 16777216) rfl hx hl' (sbB _ _ (lp [_,_,_,_] [(zA,zB),(zC,zD),(su zB,zC)] zA zD rfl g1 g3 g2))) (by rw [Array.size_push,size_toArray];show vs'.length+1≤2 ^ 24+1;exact lq [_,_,_,_] [(2,zA,.num 1048576),(1,zB,su (.mulL 2 zC)),(2,.add zD zC,zA)] 1 (su zB) (.add (.num 16777216) (.num 1)) rfl hx hl' (sbB _ _ (lp [_,_,_,_] [(zA,zB),(zC,zD),(su zB,zC)] zA zD rfl g1 g3 g2))))
   refine wpAny_pure ⟨plainId_quiet plain_subloop _,?_⟩
   have S2:=S'.update (Obj.mapSeq (·.push (.str r u))) 0 rfl rfl
   refine ih (x.cps.size - mm.handed) (lp [_,_,_,_,_,_,_] [(zA,zB),(zC,zD),(su zD,zE),(zF,.add zA zC),(.add zG zE,zF)] (su zG) zB rfl (eqR hk) g1 g2 (sbA _ _) (sbB _ _ g3)) (n+1) mm.handed (mm.handed == mm.start) (vs'++[.str r u]) (ys'++[r]) (nn'+1) _ tk' rfl g3 (by simp;exact lq [_,_,_,_] [(2,zA,zB),(2,su zB,zC),(1,zD,su (.mulL 2 zA))] 1 (su zD) (.mulL 2 zC) rfl g1 g2 hl') (ha'.snoc ⟨u,rfl⟩) (by simpa using hsum') ?_ c
   rw [←push_seq];exact S2
  by_cases hd:st<mm.start
  ·show wpAny _ _ (if st<mm.start then _ else _) _ _ _
   rw [if_pos hd]
   have hx1:(x.cps.extract st mm.start).size≤2 ^ 20:=by rw [Array.size_extract];exact lp [_,_,_,_] [(zA,.num 1048576),(zB,zA),(.add zC zD,zB)] zC (.num 1048576) rfl hx (Nat.min_le_right _ _) (sbB _ _ (lp [_,_,_] [(su zA,zB),(zB,zC)] zA zC rfl hd (eqR (Nat.min_eq_left (lp [_,_,_] [(zA,zB),(su zC,zA)] zC zB rfl g3 g2)))))
   refine wpAny_bind (wpAny_mkStr ?_ (by show (x.cps.extract st mm.start).size≤2 ^ 24;exact lp [_] [(zA,.num 1048576)] zA (.num 16777216) rfl hx1))
   refine wpAny_bind (wpAny_updateSeq (S.at 0 rfl) rfl ?_ (hsz) (by rw [Array.size_push];exact lp [_,_] [(zA,zB)] (su zA) (su zB) rfl hsz))
   have S2:=S.update (Obj.mapSeq (·.push (.str ⟨x.cps.extract st mm.start⟩ tk))) 0 rfl rfl
   refine key (vs++[.str ⟨x.cps.extract st mm.start⟩ tk]) (ys++[⟨x.cps.extract st mm.start⟩]) (nn+1) _ _ (by simp;exact hlen) (hys.snoc ⟨_,rfl⟩) ?_ ?_
   ·rw [←hsum,g4];simp [append_assoc]
   ·rw [←push_seq];exact S2
  ·show wpAny _ _ (if st<mm.start then _ else _) _ _ _
   rw [if_neg hd]
   refine key vs ys nn _ _ (lp [_,_] [(zA,.mulL 2 zB)] zA (su (.mulL 2 zB)) rfl hlen) hys ?_ S
   have:st=mm.start:=nA g1 (nN hd)
   rw [←hsum,g4,←this];simp
 ·have g4:=hN st hNo
  dsimp only
  have key:∀(vs':List Value) (ys':List Str) (nn':Nat) (h':Heap) (tk':Nat),vs'.length≤2*x.cps.size+1→All2 (rStr.r K) vs' ys'→ys'.flatMap (·.cps.toList)=G 0→
    St O K L m ((l,lo vs'.toArray nn')::led) h'→wpAny (model prog w) A.in1
     (do
      let joiner ←Builtin.Re.reSlice x.cps 0 0 0
      let text ←if ((←seqItems? (.ref l)).getD #[]).isEmpty then pure joiner else call (.builtin "str.join") [joiner,.ref l]
      ret text)
     (fun fin s'=>match fin with | .done f=>R (.ok f) s' | .again c'=>c'.quiet=true∧codeAny (model prog w) A c' R s') (fun e s'=>R (.error e) s') (sh s h' tk'):=by
   intro vs' ys' nn' h' tk' hl' ha' hsum' S'
   refine wpAny_bind (wpAny_mkStr ?_ (by show (x.cps.extract 0 0).size≤2 ^ 24;simp))
   refine wpAny_bind (wpAny_seqItems (S'.at 0 rfl) rfl ?_)
   cases vs' with
   | nil=>
    refine wpAny_bind (wpAny_pure (wpAny_pure ?_))
    cases ha'
    refine c _ _ _ S'.tail ⟨tk',?_⟩
    rw [←hsum'];simp
   | cons v vs'=>
    show wpAny _ _ (call (.builtin "str.join") _ >>= _) _ _ _
    refine wpAny_bind (PyProof.Rows.join_list ⟨_,S'.at 0 rfl,rfl,nn',rfl⟩ (strsAre_of ha') ?_ fun t' k=>wpAny_pure ?_)
    ·have:(Str.length ⟨x.cps.extract 0 0⟩)=0:=by show (x.cps.extract 0 0).size=0;simp
     rw [this]
     have:=congrArg List.length hsum'
     rw [length_flat] at this
     exact lp [_,_,_] [(zA,.num 8388608),(zB,zA)] (.add zB (.mulR zC 0)) (.num 16777216) rfl hG (eqL this)
    ·refine c _ _ _ S'.tail ⟨t',?_⟩
     rw [←hsum',join_flat]
  by_cases hd:st<x.cps.size
  ·show wpAny _ _ (if st<x.cps.size then _ else _) _ _ _
   rw [if_pos hd]
   refine wpAny_bind (wpAny_mkStr ?_ (by show (x.cps.extract st x.cps.size).size≤2 ^ 24;rw [Array.size_extract];exact lp [_,_,_,_] [(zA,.num 1048576),(zB,zA),(.add zC zD,zB)] zC (.num 16777216) rfl hx (Nat.min_le_right _ _) (sbB _ _ (lp [_,_,_] [(su zA,zB),(zB,zC)] zA zC rfl hd (eqR (Nat.min_eq_left (lp [_] [] zA zA rfl)))))))
   refine wpAny_bind (wpAny_updateSeq (S.at 0 rfl) rfl ?_ (hsz) (by rw [Array.size_push];exact lp [_,_] [(zA,zB)] (su zA) (su zB) rfl hsz))
   have S2:=S.update (Obj.mapSeq (·.push (.str ⟨x.cps.extract st x.cps.size⟩ tk))) 0 rfl rfl
   refine key (vs++[.str ⟨x.cps.extract st x.cps.size⟩ tk]) (ys++[⟨x.cps.extract st x.cps.size⟩]) (nn+1) _ _ (by simp;exact lq [_,_,_,_] [(1,zA,.mulL 2 zB),(2,.add zC zB,zD)] 1 zA (.mulL 2 zD) rfl hlen (sbB _ _ (lp [_,_] [(su zA,zB)] zA zB rfl hd))) (hys.snoc ⟨_,rfl⟩) ?_ ?_
   ·rw [←hsum,g4];simp [append_assoc]
   ·rw [←push_seq];exact S2
  ·show wpAny _ _ (if st<x.cps.size then _ else _) _ _ _
   rw [if_neg hd]
   refine key vs ys nn _ _ (lq [_,_,_,_] [(1,zA,.mulL 2 zB),(2,.add zC zB,zD)] 1 zA (su (.mulL 2 zD)) rfl hlen (sbB _ _ hst)) hys ?_ S
   have:st=x.cps.size:=nA (lp [_,_,_] [(.add zA zB,zC)] zB zC rfl (sbB _ _ hst)) (nN hd)
   rw [←hsum,g4,this];simp
end
end Mine
namespace Mine
theorem str_nocall:typeLookup (.type "str") "__call__" = pure none:=by rw [typeLookup_type,builtinLookup_eq_fast];kernel_rfl
section
theorem named_sub (a b:Value):Builtin.Re.reNamed "re.Pattern.sub" "sub" ["repl","string","count"] 2 [a,b] []=pure [some a,some b,none]:=by rfl
theorem meets_sub {p:Addr}{x:Str}{t:Tok}{r:Str}{u:Tok}(hr:r.cps.contains 92=false):MeetsIn prog w (Builtin.«re.Pattern.sub» ⟨[.ref p,.str r u,.str x t],[]⟩)
  (fun A R s=>∃code,PatAt s.heap p code∧codeAny (model prog w) A (.builtin "re.Pattern.sub.loop" (subArgs p x t r u 0 0 false s.heap.objs.size)) R {s with heap:=s.heap.push { cls:=.type "list",data:=.seq #[] }}):=by
 intro A R s ⟨code,P,hc⟩
 unfold Builtin.«re.Pattern.sub» Builtin.Re.reSubstitute
 dsimp only
 rw [named_sub]
 refine wpAny_bind (wpAny_pure ?_)
 dsimp only
 refine wpAny_bind (wpAny_pure ?_)
 refine wpAny_bind (wpAny_specialOf (name:=Str.ofString "__call__") (typeIs_str _ _ _) str_nocall ?_)
 simp only [Option.isSome_none,Bool.false_eq_true,↓reduceIte]
 show wpAny _ _ (pure (some r) >>= _) _ _ _
 refine wpAny_bind (wpAny_pure ?_)
 simp only [hr,Bool.not_false,↓reduceIte]
 show wpAny _ _ (Builtin.Re.reWholeTarget (.ref p) (.str x t) >>= _) _ _ _
 refine wpAny_bind (wp_whole P ?_)
 show wpAny _ _ (newList [] >>= _) _ _ _
 refine wpAny_bind (wpAny_newList (wpAny_pure ⟨plainId_quiet plain_subloop _,hc⟩) (by simp))
theorem sub_call {O:Org}{K:Heap}{L:Addr}{m:Str→Option Value}{led:List (Addr×Obj)}{h:Heap}{tk:Nat}{p:Addr}{x:Str}{t:Tok}{r:Str}{u:Tok}{code:Array Nat}{G:Nat→List Nat}{Q:Value→Shared→Prop}
  (P:PatAt K p code)(Sp:SubSpec code x r G)(hx:x.cps.size≤2 ^ 20)(hG:(G 0).length≤2 ^ 23)(hr:r.cps.contains 92=false)(S:St O K L m led h)
  (c:∀v h' tk',St O K L m led h'→rStr.r K v ⟨(G 0).toArray⟩→Q v (sh s h' tk')):wpAny (model prog w) A (call (.builtin "re.Pattern.sub") [.ref p,.str r u,.str x t]) Q E (sh s h tk):=by
 have PS:=P.sub S.stays
 have hT:(sh s h tk).TypeIs (.ref p) "re.Pattern":=by
  obtain⟨o,fs,T,oT,items,n,h1,h2,_⟩:=PS.ex
  exact⟨o,h1,h2⟩
 refine call_meetsIn slot_re_sub hT entry_re_sub (args_re_sub_3 _ _ _) (meets_sub hr) ⟨code,PS,?_⟩
 refine sub_loop P Sp hx hG (L:=L) (O:=O) (m:=m) (led:=led) (x.cps.size - 0) 0 0 false [] [] 0 (h.push (lo #[] 0)) tk rfl (Nat.zero_le _) (Nat.zero_le _) .nil rfl (S.push (lo #[] 0)) fun v h' tk' S' hv=>c v h' tk' S' hv
end
noncomputable def crl:Bool→List Nat→List Nat
 | _,[]=>[]
 | b,c::r=>if c=13 then 13::10::crl true r else if c=10 then (if b=true then crl false r else 13::10::crl false r) else c::crl false r
noncomputable def dst:Bool→List Nat→List Nat
 | _,[]=>[]
 | b,c::r=>if b=true∧c=46 then 46::46::dst false r else c::dst (c == 10) r
theorem getD_drop {text:Array Nat}{st:Nat}(h:st<text.size):text.toList.drop st=text.getD st 0::text.toList.drop (st+1):=by
 rw [drop_eq_getElem_cons (by simpa using h)]
 simp [Array.getD,h]
theorem ext_succ {text:Array Nat}{st a:Nat}(h:st<a)(ha:a≤text.size):(text.extract st a).toList=text.getD st 0::(text.extract (st+1) a).toList:=by
 rw [Array.toList_extract,Array.toList_extract,extract_eq_take_drop,extract_eq_take_drop,getD_drop (nT h ha)]
 have:a - st=(a - (st+1))+1:=nA (lp [_,_,_,_] [(zA,.add zB (su zC)),(.add zD zC,zA)] zD (su zB) rfl (sbA _ _) (sbB _ _ (lp [_,_] [(su zA,zB)] zA zB rfl h))) (lp [_,_,_,_] [(zA,.add zB zC),(.add zD (su zC),zA)] (su zD) zB rfl (sbA _ _) (sbB _ _ h))
 rw [this,take_succ_cons]
theorem crl_skip {text:Array Nat}:∀(k st a:Nat),k=a - st→st≤a→a≤text.size→(∀b,st≤b→b<a→¬brk2 text text.size b)→crl false (text.toList.drop st)=(text.extract st a).toList++crl false (text.toList.drop a)
 | 0,st,a,hk,h,_,_=>by
  have:st=a:=nA (lp [_,_,_] [(.add zA zB,zC)] zB zC rfl (sbB _ _ h)) (lp [_,_,_] [(zA,.num 0),(zB,.add zA zC)] zB zC rfl (eqR hk) (sbA _ _))
  subst this;simp
 | k+1,st,a,hk,h,ha,hno=>by
  have hst:st<a:=lp [_,_,_,_] [(su zA,zB),(.add zB zC,zD)] (su zC) zD rfl (eqL hk) (sbB _ _ h)
  have n:=hno st (Nat.le_refl _) hst
  unfold brk2 at n
  rw [ext_succ hst ha,getD_drop (nT hst ha),cons_append,←crl_skip k (st+1) a (nA (lp [_,_,_,_,_] [(su zA,zB),(zC,.add zD (su zE)),(.add zB zE,zC)] zA zD rfl (eqL hk) (sbA _ _) (sbB _ _ (lp [_,_,_] [(.add zA (su zB),zC)] zB zC rfl (sbB _ _ hst)))) (lp [_,_,_,_,_] [(zA,su zB),(zC,.add zA zD),(.add zE (su zD),zC)] zE zB rfl (eqR hk) (sbA _ _) (sbB _ _ hst))) (hst) ha fun b hb=>hno b (lp [_,_] [(su zA,zB)] zA zB rfl hb)]
  rw [crl,if_neg (by lia),if_neg (by lia)]
theorem crl_true:∀r:List Nat,(∀r',r≠10::r')→crl true r=crl false r
 | [],_=>rfl
 | c::r,h=>by
  unfold crl
  by_cases h13:c=13
  ·rw [if_pos h13,if_pos h13]
  ·have:c≠10:=fun e=>h r (by rw [e])
   rw [if_neg h13,if_neg h13,if_neg this,if_neg this]
theorem crl_spec (x:Str):SubSpec c2 x "\r\n" (fun st=>crl false (x.cps.toList.drop st)) where
 ex:=by
  refine⟨fun st a e=>st≤a∧e=end2 x.cps x.cps.size a∧brk2 x.cps x.cps.size a∧∀b,st≤b→b<a→¬brk2 x.cps x.cps.size b,fun st=>st≤x.cps.size∧∀b,st≤b→¬brk2 x.cps x.cps.size b,
   fun st must hst=>⟨20,lp [] [] (.num 20) (.num 73786976294838206464) rfl,?_⟩,fun st a e ⟨h1,h2,h3,h4⟩=>?_,fun st ⟨h0,h1⟩=>?_⟩
  ·obtain⟨k,h1,h2,h3⟩:=search_c2 x.cps st must hst
   refine⟨k,h1,h2,?_⟩
   rcases h3 with h|⟨h,h'⟩
   ·exact .inl h
   ·exact .inr ⟨⟨hst,h⟩,h'⟩
  ·have ha:=h3.1
   have main:a<e∧e≤x.cps.size∧crl false (x.cps.toList.drop a)=[13,10]++crl false (x.cps.toList.drop e):=by
    rw [getD_drop ha,crl]
    by_cases hc:x.cps.getD a 0=13
    ·rw [if_pos hc]
     by_cases h10:a+1<x.cps.size∧x.cps.getD (a+1) 0=10
     ·have:e=a+2:=by rw [h2];unfold end2;rw [if_pos ⟨hc,h10⟩]
      subst this
      refine⟨lp [_] [] (su zA) (.add zA (.num 2)) rfl,lp [_,_] [(.add (su zA) (.num 1),zB)] (.add zA (.num 2)) zB rfl h10.1,?_⟩
      rw [getD_drop h10.1,h10.2,crl,if_neg (Nat.ne_of_lt (lp [] [] (.add (.num 10) (.num 1)) (.num 13) rfl)),if_pos rfl,if_pos rfl];rfl
     ·have:e=a+1:=by rw [h2];unfold end2;rw [if_neg fun q=>h10 q.2]
      subst this
      refine⟨lp [_] [] (su zA) (su zA) rfl,ha,?_⟩
      rw [crl_true]
      ·rfl
      ·intro r' hr'
       by_cases hl:a+1<x.cps.size
       ·rw [getD_drop hl] at hr'
        injection hr' with h5 _
        exact h10 ⟨hl,h5⟩
       ·rw [drop_eq_nil_of_le (by simpa using hl)] at hr';cases hr'
    ·have h10:x.cps.getD a 0=10:=h3.2.resolve_right hc
     have:e=a+1:=by rw [h2];unfold end2;rw [if_neg fun q=>hc q.1]
     subst this
     refine⟨lp [_] [] (su zA) (su zA) rfl,ha,?_⟩
     rw [if_neg hc,if_pos h10,if_neg (by simp)];rfl
   refine⟨h1,main.1,main.2.1,?_⟩
   show crl _ _=_++crl _ _
   rw [crl_skip (a - st) st a rfl h1 (lp [_,_,_] [(su zA,zB),(zB,zC)] zA zC rfl main.1 main.2.1) h4,append_assoc,main.2.2]
   rfl
  ·show crl _ _=_
   rw [crl_skip (x.cps.size - st) st x.cps.size rfl h0 (Nat.le_refl _) fun b hb _=>h1 b hb]
   rw [drop_eq_nil_of_le (by simp)];simp [crl]
abbrev frontAt (text:Array Nat)(st:Nat):Bool:=st == 0||text.getD (st - 1) 0 == 10
theorem dst_skip {text:Array Nat}:∀(k st a:Nat),k=a - st→st≤a→a≤text.size→(∀b,st≤b→b<a→¬dotAt text text.size b)→dst (frontAt text st) (text.toList.drop st)=(text.extract st a).toList++dst (frontAt text a) (text.toList.drop a)
 | 0,st,a,hk,h,_,_=>by
  have:st=a:=nA (lp [_,_,_] [(.add zA zB,zC)] zB zC rfl (sbB _ _ h)) (lp [_,_,_] [(zA,.num 0),(zB,.add zA zC)] zB zC rfl (eqR hk) (sbA _ _))
  subst this;simp
 | k+1,st,a,hk,h,ha,hno=>by
  have hst:st<a:=lp [_,_,_,_] [(su zA,zB),(.add zB zC,zD)] (su zC) zD rfl (eqL hk) (sbB _ _ h)
  have n:=hno st (Nat.le_refl _) hst
  unfold dotAt at n
  rw [ext_succ hst ha,getD_drop (nT hst ha),cons_append,←dst_skip k (st+1) a (nA (lp [_,_,_,_,_] [(su zA,zB),(zC,.add zD (su zE)),(.add zB zE,zC)] zA zD rfl (eqL hk) (sbA _ _) (sbB _ _ (lp [_,_,_] [(.add zA (su zB),zC)] zB zC rfl (sbB _ _ hst)))) (lp [_,_,_,_,_] [(zA,su zB),(zC,.add zA zD),(.add zE (su zD),zC)] zE zB rfl (eqR hk) (sbA _ _) (sbB _ _ hst))) (hst) ha fun b hb=>hno b (lp [_,_] [(su zA,zB)] zA zB rfl hb)]
  rw [dst,if_neg (by simp only [frontAt,Bool.or_eq_true,beq_iff_eq];rintro ⟨q1,q2⟩;exact n ⟨nT hst ha,q1,q2⟩)]
  congr 2
theorem dst_spec (x:Str)(hx:x.cps.size≤2 ^ 20):SubSpec c1 x ".." (fun st=>dst (frontAt x.cps st) (x.cps.toList.drop st)) where
 ex:=by
  refine⟨fun st a e=>st≤a∧e=a+1∧dotAt x.cps x.cps.size a∧∀b,st≤b→b<a→¬dotAt x.cps x.cps.size b,fun st=>st≤x.cps.size∧∀b,st≤b→¬dotAt x.cps x.cps.size b,
   fun st must hst=>⟨5*(x.cps.size+2),?_,?_⟩,fun st a e ⟨h1,h2,h3,h4⟩=>?_,fun st ⟨h0,h1⟩=>?_⟩
  ·exact lq [_] [(5,zA,.num 1048576)] 1 (.mulL 5 (.add zA (.num 2))) (.num 73786976294838206464) rfl hx
  ·obtain⟨k,h1,h2,h3⟩:=search_c1 x.cps st must hst
   refine⟨k,h1,h2,?_⟩
   rcases h3 with h|⟨h,h'⟩
   ·exact .inl h
   ·exact .inr ⟨⟨hst,h⟩,h'⟩
  ·have ha:=h3.1
   refine⟨h1,eqR h2,nT (eqL h2) ha,?_⟩
   show dst _ _=_++dst _ _
   rw [dst_skip (a - st) st a rfl h1 (lp [_,_] [(su zA,zB)] zA zB rfl ha) h4,append_assoc]
   congr 1
   show _=[46,46]++_
   rw [getD_drop ha,dst,if_pos ⟨by simp only [frontAt,Bool.or_eq_true,beq_iff_eq];exact h3.2.1,h3.2.2⟩]
   subst h2
   have:frontAt x.cps (a+1)=false:=by simp [frontAt,h3.2.2]
   rw [this];rfl
  ·show dst _ _=_
   rw [dst_skip (x.cps.size - st) st x.cps.size rfl h0 (Nat.le_refl _) fun b hb _=>h1 b hb]
   rw [drop_eq_nil_of_le (by simp)];simp [dst]
noncomputable def quoted (x:List Nat):List Nat:=dst true (crl false x)
theorem crl_length:∀(x:List Nat)(b:Bool),(crl b x).length≤2*x.length
 | [],_=>by simp [crl]
 | c::r,b=>by
  have h1:=crl_length r true
  have h2:=crl_length r false
  unfold crl
  split
  ·simp;exact lp [_,_] [(zA,.mulL 2 zB)] (.add (su zA) (.num 1)) (.mulL 2 (su zB)) rfl h1
  ·split
   ·split <;> simp <;> (first|exact lp [_,_] [(zA,.mulL 2 zB)] zA (.mulL 2 (su zB)) rfl h2|exact lp [_,_] [(zA,.mulL 2 zB)] (.add (su zA) (.num 1)) (.mulL 2 (su zB)) rfl h2)
   ·simp;exact lp [_,_] [(zA,.mulL 2 zB)] (su zA) (.mulL 2 (su zB)) rfl h2
theorem dst_length:∀(x:List Nat)(b:Bool),(dst b x).length≤2*x.length
 | [],_=>by simp [dst]
 | c::r,b=>by
  unfold dst
  split
  ·have:=dst_length r false;simp;exact lp [_,_] [(zA,.mulL 2 zB)] (.add (su zA) (.num 1)) (.mulL 2 (su zB)) rfl this
  ·have:=dst_length r (c == 10);simp;exact lp [_,_] [(zA,.mulL 2 zB)] (su zA) (.mulL 2 (su zB)) rfl this
structure Pats (base:Heap):Prop where
 p1:PatAt base 36 c1
 p2:PatAt base 41 c2
section
theorem pat_type {h:Heap} {p code}(P:PatAt h p code) {g d t o}:(⟨h,g,d,t,o⟩:Shared).TypeIs (.ref p) "re.Pattern":=by
 obtain⟨o,fs,T,oT,items,n,h1,h2,_⟩:=P.ex
 exact⟨o,h1,h2⟩
theorem pat_dict {h:Heap} {p code}(P:PatAt h p code):∀a,Value.ref p = .ref a→∃ob,h.get? a=some ob∧ob.dict=none:=by
 obtain⟨o,fs,T,oT,items,n,h1,h2,h3,_⟩:=P.ex
 intro a ha;cases ha;exact⟨o,h1,h3⟩
theorem quote_call {k:Nat}{v:Value}{x:Str}{Q:Value→Shared→Prop}(B:Mod base)(PP:Pats base)(hb:Sub base K)(hs:Sub K h)(hA:OkA A (k+1))(r:rStr.r K v x)(hx:x.cps.size≤2 ^ 18)
  (c:∀K' h' tk' v,Grow K h K' h'→rStr.r K' v ⟨(quoted x.cps.toList).toArray⟩→Q v (sh s h' tk')):wpAny (model prog w) A (call (.ref 48) [v]) Q E (sh s h tk):=by
 refine call_fn (k:=k) ["data"] [] [] hA ((B.fns (48,5) (by decide)).sub (hb.trans hs)) (B.nolimit.keeps (hb.trans hs)) hs (fun _ _ _ _ _=>rfl) rfl (by decide) (by simp) (by decide) (by decide) (by decide) (fun A' h₀ tk₀ q L cd hA' S=>?_)
 replace S:St ⟨h,K⟩ K (en q (scopeOf (stA 5)) L 48 cd []).locals (loc ["data"] [some v]) [] h₀:=S
 obtain⟨t,rfl⟩:=r
 have l1:=crl_length x.cps.toList false
 have l2:=dst_length (crl false x.cps.toList) true
 have l3:x.cps.toList.length=x.cps.size:=by simp
 refine wpAny_execs_cons (wpAny_Return_some (wpAny_Call_method rfl rfl rfl plainAttrs_re slot_re_sub type_re_sub (gl_ref (a:=36) B (hb.trans S.stays) ⟨pat_type ((PP.p1.sub hb).sub S.stays),pat_dict ((PP.p1.sub hb).sub S.stays),?_⟩)))
 refine Calls.callWith_builtin rfl (Calls.evalArgs_plain (Calls.spliced_cons (wpAny_Constant_str (pos:=default) (k:=0) (Calls.spliced_cons ?_))))
 refine wpAny_Call_method rfl rfl rfl plainAttrs_re slot_re_sub type_re_sub (gl_ref (a:=41) B (hb.trans S.stays) ⟨pat_type ((PP.p2.sub hb).sub S.stays),pat_dict ((PP.p2.sub hb).sub S.stays),?_⟩)
 refine Calls.callWith_builtin rfl (Calls.evalArgs_plain (Calls.spliced_cons (gl_crlf B (hb.trans S.stays) fun t2=>(Calls.spliced_cons (ld S 0 (by decide) ?_)))))
 refine Calls.spliced_nil ?_
 refine sub_call (PP.p2.sub hb) (crl_spec x) (lp [_] [(zA,.num 262144)] zA (.num 1048576) rfl hx) (by show (crl false (x.cps.toList.drop 0)).length≤_;rw [drop_zero];exact lq [_,_,_] [(2,zA,.num 262144),(1,zB,.mulL 2 zC),(2,zC,zA)] 1 zB (.num 8388608) rfl hx l1 (eqL l3)) (by decide +kernel) S fun v2 h2 tk2 S2 hv2=>?_
 obtain⟨t3,rfl⟩:=hv2
 refine Calls.spliced_nil ?_
 refine sub_call (PP.p1.sub hb) (dst_spec _ ?_) ?_ ?_ (by decide +kernel) S2 fun v3 h3 tk3 S3 hv3=>?_
 ·show (crl false (x.cps.toList.drop 0)).toArray.size≤_
  rw [drop_zero,size_toArray];exact lq [_,_,_] [(2,zA,.num 262144),(1,zB,.mulL 2 zC),(2,zC,zA)] 1 zB (.num 1048576) rfl hx l1 (eqL l3)
 ·show (crl false (x.cps.toList.drop 0)).toArray.size≤_
  rw [drop_zero,size_toArray];exact lq [_,_,_] [(2,zA,.num 262144),(1,zB,.mulL 2 zC),(2,zC,zA)] 1 zB (.num 1048576) rfl hx l1 (eqL l3)
 ·show (dst true ((crl false (x.cps.toList.drop 0)).drop 0)).length≤_
  rw [drop_zero,drop_zero];exact lq [_,_,_,_] [(4,zA,.num 262144),(2,zB,.mulL 2 zC),(1,zD,.mulL 2 zB),(4,zC,zA)] 1 zD (.num 8388608) rfl hx l1 l2 (eqL l3)
 ·refine c K _ _ _ S3.toGrow ?_
  obtain⟨t4,rfl⟩:=hv3
  exact⟨t4,by congr 1⟩
end
end Mine
end
namespace Mine
abbrev S (x:Str)(t:Tok):Value:=.str x t
abbrev I (i:Int)(t:Tok):Value:=.int i t
abbrev Rf (a:Addr):Value:=.ref a
abbrev C (t:Tok):Value:=.str "/claim/cut.py" t
noncomputable def fO (n q:Str)(d:Stmt)(m:Value)(c:Addr):Obj:={ cls:=.type "function",data:=.func { name:=n,qualname:=q,params:=argsOf d,body:=.stmts (bodyOf d),scope:=scopeOf d,globals:=3,closure:=[],defaults:=.none,kwdefaults:=.none,pyModule:=m,code:=.ref c } }
noncomputable def cO (l:List Value):Obj:={ cls:=.type "code",data:=.fields l.toArray }
noncomputable def tO (l:List Value):Obj:={ cls:=.type "tuple",data:=.seq l.toArray }
noncomputable def dO (P:Params)(l:List (String×Tok×Value))(n:Nat):Obj:={ cls:=.type "dict",data:=.dict (l.map fun e=>(⟨PyData.keyHash P (Str.ofString e.1),.str (Str.ofString e.1) e.2.1,e.2.2⟩:DictEntry)).toArray n }
noncomputable def KF (P:Params):Frag:=[
(3,dO P [("__name__",165,S "law_wz0005_01" 635),("__doc__",166,.none),("__package__",167,.none),("__loader__",168,.builtin "__main__.__loader__#opaque"),("__spec__",169,.none),("__annotations__",170,Rf 6),("__builtins__",171,Rf 4),("__file__",173,S "/claim/cut.py" 172),("__cached__",174,.none),("_sre",275,Rf 12),("_twin_re_1",299,Rf 36),("_twin_re_2",341,Rf 41),("CRLF",343,S "\x0d\n" 342), ("quotedata", 350, Rf 48), ("TupleComp", 394, Rf 72), ("add_callers", 405, Rf 83), ("count_calls", 414, Rf 90), ("ENDMARKER", 418, I 0 417), ("LPAR", 420, I 7 419), ("RPAR", 422, I 8 421), ("LSQB", 424, I 9 423), ("RSQB", 426, I 10 425), ("COLON", 428, I 11 427), ("COMMA", 430, I 12 429), ("SEMI", 432, I 13 431), ("PLUS", 434, I 14 433), ("MINUS", 436, I 15 435), ("STAR", 438, I 16 437), ("SLASH", 440, I 17 439), ("VBAR", 442, I 18 441), ("AMPER", 444, I 19 443), ("LESS", 446, I 20 445), ("GREATER", 448, I 21 447), ("EQUAL", 450, I 22 449), ("DOT", 452, I 23 451), ("PERCENT", 454, I 24 453), ("LBRACE", 456, I 25 455), ("RBRACE", 458, I 26 457), ("EQEQUAL", 460, I 27 459), ("NOTEQUAL", 462, I 28 461), ("LESSEQUAL", 464, I 29 463), ("GREATEREQUAL", 466, I 30 465), ("TILDE", 468, I 31 467), ("CIRCUMFLEX", 470, I 32 469), ("LEFTSHIFT", 472, I 33 471), ("RIGHTSHIFT", 474, I 34 473), ("DOUBLESTAR", 476, I 35 475), ("PLUSEQUAL", 478, I 36 477), ("MINEQUAL", 480, I 37 479), ("STAREQUAL", 482, I 38 481), ("SLASHEQUAL", 484, I 39 483), ("PERCENTEQUAL", 486, I 40 485), ("AMPEREQUAL", 488, I 41 487), ("VBAREQUAL", 490, I 42 489), ("CIRCUMFLEXEQUAL", 492, I 43 491), ("LEFTSHIFTEQUAL", 494, I 44 493), ("RIGHTSHIFTEQUAL", 496, I 45 495), ("DOUBLESTAREQUAL", 498, I 46 497), ("DOUBLESLASH", 500, I 47 499), ("DOUBLESLASHEQUAL", 502, I 48 501), ("AT", 504, I 49 503), ("ATEQUAL", 506, I 50 505), ("RARROW", 508, I 51 507), ("ELLIPSIS", 510, I 52 509), ("COLONEQUAL", 512, I 53 511), ("EXCLAMATION", 514, I 54 513), ("NT_OFFSET", 516, I 256 515), ("EXACT_TOKEN_TYPES", 613, Rf 91), ("ISTERMINAL", 620, Rf 100), ("ISNONTERMINAL", 627, Rf 107), ("ISEOF", 634, Rf 114), ("_law_tape", 642, Rf 119), ("_law_rules", 651, Rf 126), ("_law_texts", 667, Rf 133), ("_law_many", 678, Rf 140), ("_law_states", 684, Rf 145), ("_law_first", 690, Rf 150), ("law",696,Rf 155)] 78),
(35,tO [I 14 0,I 4 0,I 0 0,I 1 0,I 1 0,I 6 0,I 1 0,I 16 0,I 46 0,I 1 0]),
(36,{ cls:=.type "re.Pattern",data:=.fields #[S "(?m)^\\." 285,I 40 298,I 0 0,.none,.none,Rf 35,I 0 0] }),
(40,tO [I 14 0,I 9 0,I 4 0,I 1 0,I 2 0,I 16 0,I 10 0,I 16 0,I 13 0,I 0 0,I 7 0,I 7 0,I 16 0,I 13 0,I 16 0,I 10 0,I 15 0,I 18 0,I 5 0,I 16 0,I 10 0,I 15 0,I 13 0,I 11 0,I 16 0,I 13 0,I 5 0,I 5 0,I 0 0,I 16 0,I 10 0,I 1 0,I 15 0,I 2 0,I 0 0,I 1 0]),
(41,{ cls:=.type "re.Pattern",data:=.fields #[S "(?:\\r\\n|\\n|\\r(?!\\n))" 301,I 32 340,I 0 0,.none,.none,Rf 40,I 0 0] }),
(47,cO [S "quotedata" 344,S "quotedata" 345,C 346,I 6 0,I 1 0,I 0 0,I 0 0,I 3 0,Rf 42,.bool true,I 276 0,Rf 43,.none,Rf 44,Rf 45,Rf 46,I 348 0,I 6 0,C 349]),
(48,fO "quotedata" "quotedata" (stA 5) (S "cpy313.smtplib" 282) 47),
(61,cO [S "__init__" 365,S "TupleComp.__init__" 366,C 367,I 11 0,I 2 0,I 0 0,I 0 0,I 3 0,Rf 56,.bool true,I 276 0,Rf 57,.none,Rf 58,Rf 59,Rf 60,I 370 0,I 11 0,C 371]),
(62,fO "__init__" "TupleComp.__init__" (cbody 0) (S "cpy313.pstats" 351) 61),
(68,cO [S "compare" 373,S "TupleComp.compare" 374,C 375,I 14 0,I 3 0,I 0 0,I 0 0,I 3 0,Rf 63,.bool true,I 276 0,Rf 64,.none,Rf 65,Rf 66,Rf 67,I 383 0,I 14 0,C 384]),
(69,fO "compare" "TupleComp.compare" (cbody 1) (S "cpy313.pstats" 351) 68),
(70,tO [S "comp_select_list" 386]),
(71,dO P [("__module__",360,S "cpy313.pstats" 351),("__firstlineno__",364,I 9 363),("__init__",372,Rf 62),("compare",385,Rf 69),("__static_attributes__",387,Rf 70),("__dict__",389,Rf 73),("__weakref__",391,Rf 74),("__doc__",392,.none)] 4),
(72,{ cls:=.type "type",data:=.cls { name:=Str.ofString "TupleComp",bases:=[.type "object"],mro:=[Rf 72,.type "object"],ns:=71,qualname:=Str.ofString "TupleComp" },slots:=#[none,none,some (S "TupleComp" 353),some (S "TupleComp" 361),some (.builtin "object.__new__"),some (.bool true)] }),
(73,{ cls:=.type "getset_descriptor",data:=.fields #[S "__dict__" 388,Rf 72,.builtin "function.__dict__",.builtin "function.__dict__#set"] }),
(74,{ cls:=.type "getset_descriptor",data:=.fields #[S "__weakref__" 390,Rf 72,.builtin "ExceptionGroup.__weakref__",.none] }),
(82,cO [S "add_callers" 395,S "add_callers" 396,C 397,I 23 0,I 2 0,I 0 0,I 0 0,I 3 0,Rf 77,.bool true,I 276 0,Rf 78,.none,Rf 79,Rf 80,Rf 81,I 403 0,I 23 0,C 404]),
(83,fO "add_callers" "add_callers" (stA 8) (S "cpy313.pstats" 351) 82),
(89,cO [S "count_calls" 406,S "count_calls" 407,C 408,I 36 0,I 1 0,I 0 0,I 0 0,I 3 0,Rf 84,.bool true,I 276 0,Rf 85,.none,Rf 86,Rf 87,Rf 88,I 412 0,I 36 0,C 413]),
(90,fO "count_calls" "count_calls" (stA 9) (S "cpy313.pstats" 351) 89),
(91,dO P [("!",517,I 54 513),("!=",519,I 28 461),("%",521,I 24 453),("%=",523,I 40 485),("&",525,I 19 443),("&=",527,I 41 487),("(",529,I 7 419),(")",531,I 8 421),("*",533,I 16 437),("**",535,I 35 475),("**=",537,I 46 497),("*=",539,I 38 481),("+",541,I 14 433),("+=",543,I 36 477),(",",545,I 12 429),("-",547,I 15 435),("-=",549,I 37 479),("->",551,I 51 507),(".",553,I 23 451),("...",555,I 52 509),("/",557,I 17 439),("//",559,I 47 499),("//=",561,I 48 501),("/=",563,I 39 483),(":",565,I 11 427),(":=",567,I 53 511),(";",569,I 13 431),("<",571,I 20 445),("<<",573,I 33 471),("<<=",575,I 44 493),("<=",577,I 29 463),("=",579,I 22 449),("==",581,I 27 459),(">",583,I 21 447),(">=",585,I 30 465),(">>",586,I 34 473),(">>=",587,I 45 495),("@",588,I 49 503),("@=",589,I 50 505),("[",590,I 9 423),("]",591,I 10 425),("^",592,I 32 469),("^=",593,I 43 491),("{",594,I 25 455),("|",595,I 18 441),("|=",596,I 42 489),("}",597,I 26 457),("~",598,I 31 467)] 48),
(99,cO [S "ISTERMINAL" 614,S "ISTERMINAL" 615,C 616,I 93 0,I 1 0,I 0 0,I 0 0,I 3 0,Rf 94,.bool true,I 276 0,Rf 95,.none,Rf 96,Rf 97,Rf 98,I 618 0,I 93 0,C 619]),
(100,fO "ISTERMINAL" "ISTERMINAL" (stA 62) (S "cpy313.token" 415) 99),
(106,cO [S "ISNONTERMINAL" 621,S "ISNONTERMINAL" 622,C 623,I 95 0,I 1 0,I 0 0,I 0 0,I 3 0,Rf 101,.bool true,I 276 0,Rf 102,.none,Rf 103,Rf 104,Rf 105,I 625 0,I 95 0,C 626]),
(107,fO "ISNONTERMINAL" "ISNONTERMINAL" (stA 63) (S "cpy313.token" 415) 106),
(113,cO [S "ISEOF" 628,S "ISEOF" 629,C 630,I 97 0,I 1 0,I 0 0,I 0 0,I 3 0,Rf 108,.bool true,I 276 0,Rf 109,.none,Rf 110,Rf 111,Rf 112,I 632 0,I 97 0,C 633]),
(114,fO "ISEOF" "ISEOF" (stA 64) (S "cpy313.token" 415) 113),
(118,cO [S "_law_tape" 637,S "_law_tape" 638,C 639,I 100 0,I 4 0,I 0 0,I 0 0,I 3 0,Rf 115,.bool true,I 276 0,Rf 116,.none,.none,.none,Rf 117,I 640 0,I 100 0,C 641]),
(119,fO "_law_tape" "_law_tape" (stA 66) (S "law_wz0005_01" 635) 118),
(125,cO [S "_law_rules" 643,S "_law_rules" 644,C 645,I 109 0,I 1 0,I 0 0,I 0 0,I 3 0,Rf 120,.bool true,I 276 0,Rf 121,.none,Rf 122,Rf 123,Rf 124,I 649 0,I 109 0,C 650]),
(126,fO "_law_rules" "_law_rules" (stA 67) (S "law_wz0005_01" 635) 125),
(132,cO [S "_law_texts" 652,S "_law_texts" 653,C 654,I 117 0,I 2 0,I 0 0,I 0 0,I 3 0,Rf 127,.bool true,I 276 0,Rf 128,.none,Rf 129,Rf 130,Rf 131,I 665 0,I 117 0,C 666]),
(133,fO "_law_texts" "_law_texts" (stA 68) (S "law_wz0005_01" 635) 132),
(139,cO [S "_law_many" 668,S "_law_many" 669,C 670,I 130 0,I 1 0,I 0 0,I 0 0,I 3 0,Rf 134,.bool true,I 276 0,Rf 135,.none,Rf 136,Rf 137,Rf 138,I 676 0,I 130 0,C 677]),
(140,fO "_law_many" "_law_many" (stA 69) (S "law_wz0005_01" 635) 139),
(144,cO [S "_law_states" 679,S "_law_states" 680,C 681,I 138 0,I 1 0,I 0 0,I 0 0,I 3 0,Rf 141,.bool true,I 276 0,Rf 142,.none,.none,.none,Rf 143,I 682 0,I 138 0,C 683]),
(145,fO "_law_states" "_law_states" (stA 70) (S "law_wz0005_01" 635) 144),
(149,cO [S "_law_first" 685,S "_law_first" 686,C 687,I 156 0,I 5 0,I 0 0,I 0 0,I 3 0,Rf 146,.bool true,I 276 0,Rf 147,.none,.none,.none,Rf 148,I 688 0,I 156 0,C 689]),
(150,fO "_law_first" "_law_first" (stA 71) (S "law_wz0005_01" 635) 149)]
noncomputable def asL:List Addr:=[3,35,36,40,41,47,48,61,62,68,69,70,71,72,73,74,82,83,89,90,91,99,100,106,107,113,114,118,119,125,126,132,133,139,140,144,145,149,150]
noncomputable abbrev hk:Hook:=kHook KF asL (fun _=>by kernel_rfl)
abbrev pp:Program:=PySem.Challenge.pw_wz0005_01
abbrev qq:Program:=view pp ((List.range 73).filter fun i=>!([1,6,10,65]:List Nat).contains i)
abbrev lo3:List Str:=[Str.ofString "_twin_re_1",Str.ofString "_twin_re_2",Str.ofString "EXACT_TOKEN_TYPES"]
abbrev Xt (s:Shared):Bool:=xlAt qq [] s&&recOk (RowW.records PySem.Challenge.rw_wz0005_01.row.toRowW) s
noncomputable def foT (w:World):Option Shared:=
 (PySem.W.Fast.tw10274390034422433532 PySem.W.Fast.tw14364793385576792824 (opening pp) w 4650 (PySem.W.Fast.tw1435165496053646825 (opening pp)).1 (PySem.W.Fast.tw1435165496053646825 (opening pp)).2).bind (PySem.W.Fast.tw14289696077712309145 pp)
theorem foT_eq (w:World):fencedOpening treeTable pp w 4650=foT w:=by
 unfold fencedOpening foT
 rw [PySem.W.Fast.te10274390034422433532,PySem.W.Fast.te14364793385576792824,PySem.W.Fast.te1435165496053646825,PySem.W.Fast.te14289696077712309145]
noncomputable def tfT (w:World)(s₀:Shared):Option Shared:=
 match s₀.heap.isNs mainGlobals&&s₀.gens.size == 0 with
 | true=>(PySem.W.Fast.tw14082659384304107361 PySem.W.Fast.tw14364793385576792824 pp w s₀.heap.objs.size (s₀.heap.nsMap mainGlobals "__annotations__") 4650 s₀ (topStub pp)).bind fun s₁=>match staticsOk (importedModules pp.main.body) s₀.heap s₁.heap&&namesBound pp s₁.heap&&gensDone s₁&&laidKept s₀.heap s₁.heap with
   | true=>some s₁
   | false=>none
 | false=>none
theorem tfT_eq (w:World)(s₀:Shared):topFrom treeTable pp w 4650 s₀=tfT w s₀:=by
 unfold topFrom tfT
 rw [PySem.W.Fast.te14082659384304107361,PySem.W.Fast.te14364793385576792824]
 rfl
noncomputable def oeT (w:World):Option Shared:=(foT w).bind (tfT w)
theorem oeT_eq (w:World):openEnds treeTable pp w 4650=oeT w:=by
 unfold openEnds oeT
 rw [foT_eq,funext (tfT_eq w)]
abbrev rowS:String:="special-get-raises"
noncomputable abbrev seeT (s:Shared):=PySem.W.Fast.tw4187177175401517315 qq lo3 (importedModules pp.main.body) Xt true s
theorem see1_f (w:World):(oeT (w.withFollow rowS false)).map (fun s=>(((seeT s).1,(seeT s).2.1),Hook.obs hk s))=some (((openGood qq lo3).1,bltViewBooted),Hook.val hk (w.withFollow rowS false)):=by kernel_rfl
theorem see1_t (w:World):(oeT (w.withFollow rowS true)).map (fun s=>(((seeT s).1,(seeT s).2.1),Hook.obs hk s))=some (((openGood qq lo3).1,bltViewBooted),Hook.val hk (w.withFollow rowS true)):=by kernel_rfl
theorem see2_f (w:World):(oeT (w.withFollow rowS false)).map (fun s=>(seeT s).2.2.1)=some true:=by kernel_rfl
theorem see2_t (w:World):(oeT (w.withFollow rowS true)).map (fun s=>(seeT s).2.2.1)=some true:=by kernel_rfl
theorem see3_f (w:World):(oeT (w.withFollow rowS false)).map (fun s=>(seeT s).2.2.2)=some (openGood qq lo3).2.2.2:=by
 show _=some (true,pinGoodD (drecsOf qq),plainGoodE qq (looseW qq lo3),plainGoodD qq lo3,wideGood qq,clsGoodW qq lo3)
 kernel_rfl
theorem see3_t (w:World):(oeT (w.withFollow rowS true)).map (fun s=>(seeT s).2.2.2)=some (openGood qq lo3).2.2.2:=by
 show _=some (true,pinGoodD (drecsOf qq),plainGoodE qq (looseW qq lo3),plainGoodD qq lo3,wideGood qq,clsGoodW qq lo3)
 kernel_rfl
theorem see_all {w:World}(h1:(oeT w).map (fun s=>(((seeT s).1,(seeT s).2.1),Hook.obs hk s))=some (((openGood qq lo3).1,bltViewBooted),Hook.val hk w))(h2:(oeT w).map (fun s=>(seeT s).2.2.1)=some true)(h3:(oeT w).map (fun s=>(seeT s).2.2.2)=some (openGood qq lo3).2.2.2) :
  (oeT w).map (fun s=>(seeT s,Hook.obs hk s))=some (openGood qq lo3,Hook.val hk w):=by
 cases ho:oeT w with
 | none=>rw [ho] at h1;cases h1
 | some s=>
  rw [ho] at h1 h2 h3
  simp only [Option.map_some,Option.some.injEq,Prod.mk.injEq] at h1 h2 h3 ⊢
  exact⟨Prod.ext h1.1.1 (Prod.ext h1.1.2 (Prod.ext h2 h3)),h1.2⟩
theorem left:LeftO pp qq lo3 Xt (Hook.obs hk) (Hook.val hk) 4650:=fun w=>by
 rw [oeT_eq,PySem.W.Fast.te4187177175401517315]
 exact byRow2 rowS (P:=fun w=>(oeT w).map (fun s=>(seeT s,Hook.obs hk s))=some (openGood qq lo3,Hook.val hk w)) (fun w=>see_all (see1_f w) (see2_f w) (see3_f w)) (fun w=>see_all (see1_t w) (see2_t w) (see3_t w)) w
end Mine
namespace Mine
noncomputable def posOf:Stmt→Pos
 | .FunctionDef _ _ _ _ _ _ _ _ _ p=>p
 | _=>⟨0,0,0,0⟩
abbrev dL:DefRec:={ name:="law",params:=argsOf (stA 72),body:=bodyOf (stA 72),scope:=scopeOf (stA 72),pos:=posOf (stA 72) }
theorem hd (walk:WalkO qq lo3 (XL qq []) (Hook.says hk) PySem.Challenge.rw_wz0005_01.row.toRowW dL [] (fun f vs=>PySem.call f vs)):PySem.Challenge.rw_wz0005_01.Holds:=
 holds_law (by kernel_rfl) fun said=>
  holds_open (r:=PySem.Challenge.rw_wz0005_01.row) (q:=qq) (loose:=lo3) (Xt:=Xt) (XP:=XL qq []) (Yf:=Hook.obs hk) (Ya:=Hook.val hk) (YP:=Hook.says hk) (N:=4650) (d:=dL) (kwd:=[]) left (Hook.of hk) (Hook.keeps hk)
   (fun s e=>xl_of s (Bool.and_eq_true_iff.mp e).1) XL.keeps (by kernel_rfl) (by kernel_rfl) (by kernel_rfl) (fun s e=>recFacts_of (Bool.and_eq_true_iff.mp e).2) (by kernel_rfl) said (by decide +kernel) ⟨rfl,rfl,rfl,rfl,rfl,by decide +kernel⟩ (by w_witness2) walk
end Mine
section
variable {prog:Program}{w:World}{A:Around}{E:Value→Shared→Prop}{s:Shared}{h:Heap}{K:Heap}{base:Heap}{tk:Nat}{L:Addr}{f:Addr}{m:Str→Option Value}{led:List (Addr×Obj)}{env:Env}{α:Type}{β:Type}{qn:Str}{cd:Value}{O:Org}
namespace Mine
section
theorem call_fnC {k:Nat}{f:Addr}{params:Arguments}{body:List Stmt}{scope:Scope}{vals:List Value}{R:Result→Shared→Prop}(ps rest:List Str)(ov:List (Option Value))
  (hA:OkA A (k+1))(F:FnAt h f params body scope)(hn:h.NoLimit)(hs:Sub K h)
  (hb:∀nm q doc pm cd,bindArgs (fnOf nm q params body scope .none .none doc pm none cd .none) ⟨vals,[]⟩=pure (ps.zip vals))
  (hl:ps.length=vals.length)(hd:ps.Nodup)(hov:∀v∈ov,v=none)(hr:∀y∈ps,y∉rest)
  (hloc:∀x∈ps,scope.names.lookup x=some .local)(hcell:∀x∈scope.names,x.2 ≠ .cell)
  (c:∀A' h₀ tk₀ q L cd,OkA A' k→St ⟨h,K⟩ K L (loc (ps++rest) (vals.map some++ov)) [] h₀→
   wpAny (model prog w) A' (execs body (en q scope L f cd [])) (fun fl s'=>R (.ok (.ret (match fl with | .ret v=>v|_=>.none))) s') (fun _ _=>False) (sh s h₀ tk₀))
  (hco:scope.isCoroutine=false:=by rfl)(hgen:scope.isGenerator=false:=by rfl)(hk:scope.kind = .function:=by rfl) :
  codeAny (model prog w) A (.call (.ref f) ⟨vals,[]⟩) R (sh s h tk):=by
 obtain⟨nm,q,doc,pm,cd,hc,o,ho,hdata⟩:=F
 refine codeAny_call_def (s:=sh s h tk) (binds:=ps.zip vals) hA.room ho hdata hn hc rfl (BindsTo.of_eq (hb ..)) hcell (fun x hx=>hloc x.1 (of_mem_zip hx).1) (fun h₀ hns hk₀=>?_) hco hgen hk
 rw [lookup_zip_loc ps vals rest ov hl hd hov hr] at hns
 have S:St ⟨h,K⟩ K h.objs.size (loc (ps++rest) (vals.map some++ov)) [] h₀:=St.enter hs hns hk₀
 exact wpAny_mono (c _ h₀ _ q h.objs.size cd (OkA.deeper hA) S) (fun fl s' hq=>hq) fun _ _ e=>e.elim
theorem osa_new {R:Result→Shared→Prop}{F0:Frag}{x dx:Addr}{name:Str}{ntk:Tok}{v:Value}(X:F0.In h)(S:St O K L m led h)(i:Nat)(hi:led[i]?=some (dx,emptyDict))(hx:h.get? x=some (instObj 72 dx))
  (hp:plainOver F0 72=true)(ht:takerIn F0 72 name=some none)(hh:hasDictIn F0 72=true)
  (c:∀h' tk',St O K L m (led.set i (dx,Obj.putName name (PyData.keyHash w.params name) (.str name tk) v emptyDict)) h'→R (.ok (.ret .none)) (sh s h' tk'))
  (he:Obj.putName name (PyData.keyHash w.params name) (.str name tk) v emptyDict={ cls:=.type "dict",data:=.dict #[⟨PyData.keyHash w.params name,.str name tk,v⟩] 1 }) :
  codeAny (model prog w) A (.call (.builtin "object.__setattr__") ⟨[.ref x,.str name ntk,v],[]⟩) R (sh s h tk):=by
 have D:=S.at i hi
 have I:InstAt (sh s h tk).heap x (instObj 72 dx) 72 (some emptyDict):=⟨hx,rfl,rfl,D⟩
 refine osa_open (s:=sh s h tk) X I hp ht fun b=>?_
 obtain⟨cd,hc,hd'⟩:=any_some hh
 have S2:=S.update (Obj.putName name (PyData.keyHash w.params name) (.str name tk) v) i hi (by rw [he];rfl)
 refine wpAny_bind (wpAny_pure (wpAny_bind (wpAny_bind (wpAny_loadPart hx (wpAny_bind ((looks_clsIn X hc).here ?_))))))
 rw [hd']
 refine wpAny_pure (a:=some dx) (wpAny_bind (wpAny_pure (wpAny_bind ?_)))
 unfold nsSet
 refine wpAny_bind (wpAny_bind (wpAny_askSetting (wpAny_pure (wpAny_bind (wpAny_mkText (wpAny_bind (wpAny_loadPart D ?_)))))))
 dsimp only
 have cc:(!(#[]:Array DictEntry).any (·.key.isStr name)&&(#[]:Array DictEntry).any (·.refKey))=false:=by simp
 rw [aRefKeyMayBeTheName_at,cc]
 refine wpAny_updatePart D ?_
 have hl:(led.set i (dx,Obj.putName name (PyData.keyHash w.params name) (.str name tk) v emptyDict))[i]?=some (dx,Obj.putName name (PyData.keyHash w.params name) (.str name tk) v emptyDict):=by
  rw [List.getElem?_set_self (List.getElem?_eq_some_iff.mp hi).1]
 refine wpAny_bind (wpAny_lookBehind (S2.at i hl) (by rw [he];exact pastItsLine_dict (es:=[⟨PyData.keyHash w.params name,.str name tk,v⟩].toArray) (by simp [sizeLine])) ?_)
 exact wpAny_pure (c _ _ S2)
theorem judge_make {k:Nat}{v:Value}{sel:List (Int×Int)}{Q:Value→Shared→Prop}(B:Mod base)(C:Cls base)(hb:Sub base K)(hs:Sub K h)(hA:OkA A (k+3))(r:(rTup (rTup2 rInt rInt)).r K v sel)
  (c:∀K' h' tk' j,Grow K h K' h'→rJudge.r K' j sel→Q j (sh s h' tk')):wpAny (model prog w) A (call (.ref 72) [v]) Q E (sh s h tk):=by
 obtain⟨F0,X,hm,hi,hti,hpg,hf,hfn,hkp,hkp2,hdict,hnone,hset,hpo,hta⟩:=C.ex
 have Xh:F0.In h:=fun b o e=>hs _ _ (hb _ _ (X b o e))
 refine wpAny_call ?_
 refine make_core (makes_of Xh hm) (looks_findIn Xh hi) (fun self=>bind_fn Xh self hti) (.inl rfl) ?_
 have hA2:OkA (A.under (.builtin "type.__call__" ⟨[.ref 72,v],[]⟩)) (k+2):=by
  have e1:(Code.builtin "type.__call__" ⟨[.ref 72,v],[]⟩).weight=1:=by kernel_rfl
  have e2:(Code.builtin "type.__call__" ⟨[.ref 72,v],[]⟩).cUnits=1:=by kernel_rfl
  refine⟨hA.handled,?_,?_⟩
  ·show A.depth+(Code.builtin "type.__call__" ⟨[.ref 72,v],[]⟩).weight+(k+2)≤900
   rw [e1];have:=hA.depth;exact lp [_,_] [(.add zA (.add zB (.num 3)),.num 900)] (.add (su zA) (.add zB (.num 2))) (.num 900) rfl this
  ·show A.units+(Code.builtin "type.__call__" ⟨[.ref 72,v],[]⟩).cUnits+10*(k+2)≤9000
   rw [e2];have:=hA.units;exact lp [_,_] [(.add zA (.mulL 10 (.add zB (.num 3))),.num 9000)] (.add (su zA) (.mulL 10 (.add zB (.num 2)))) (.num 9000) rfl this
 generalize hH:(h.push emptyDict).push (instObj 72 h.objs.size)=H
 have hsH:Sub h H:=fun b o e=>hH▸Heap.get?_push_of_some _ (Heap.get?_push_of_some _ e)
 have hdx:H.get? h.objs.size=some emptyDict:=hH▸Heap.get?_push_of_some _ (Heap.get?_push_size _ rfl)
 have hx:H.get? (h.objs.size+1)=some (instObj 72 h.objs.size):=by
  have:=Heap.get?_push_size (h.push emptyDict) (o:=instObj 72 h.objs.size) rfl
  rw [Heap.size_push] at this
  exact hH▸this
 have hHs:H.objs.size=h.objs.size+2:=by rw [←hH,Heap.size_push,Heap.size_push]
 have noK:∀b:Nat,h.objs.size≤b→K.get? b=none:=fun b hb=>by
  cases q:K.get? b with
  | none=>rfl
  | some o=>exact absurd (get_lt (hs _ _ q)) (Nat.not_lt.mpr hb)
 have noH:∀b:Nat,h.objs.size≤b→h.get? b=none:=fun b hb=>by
  cases q:h.get? b with
  | none=>rfl
  | some o=>exact absurd (get_lt q) (Nat.not_lt.mpr hb)
 refine call_fnC (k:=k+1) (K:=K) ["self","comp_select_list"] [] [] hA2 (C.fInit.sub (hb.trans (hs.trans hsH))) (B.nolimit.keeps (hb.trans (hs.trans hsH))) (hs.trans hsH) (fun _ _ _ _ _=>rfl) rfl (by decide) (by simp) (by decide) (by decide) (by decide) (fun A' h₀ tk₀ q L cd hA' S=>?_)
 have hLow:@LE.le Nat _ (h.objs.size+2) L:=hHs▸S.low
 have S1:St ⟨h,K⟩ K (en q (scopeOf (cbody 0)) L 62 cd []).locals (loc ["self","comp_select_list"] [some (.ref (h.objs.size+1)),some v]) [(h.objs.size,emptyDict),(h.objs.size+1,instObj 72 h.objs.size)] h₀:=by
  refine⟨fun b o e=>S.keepB b o (hsH b o e),Sub.refl _,fun _ _ e _=>e,S.stays,S.ns,S.hid,by show @LE.le Nat _ h.objs.size L;exact lp [_,_] [(.add zA (.num 2),zB)] zA zB rfl hLow,fun p hp=>?_,?_⟩
  ·simp only [mem_cons,not_mem_nil,or_false] at hp
   rcases hp with rfl|rfl
   ·exact⟨S.keepB _ _ hdx,neN (by show @Ne Nat h.objs.size L;exact Nat.ne_of_lt (lp [_,_] [(.add zA (.num 2),zB)] (su zA) zB rfl hLow)),noK _ (Nat.le_refl _),noH _ (Nat.le_refl _)⟩
   ·exact⟨S.keepB _ _ hx,neN (by show @Ne Nat (h.objs.size+1) L;exact Nat.ne_of_lt (lp [_,_] [(.add zA (.num 2),zB)] (.add (su zA) (.num 1)) zB rfl hLow)),noK _ (Nat.le_add_right ..),noH _ (Nat.le_add_right ..)⟩
  ·simp
 have X1:F0.In h₀:=fun b o e=>S.stays _ _ (hb _ _ (X b o e))
 refine wpAny_execs_cons (plainObj_wpAny_Assign_Attribute (ld S1 1 (by decide) (ld S1 0 (by decide) ?_)))
 have I:InstAt (sh s h₀ tk₀).heap (h.objs.size+1) (instObj 72 h.objs.size) 72 (some emptyDict):=⟨S1.at 1 rfl,rfl,rfl,S1.at 0 rfl⟩
 refine set_plain (s:=sh s h₀ tk₀) X1 I hset ?_
 refine osa_new (tk:=tk₀+1) X1 S1 0 rfl (S1.at 1 rfl) hpo hta hdict (fun h2 tk2 S2=>?_) rfl
 refine wpAny_execs_nil ⟨rfl,?_⟩
 obtain⟨K',hK',S3,hfr⟩:=S2.freeze [] (nil_sublist _)
 refine c K' h2 tk2 _ S3.toGrow ⟨h.objs.size+1,h.objs.size,v,_,_,rfl,hfr _ _ (S2.at 1 rfl) ?_ (S2.ledg _ (mem_of_getElem? (i:=1) rfl)).2.1 (by simp),hfr _ _ (S2.at 0 rfl) ?_ (S2.ledg _ (mem_of_getElem? (i:=0) rfl)).2.1 (by simp),(rTup (rTup2 rInt rInt)).mono hK' r⟩
 ·show @LE.le Nat _ h.objs.size (h.objs.size+1);exact lp [_] [] zA (su zA) rfl
 ·exact Nat.le_refl _
theorem cw_cls {pos:Pos}{e:Expr}{Q:Value→Shared→Prop}(C:Cls base)(hb:Sub base h)
  (k:wpAny (model prog w) A (eval e env) (fun v s₁=>Sub base s₁.heap∧wpAny (model prog w) A (call (.ref 72) [v]) Q E s₁) E (sh s h tk))(he:starEach [e] env=(false,eval e env)::starEach [] env:=by rfl) :
  wpAny (model prog w) A (callWith pos (.ref 72) [] (backTo pos (starEach [e] env)) []) Q E (sh s h tk):=by
 obtain⟨F0,X,hm,hi,hti,hpg,hf,hfn,hkp,hkp2,hdict,hnone,hset,hpo,hta⟩:=C.ex
 refine callWith_K X hkp2 (args_cons (wpAny_mono k (fun v s₁ h₁=>args_nil ?_) fun _ _ x=>x) he) he
 exact⟨fun b o e=>h₁.1 _ _ (X b o e),h₁.2⟩
theorem call_compare {x:Str}{xp apos pos:Pos}{e1 e2:Expr}{sel:List (Int×Int)}{j:Value}{Q:Value→Shared→Prop}(C:Cls base)(hb:Sub base h)(S:St O K L m led h)(rj:rJudge.r K j sel)
  (ho:∀Q',Q' j (sh s h tk)→wpAny (model prog w) A (eval (.Name x xp) env) Q' E (sh s h tk))
  (k:wpAny (model prog w) A (eval e1 env) (fun v1 s₁=>wpAny (model prog w) A (eval e2 env) (fun v2 s₂=>Sub base s₂.heap∧wpAny (model prog w) A (call (.ref 69) [j,v1,v2]) Q E s₂) E s₁) E (sh s h tk))
  (hbase:attributeBase (.Name x xp) "compare" env (eval (.Name x xp) env)=eval (.Name x xp) env:=by rfl)
  (hfew:((backTo pos (starEach [e1,e2] env)).all (fun x=>!x.1)&&(backToKw pos (keywordEach [] env)).all (fun x=>x.1.isSome)&&decide ([e1,e2].length+([]:List Keyword).length+(if ([]:List Keyword).isEmpty then 0 else 1)<30))=true:=by rfl)
  (hline:(apos.endLine == pos.line)=true:=by rfl)(he:starEach (e1::[e2]) env=(false,eval e1 env)::starEach [e2] env:=by rfl)(he2:starEach (e2::[]) env=(false,eval e2 env)::starEach [] env:=by rfl)(hplain:(backTo pos (starEach [e2] env)).any (·.1)=false:=by rfl) :
  wpAny (model prog w) A (eval (.Call (.Attribute (.Name x xp) "compare" apos) [e1,e2] [] pos) env) Q E (sh s h tk):=by
 obtain⟨F0,X,hm,hi,hti,hpg,hf,hfn,hkp,hkp2,hdict,hnone,hset,hpo,hta⟩:=C.ex
 have X':F0.In h:=fun b o e=>hb _ _ (X b o e)
 obtain⟨xa,dx,cv,hash,ttk,rfl,h2,h3,h4⟩:=rj
 have I:InstAt (sh s h tk).heap xa (instObj 72 dx) 72 (some (selO hash cv ttk)):=⟨S.stays _ _ h2,rfl,rfl,S.stays _ _ h3⟩
 rw [arm_eval_Call,hbase]
 refine wpAny_bind (ho _ (wpAny_bind (wpAny_standAt ?_)))
 have hform:methodCallForm ([e1,e2].length+([]:List Keyword).length) (backTo pos (starEach [e1,e2] env)) (backToKw pos (keywordEach [] env))=true:=hfew
 have hpos:methodCallPos true (.Name x xp) env apos pos=pure pos:=by unfold methodCallPos;simp [hline]
 unfold methodCall
 rw [hform]
 refine wpAny_bind (wpAny_holding (method_fn (s:=sh s h tk) X' I (plainGet_of hpg).1 (plainGet_of hpg).2 hf (beq_iff_eq.mp hfn) rfl ?_))
 refine wpAny_bind (wpAny_of_eq hpos ?_)
 refine callWith_K (f:=.ref 69) (first:=[.ref xa]) X hkp (args_cons (wpAny_mono k (fun v1 s₁ h₁=>args_cons (wpAny_mono h₁ (fun v2 s₂ h₂=>args_nil ?_) fun _ _ x=>x) he2) fun _ _ x=>x) he) he hplain
 exact⟨fun b o e=>h₂.1 _ _ (X b o e),h₂.2⟩
end
end Mine
namespace Mine
noncomputable def pickL {α:Type}(xs:List α)(lo hi st:Option Int):List α:=
 (sliceRange (sliceBounds lo hi st xs.length).1 (sliceBounds lo hi st xs.length).2.1 (sliceBounds lo hi st xs.length).2.2).filterMap (xs[·]?)
theorem pick_all2 {α:Type}{R:Value→α→Prop}{vs:List Value}{xs:List α}(x:All2 R vs xs):∀is:List Nat,All2 R (is.filterMap (vs[·]?)) (is.filterMap (xs[·]?))
 | []=>.nil
 | i::is=>by
  have ih:=pick_all2 x is
  rw [filterMap_cons,filterMap_cons]
  cases hv:vs[i]? with
  | none=>
   have:xs[i]?=none:=by rw [List.getElem?_eq_none_iff] at hv ⊢;rw [←x.length];exact hv
   rw [this];exact ih
  | some v=>
   obtain⟨b,hb,hr⟩:=x.getL hv
   rw [hb];exact .cons hr ih
theorem pick_rel {α:Type}{R:Value→α→Prop}{vs:List Value}{xs:List α}(x:All2 R vs xs)(lo hi st:Option Int):All2 R (slicePick vs.toArray lo hi st).toList (pickL xs lo hi st):=by
 unfold slicePick pickL
 have e:vs.toArray.size=xs.length:=by rw [size_toArray];exact x.length
 rw [e]
 simpa using pick_all2 x _
theorem range_pick {α:Type}(xs:List α)(a:Nat):(List.range (xs.length - a)).filterMap (fun k=>xs[a+k]?)=xs.drop a:=by
 apply ext_getElem?
 intro i
 have h:∀n:Nat,a+n≤xs.length→(List.range n).filterMap (fun k=>xs[a+k]?)=(xs.drop a).take n:=by
  intro n
  induction n with
  | zero=>intro _;simp
  | succ n ih=>
   intro hn
   rw [range_succ,filterMap_append,ih (lp [_,_,_] [(.add zA (su zB),zC)] (.add zA zB) zC rfl hn),take_add_one]
   simp [getElem?_drop,getElem?_eq_getElem (show a+n<xs.length by exact lp [_,_,_] [(.add zA (su zB),zC)] (su (.add zA zB)) zC rfl hn)]
 by_cases ha:a≤xs.length
 ·rw [h (xs.length - a) (lp [_,_,_] [(.add zA zB,zC)] (.add zB zA) zC rfl (sbB _ _ ha)),take_of_length_le (by simp)]
 ·rw [drop_eq_nil_of_le (by exact lp [_,_] [(su zA,zB)] zA zB rfl (nG ha))]
  have:xs.length - a=0:=by exact nA ((sbC _ _ (lp [_,_] [(su zA,zB)] zA zB rfl (nG ha)))) (lp [_] [] (.num 0) zA rfl)
  rw [this];simp
theorem pick_tail {α:Type}(xs:List α):pickL xs (some 1) none none=xs.drop 1:=by
 unfold pickL sliceBounds
 cases xs with
 | nil=>rfl
 | cons x r=>
  have e:(max 0 (min (1:Int) (((x::r).length:Nat):Int)))=((1:Nat):Int):=clampN 1 _ (Nat.le_add_left ..)
  simp only [Option.getD_none,show ¬((1:Int)<0) by decide,if_false,show (1:Int)>0 by decide,if_true]
  rw [e,sliceRange_one,←range_pick]
  rw [filterMap_map];rfl
theorem pick_from {α:Type}(xs:List α)(n:Nat)(hn:n≤xs.length):pickL xs (some (n:Int)) none none=xs.drop n:=by
 unfold pickL sliceBounds
 have e:(max 0 (min (n:Int) (xs.length:Int)))=(n:Int):=clampN n _ hn
 simp only [Option.getD_none,show ¬((n:Int)<0) by exact Int.not_lt.2 (Int.natCast_nonneg _),if_false,show (1:Int)>0 by decide,if_true]
 rw [e,sliceRange_one,←range_pick,filterMap_map];rfl
theorem pick_take {α:Type}(xs:List α)(n:Nat):pickL xs none (some (n:Int)) none=xs.take n:=by
 unfold pickL sliceBounds
 have e:(max 0 (min (n:Int) ((xs.length:Nat):Int)))=((min n xs.length:Nat):Int):=clampM n _
 simp only [Option.getD_none,show (1:Int)>0 by decide,if_true,show ¬((n:Int)<0) by exact Int.not_lt.2 (Int.natCast_nonneg _),if_false]
 rw [e]
 have e2:sliceRange 0 ((min n xs.length:Nat):Int) 1=(List.range (min n xs.length)).map (0+·):=by
  have:=sliceRange_one 0 (min n xs.length);simpa using this
 rw [e2,filterMap_map]
 have h:∀n:Nat,n≤xs.length→(List.range n).filterMap (fun k=>xs[k]?)=xs.take n:=by
  intro n
  induction n with
  | zero=>intro _;simp
  | succ n ih=>
   intro hn
   rw [range_succ,filterMap_append,ih (lp [_,_] [(su zA,zB)] zA zB rfl hn),take_add_one]
   simp [getElem?_eq_getElem (show n<xs.length by exact hn)]
 have:=h (min n xs.length) (Nat.min_le_right _ _)
 rw [List.take_eq_take_min,←this]
 congr 1;funext k;simp
theorem pick_init {α:Type}(xs:List α):pickL xs none (some (-1)) none=xs.dropLast:=by
 have h:=pick_take xs (xs.length - 1)
 rw [List.dropLast_eq_take,←h]
 unfold pickL sliceBounds
 simp only [Option.getD_none,show (1:Int)>0 by decide,if_true,show ((-1:Int)<0) by decide]
 have e1:max 0 (min (-1+(xs.length:Int)) (xs.length:Int))=((xs.length - 1:Nat):Int):=clampI _
 have e2:max 0 (min ((xs.length - 1:Nat):Int) (xs.length:Int))=((xs.length - 1:Nat):Int):=clampN _ _ (Nat.sub_le ..)
 rw [e1,if_neg (Int.not_lt.2 (Int.natCast_nonneg _)),e2]
theorem pick_rev {α:Type}(xs:List α):pickL xs none none (some (-1))=xs.reverse:=by
 unfold pickL sliceBounds sliceRange
 simp only [Option.getD_some,show ¬((-1:Int)>0) by decide,if_false]
 have e:(if ((xs.length:Int) - 1)>-1 then (((xs.length:Int) - 1) - (-1) - (-1) - 1) / (- -1) else 0)=(xs.length:Int):=by
  split
  ·have:(((xs.length:Int) - 1) - (-1) - (-1) - 1)=xs.length:=iT (lw [_] [] (.sub (.sub (.sub (.sub iA (.num 1)) (.num (-1))) (.num (-1))) (.num 1)) iA rfl) (lw [_] [] iA (.sub (.sub (.sub (.sub iA (.num 1)) (.num (-1))) (.num (-1))) (.num 1)) rfl)
   rw [this];simp
  ·exact iT (cn0 _) (lw [_] [(.sub iA (.num 1),.num (-1))] iA (.num 0) rfl (Int.not_lt.1 (by assumption)))
 rw [e,Int.toNat_natCast,filterMap_map]
 have h:∀n:Nat,n≤xs.length→(List.range n).filterMap ((fun k=>xs[k]?) ∘ fun (k:Nat)=>((xs.length:Int) - 1+-1*(k:Int)).toNat)=xs.reverse.take n:=by
  intro n
  induction n with
  | zero=>intro _;simp
  | succ n ih=>
   intro hn
   rw [range_succ,filterMap_append,ih (lp [_,_] [(su zA,zB)] zA zB rfl hn),take_add_one]
   congr 1
   have e1:((xs.length:Int) - 1+-1*(n:Int)).toNat=xs.length - 1 - n:=revI ..
   simp only [filterMap_cons,List.filterMap_nil,Function.comp,e1]
   rw [getElem?_reverse (by exact lp [_,_,_,_] [(.add zA zB,zC),(su zC,zD)] (su zB) zD rfl (sbB _ _ (lp [_,_,_] [(su zA,zB),(zB,su zC)] zA zC rfl hn (sbA _ _))) (sbB _ _ (lp [_,_] [(su zA,zB)] (.num 1) zB rfl hn)))]
   rw [getElem?_eq_getElem (by exact lp [_,_,_,_] [(.add zA zB,zC),(su zC,zD)] (su zA) zD rfl (sbB _ _ (lp [_,_,_] [(su zA,zB),(zB,su zC)] zA zC rfl hn (sbA _ _))) (sbB _ _ (lp [_,_] [(su zA,zB)] (.num 1) zB rfl hn)))]
   simp
 rw [h xs.length (Nat.le_refl _),take_of_length_le (by simp)]
section
noncomputable def lookD (T:List (Int×α))(k:Int):Option α:=(T.find? fun e=>decide (e.1=k)).map (·.2)
noncomputable def putD (T:List (Int×α))(k:Int)(a:α):List (Int×α):=if T.any (fun e=>decide (e.1=k)) then T.map (fun e=>if e.1=k then (e.1,a) else e) else T++[(k,a)]
theorem lookD_put (T:List (Int×α))(k j:Int)(a:α):lookD (putD T k a) j=if j=k then some a else lookD T j:=by
 unfold putD lookD
 by_cases h:T.any (fun e=>decide (e.1=k))=true
 ·rw [if_pos h]
  induction T with
  | nil=>simp at h
  | cons e r ih=>
   by_cases he:e.1=k
   ·rw [map_cons,if_pos he]
    by_cases hj:j=k
    ·rw [if_pos hj]
     rw [find?_cons_of_pos (by simp [he,hj])]
     rfl
    ·rw [if_neg hj]
     rw [find?_cons_of_neg (by simp [he];exact fun q=>hj q.symm),find?_cons_of_neg (by simp [he];exact fun q=>hj q.symm)]
     by_cases h':r.any (fun e=>decide (e.1=k))=true
     ·have:=ih h';rwa [if_neg hj] at this
     ·have e2:r.map (fun e=>if e.1=k then (e.1,a) else e)=r:=by
       conv=>rhs;rw [←map_id r]
       apply map_congr_left
       intro x hx
       rw [if_neg];rfl
       intro q
       exact h' (any_eq_true.mpr ⟨x,hx,by simpa using q⟩)
      rw [e2]
   ·rw [map_cons,if_neg he]
    have h':r.any (fun e=>decide (e.1=k))=true:=by simpa [he] using h
    have:=ih h'
    by_cases hj:e.1=j
    ·rw [find?_cons_of_pos (by simpa using hj),find?_cons_of_pos (by simpa using hj),if_neg (by rw [←hj];exact he)]
    ·rw [find?_cons_of_neg (by simpa using hj),find?_cons_of_neg (by simpa using hj)];exact this
 ·rw [if_neg h]
  rw [List.find?_append]
  by_cases hj:j=k
  ·rw [if_pos hj]
   have:T.find? (fun e=>decide (e.1=j))=none:=by
    rw [find?_eq_none]
    intro x hx
    intro q
    exact h (any_eq_true.mpr ⟨x,hx,by rw [←hj];exact q⟩)
   rw [this];simp [hj]
  ·rw [if_neg hj]
   have:([(k,a)]:List (Int×α)).find? (fun e=>decide (e.1=j))=none:=by
    rw [find?_cons_of_neg (by simp;exact fun q=>hj q.symm)];rfl
   rw [this,Option.or_none]
theorem putD_length (T:List (Int×α))(k:Int)(a:α):(putD T k a).length≤T.length+1:=by
 unfold putD;split <;> simp
end
noncomputable def symW (T:List (Int×Int))(x:Int):Int:=if x>255 then (lookD T x).getD 0 else 1
noncomputable def waysOf (T:List (Int×Int))(tl:List Int):Int:=tl.foldl (fun w x=>w*symW T x) 1
noncomputable def manyStep (T:List (Int×Int))(r:List Int):List (Int×Int):=
 putD T (r.headD 0) (match lookD T (r.headD 0) with|some v=>v+waysOf T (r.drop 1)|none=>waysOf T (r.drop 1))
noncomputable def manyOf (rules:List (List Int)):List (Int×Int):=rules.foldl manyStep []
structure ManyOk (rules:List (List Int)):Prop where
 len:rules.length≤2 ^ 20
 row:∀r∈rules,r≠[]∧r.length≤2 ^ 20
 ways:∀i r,rules[i]?=some r→∀j x,(r.drop 1)[j]?=some x→(0≤waysOf (manyOf (rules.take i)) ((r.drop 1).take j)∧waysOf (manyOf (rules.take i)) ((r.drop 1).take j)≤2 ^ 40)∧(x>255→∃v,lookD (manyOf (rules.take i)) x=some v)
theorem bits_small {a:Int}(h0:0≤a)(h1:a≤2 ^ 40):Builtin.Int.intBits a≤64:=by
 unfold Builtin.Int.intBits
 split
 ·exact lp [] [] (.num 0) (.num 64) rfl
 ·have:a.natAbs.log2<41:=by
   rw [Nat.log2_lt]
   ·lia
   ·rename_i h;simp at h;lia
  exact lp [_] [(su zA,.num 41)] (su zA) (.num 64) rfl this
end Mine
namespace Mine
inductive SliceP {α:Type}(R:Rel α)(s:Shared)(Q:Value→Shared→Prop)(ov vl vu:Value)(s₃:Shared):Prop
 | mk (O:Org) (K:Heap) (L:Addr) (m:Str→Option Value) (led:List (Addr×Obj)) (h:Heap) (tk:Nat) (lo hi:Option Int) (xs:List α):s₃=sh s h tk→St O K L m led h→(rList R).r K ov xs→xs.length≤2 ^ 24→IsPart vl lo→IsPart vu hi→(∀K' h' v,Sub K K'→St O K' L m led h'→(rList R).r K' v (pickL xs lo hi none)→Q v (sh s h' tk))→SliceP R s Q ov vl vu s₃
inductive Slice3P {α:Type}(R:Rel α)(s:Shared)(Q:Value→Shared→Prop)(ov vl vu vt:Value)(s₄:Shared):Prop
 | mk (O:Org) (K:Heap) (L:Addr) (m:Str→Option Value) (led:List (Addr×Obj)) (h:Heap) (tk:Nat) (lo hi:Option Int) (si:Int) (xs:List α):s₄=sh s h tk→St O K L m led h→(rList R).r K ov xs→xs.length≤2 ^ 24→IsPart vl lo→IsPart vu hi→IsPart vt (some si)→si≠0→(∀K' h' v,Sub K K'→St O K' L m led h'→(rList R).r K' v (pickL xs lo hi (some si))→Q v (sh s h' tk))→Slice3P R s Q ov vl vu vt s₄
section
variable {R:Rel α}
theorem St.pushK (S:St O K L m led h)(o:Obj)(hf:o.isFreed=false:=by rfl):∃K',Sub K K'∧St O K' L m led (h.push o)∧K'.get? h.objs.size=some o:=by
 have S1:=S.push o hf
 obtain⟨K',hK',S2,hfr⟩:=S1.freeze led (sublist_cons_self ..)
 refine⟨K',hK',S2,hfr _ _ (Heap.get?_push_size _ hf) S.sizeB (S1.ledg _ mem_cons_self).2.1 ?_⟩
 have:=S1.nodup
 rw [map_cons,nodup_cons] at this
 exact this.1
theorem slice_lst {lower upper:Option Expr}{o:Expr}{p pos:Pos}{Q:Value→Shared→Prop}
  (k:wpAny (model prog w) A (eval o env) (fun ov s₁=>wpAny (model prog w) A (evalPart lower env) (fun vl s₂=>wpAny (model prog w) A (evalPart upper env) (SliceP R s Q ov vl) E s₂) E s₁) E (sh s h tk))
  (ht:∀o' r,letTemporaryGo o o' r=pure ():=by intro _ _;with_unfolding_all rfl) :
  wpAny (model prog w) A (eval (.Subscript o (.Slice lower upper none p) pos) env) Q E (sh s h tk):=by
 refine wpAny_Subscript_list_slice (wpAny_mono k (fun ov s₁ h₁=>wpAny_mono h₁ (fun vl s₂ h₂=>wpAny_mono h₂ (fun vu s₃ h₃=>?_) fun _ _ x=>x) fun _ _ x=>x) fun _ _ x=>x) ht
 obtain⟨O,K,L,m,led,h,tk,lo,hi,xs,rfl,S,⟨a,vs,n,rfl,ha,x⟩,hsz,hlo,hhi,c⟩:=h₃
 refine⟨a,vs.toArray,lo,hi,rfl,⟨_,S.stays _ _ ha,rfl,n,rfl⟩,by rw [size_toArray,x.length];exact hsz,hlo,hhi,?_⟩
 obtain⟨K1,hK1,S1,_⟩:=S.pushK { cls:=.type "slice",data:=.fields #[vl,vu,.none] }
 obtain⟨K2,hK2,S2,g⟩:=S1.pushK { cls:=.type "list",data:=.seq (slicePick vs.toArray lo hi none) }
 rw [Heap.size_push] at g
 exact c K2 _ _ (hK1.trans hK2) S2 ⟨_,(slicePick vs.toArray lo hi none).toList,0,rfl,by rw [Array.toArray_toList];exact g,(pick_rel x lo hi none).imp fun _ _ y=>R.mono (hK1.trans hK2) y⟩
theorem slice_lst3 {lower upper:Option Expr}{st o:Expr}{p pos:Pos}{Q:Value→Shared→Prop}
  (k:wpAny (model prog w) A (eval o env) (fun ov s₁=>wpAny (model prog w) A (evalPart lower env) (fun vl s₂=>wpAny (model prog w) A (evalPart upper env) (fun vu s₃=>wpAny (model prog w) A (eval st env) (Slice3P R s Q ov vl vu) E s₃) E s₂) E s₁) E (sh s h tk))
  (ht:∀o' r,letTemporaryGo o o' r=pure ():=by intro _ _;with_unfolding_all rfl) :
  wpAny (model prog w) A (eval (.Subscript o (.Slice lower upper (some st) p) pos) env) Q E (sh s h tk):=by
 refine wpAny_Subscript_Slice_step (T:="list") list_getitem_lookup (wpAny_mono k (fun ov s₁ h₁=>wpAny_Slice (wpAny_mono h₁ (fun vl s₂ h₂=>wpAny_mono h₂ (fun vu s₃ h₃=>wpAny_mono h₃ (fun vt s₄ h₄=>?_) fun _ _ x=>x) fun _ _ x=>x) fun _ _ x=>x)) fun _ _ x=>x) ht
 obtain⟨O,K,L,m,led,h,tk,lo,hi,si,xs,rfl,S,⟨a,vs,n,rfl,ha,x⟩,hsz,hlo,hhi,hst,hs0,c⟩:=h₄
 obtain⟨K1,hK1,S1,g1⟩:=S.pushK { cls:=.type "slice",data:=.fields #[vl,vu,vt] }
 obtain⟨K2,hK2,S2,g⟩:=S1.pushK { cls:=.type "list",data:=.seq (slicePick vs.toArray lo hi (some si)) }
 have hl:(h.push { cls:=.type "slice",data:=.fields #[vl,vu,vt] }).get? a=some (Mine.lo vs.toArray n):=S1.stays _ _ (hK1 _ _ ha)
 refine⟨⟨_,hl,rfl⟩,wpAny_getItem_list_slice (s:=sh s (h.push { cls:=.type "slice",data:=.fields #[vl,vu,vt] }) tk) ⟨_,hl,rfl,n,rfl⟩ (Heap.IsSliceOf.new ..) hlo hhi hst (by simpa using hs0) ?_ (by rw [size_toArray,x.length];exact hsz)⟩
 exact c K2 _ _ (hK1.trans hK2) S2 ⟨_,(slicePick vs.toArray lo hi (some si)).toList,0,rfl,by rw [Array.toArray_toList];exact g,(pick_rel x lo hi _).imp fun _ _ y=>R.mono (hK1.trans hK2) y⟩
theorem item_lst {value slice:Expr}{a:Addr}{vs:List Value}{n:Nat}{k:Int}{u:Tok}{x:Value}{Q:Value→Shared→Prop}(S:St O K L m led h)(ha:K.get? a=some (lo vs.toArray n))
  (h0:0≤k)(hfit:k<2 ^ 63)(hx:vs[k.toNat]?=some x)(q:Q x (sh s h tk))
  (hs:subscripted slice false (.ref a) (.int k u)=operate [.ref a,.int k u] (getItem (.ref a) (.int k u)):=by with_unfolding_all rfl)(hg:∀r,letTemporaryGo value (.ref a) r=pure ():=by intro _;with_unfolding_all rfl) :
  wpAny (model prog w) A (subscriptTail value slice (.ref a) (.int k u)) Q E (sh s h tk):=
 item_listL ⟨_,S.stays _ _ ha,rfl,n,rfl⟩ h0 hfit hx q hs hg
end
end Mine
namespace Mine
inductive TupP {α:Type}(R:Rel α)(s:Shared)(Q:Value→Shared→Prop)(vs:List Value)(s₁:Shared):Prop
 | mk (O:Org) (K:Heap) (L:Addr) (m:Str→Option Value) (led:List (Addr×Obj)) (h:Heap) (tk:Nat) (xs:List α):s₁=sh s h tk→St O K L m led h→All2 (R.r K) vs xs→xs.length≤1000→(∀K' h' v,Sub K K'→St O K' L m led h'→(rTup R).r K' v xs→Q v (sh s h' tk))→TupP R s Q vs s₁
inductive ListP {α:Type}(R:Rel α)(s:Shared)(Q:Value→Shared→Prop)(vs:List Value)(s₁:Shared):Prop
 | mk (O:Org) (K:Heap) (L:Addr) (m:Str→Option Value) (led:List (Addr×Obj)) (h:Heap) (tk:Nat) (xs:List α):s₁=sh s h tk→St O K L m led h→All2 (R.r K) vs xs→xs.length≤1000→(∀K' h' v,Sub K K'→St O K' L m led h'→(rList R).r K' v xs→Q v (sh s h' tk))→ListP R s Q vs s₁
section
variable {R:Rel α}
theorem tup_lit {elts:List Expr}{n:Nat}{pos:Pos}{Q:Value→Shared→Prop}
  (k:wpAny (model prog w) A (spliced (backTo pos (starEach elts env))) (TupP R s Q) E (sh s h tk)):wpAny (model prog w) A (eval (.Tuple elts n pos) env) Q E (sh s h tk):=by
 refine wpAny_Tuple (wpAny_mono k (fun vs s₁ h₁=>?_) fun _ _ x=>x)
 obtain⟨O,K,L,m,led,h,tk,xs,rfl,S,hx,hsz,c⟩:=h₁
 refine⟨by rw [hx.length];show xs.length≤2 ^ 24;exact lp [_] [(zA,.num 1000)] zA (.num 16777216) rfl hsz,?_⟩
 obtain⟨K1,hK1,S1,g⟩:=S.pushK (tu vs.toArray)
 exact c K1 _ _ hK1 S1 ⟨_,vs,rfl,g,hx.imp fun _ _ q=>R.mono hK1 q⟩
theorem list_lit {elts:List Expr}{pos:Pos}{Q:Value→Shared→Prop}
  (k:wpAny (model prog w) A (spliced (backTo pos (starEach elts env))) (ListP R s Q) E (sh s h tk)):wpAny (model prog w) A (eval (.List elts pos) env) Q E (sh s h tk):=by
 refine wpAny_List_spliced (wpAny_mono k (fun vs s₁ h₁=>?_) fun _ _ x=>x)
 obtain⟨O,K,L,m,led,h,tk,xs,rfl,S,hx,hsz,c⟩:=h₁
 refine⟨by rw [hx.length];show xs.length≤2 ^ 24;exact lp [_] [(zA,.num 1000)] zA (.num 16777216) rfl hsz,?_⟩
 obtain⟨K1,hK1,S1,g⟩:=S.pushK (lo vs.toArray 0)
 exact c K1 _ _ hK1 S1 ⟨_,vs,0,rfl,g,hx.imp fun _ _ q=>R.mono hK1 q⟩
theorem list_new {pos:Pos}{Q:Value→Shared→Prop}(S:St O K L m led h)(c:∀h',St O K L m ((h.objs.size,lo ([]:List Value).toArray 0)::led) h'→Q (.ref h.objs.size) (sh s h' tk)) :
  wpAny (model prog w) A (eval (.List [] pos) env) Q E (sh s h tk):=
 wpAny_List_spliced (args_nil ⟨by simp,c _ (S.push (lo ([]:List Value).toArray 0))⟩)
theorem tests0 {M:Model}{env:Env}{Q:Bool→Shared→Prop}(q:Q true s):wpAny M A (forIn ([]:List Expr) true fun c r=>if r=true then do let ok ←isTrue c env (eval c env);pure (ForInStep.yield ok) else pure (ForInStep.yield r)) Q E s:=by
 rw [forIn_nil];exact wpAny_pure q
theorem tests1 {M:Model}{env:Env}{c:Expr}{Q:Bool→Shared→Prop}(q:wpAny M A (isTrue c env (eval c env)) Q E s):wpAny M A (forIn [c] true fun c r=>if r=true then do let ok ←isTrue c env (eval c env);pure (ForInStep.yield ok) else pure (ForInStep.yield r)) Q E s:=by
 rw [forIn_cons]
 refine wpAny_bind ?_
 rw [if_pos rfl]
 refine wpAny_bind (wpAny_mono q (fun b s' hq=>wpAny_pure ?_) fun _ _ x=>x)
 show wpAny _ _ (forIn [] _ _) _ _ _
 rw [forIn_nil];exact wpAny_pure hq
theorem item_tuT {value slice:Expr}{t:Addr}{vs:List Value}{k:Int}{u:Tok}{j:Nat}{x:Value}{Q:Value→Shared→Prop}(S:St O K L m led h)(ht:K.get? t=some (tu vs.toArray))
  (hj:seqIndex? k vs.length=some j)(hlo:-(2 ^ 63)≤k)(hhi:k<2 ^ 63)(hx:vs[j]?=some x)(q:Q x (sh s h tk))
  (hs:subscripted slice false (.ref t) (.int k u)=operate [.ref t,.int k u] (getItem (.ref t) (.int k u)):=by with_unfolding_all rfl) :
  wpAny (model prog w) A (subscriptTail value slice (.ref t) (.int k u)) Q E (sh s h tk):=
 item_tupleT ⟨_,S.stays _ _ ht,rfl,0,rfl⟩ hlo hhi hj hx q hs
end
end Mine
namespace Mine
section
variable {κ:Type}[DecidableEq κ]{R:Rel α}
theorem item_dct {knd:PySem.KeyKind prog w κ}{value slice:Expr}{d:Addr}{o:Obj}{kvs:List (κ×Value)}{key v:Value}{k:κ}{Q:Value→Shared→Prop}(hd:h.get? d=some o)(hdo:dictO knd o kvs)
  (hkey:knd.is k key=true)(hv:valueAt kvs k=some v)(q:Q v (sh s h (tk+1)))
  (hs:subscripted slice false (.ref d) key=operate [.ref d,key] (getItem (.ref d) key):=by with_unfolding_all rfl)(hg:∀r,letTemporaryGo value (.ref d) r=pure ():=by intro _;with_unfolding_all rfl) :
  wpAny (model prog w) A (subscriptTail value slice (.ref d) key) Q E (sh s h tk):=by
 have hm:=dictOf_of hd hdo
 exact subscriptTail_builtin (id:="dict.__getitem__") (Heap.DictOf.typeIs (s:=sh s h tk) hm) slot_dict_getitem.lookup (wpAny_getItem_of (s:=sh s h tk) hkey hm.mapOf hv q) hs hg
theorem in_dct {knd:PySem.KeyKind prog w κ}{d:Addr}{o:Obj}{kvs:List (κ×Value)}{key:Value}{k:κ}{Q:Value→Shared→Prop}(hd:h.get? d=some o)(hdo:dictO knd o kvs)(hsys:(d == sysModules)=false)
  (hkey:knd.is k key=true)(q:Q (.bool (valueAt kvs k).isSome) (sh s h (tk+1))):wpAny (model prog w) A (compareOp .In key (.ref d)) Q E (sh s h tk):=by
 exact wpAny_in_of (s:=sh s h tk) hkey hsys (dictOf_of hd hdo).mapOf q
end
theorem intkey (prog:Program)(w:World)(k:Int)(t:Tok):(intKind prog w).is k (.int k t)=true:=by simp [intKind,Value.isInt]
theorem strkey (prog:Program)(w:World)(k:Str)(t:Tok):(PySem.strKind prog w).is k (.str k t)=true:=by simp [PySem.strKind,Value.isStrOf]
theorem part_none {M:Model}{A:Around}{E:Value→Shared→Prop}{s:Shared}{env:Env}{Q:Value→Shared→Prop}(q:Q .none s):wpAny M A (evalPart none env) Q E s:=wpAny_pure q
theorem part_int {M:Model}{A:Around}{E:Value→Shared→Prop}{s:Shared}{h:Heap}{tk:Nat}{env:Env}{i:Int}{kk:Nat}{pos:Pos}{Q:Value→Shared→Prop}(q:∀t,Q (.int i t) (sh s h (tk+1))):wpAny M A (evalPart (some (.Constant (.int i) kk pos)) env) Q E (sh s h tk):=by
 rw [evalPart_some];exact wpAny_Constant_int (q _)
theorem pr_look {α:Type}{R:Value→α→Prop}{kvs:List (Int×Value)}{T:List (Int×α)}(x:All2 (PR R) kvs T)(k:Int):(valueAt kvs k=none∧lookD T k=none)∨∃v a,valueAt kvs k=some v∧lookD T k=some a∧R v a:=by
 rcases pr_at x k with ⟨h1,h2⟩|⟨v,a,h1,h2,h3⟩
 ·exact .inl ⟨h1,by unfold lookD;rw [h2];rfl⟩
 ·exact .inr ⟨v,a,h1,by unfold lookD;rw [h2];rfl,h3⟩
theorem pr_put {α:Type}{R:Value→α→Prop}{kvs:List (Int×Value)}{T:List (Int×α)}(x:All2 (PR R) kvs T)(k:Int){v:Value}{a:α}(h:R v a):All2 (PR R) (stored kvs k v) (putD T k a):=pr_set x k h
noncomputable def rVal:Rel Value:=⟨fun _ v x=>v=x,fun _ h=>h⟩
noncomputable def Gv (prog:Program)(w:World)(A:Around)(s:Shared)(h K:Heap)(env:Env)(e:Expr){α:Type}(R:Rel α)(x:α):Prop:=
 ∀(E:Value→Shared→Prop) (tk:Nat) (Q:Value→Shared→Prop),(∀v tk',R.r K v x→Q v (sh s h tk'))→wpAny (model prog w) A (eval e env) Q E (sh s h tk)
noncomputable def Tst (prog:Program)(w:World)(A:Around)(s:Shared)(h:Heap)(env:Env)(e:Expr)(b:Bool):Prop:=
 ∀(E:Value→Shared→Prop) (tk:Nat) (Q:Bool→Shared→Prop),(∀tk',Q b (sh s h tk'))→wpAny (model prog w) A (isTrue e env (eval e env)) Q E (sh s h tk)
section
variable {κ:Type}[DecidableEq κ]{R:Rel α}{R':Rel β}{e l r o test body orelse:Expr}{pos:Pos}{a b:Int}{ns:List Str}{vs:List (Option Value)}
theorem gv_n {x:Str}{v:Value}{y:α}(S:St O K env.locals (loc ns vs) led h)(i:Nat)(hd:ns.Nodup)(q:R.r K v y)(hx:ns[i]?=some x:=by rfl)(hv:vs[i]?=some (some v):=by rfl)
  (hl:env.kindOf x=some .local:=by rfl)(hk:env.scope.kind = .function:=by rfl)(hdb:(x == ("__debug__" : Str))=false:=by rfl):Gv prog w A s h K env (.Name x pos) R y:=fun _ tk _ c=>ld S i hd (c v tk q) hx hv hl hk hdb
theorem gv_eq {x y:α}(g:Gv prog w A s h K env e R x)(q:x=y):Gv prog w A s h K env e R y:=q▸g
theorem gv_i {k:Nat}:Gv prog w A s h K env (.Constant (.int a) k pos) rInt a:=fun _ _ _ c=>c_int (c _ _ ⟨_,rfl⟩)
theorem gv_s {k:Nat}{x:Str}:Gv prog w A s h K env (.Constant (.str x) k pos) rStr x:=fun _ _ _ c=>c_str (c _ _ ⟨_,rfl⟩)
theorem gv_add (x:Gv prog w A s h K env l rInt a)(y:Gv prog w A s h K env r rInt b):Gv prog w A s h K env (.BinOp l .Add r pos) rInt (a+b):=fun _ _ _ c=>wpAny_BinOp (x _ _ _ fun v _ hv=>y _ _ _ fun u _ hu=>by
 obtain⟨t,rfl⟩:=hv;obtain⟨t',rfl⟩:=hu;exact add_i (c _ _ ⟨_,rfl⟩))
theorem gv_sub (x:Gv prog w A s h K env l rInt a)(y:Gv prog w A s h K env r rInt b):Gv prog w A s h K env (.BinOp l .Sub r pos) rInt (a - b):=fun _ _ _ c=>wpAny_BinOp (x _ _ _ fun v _ hv=>y _ _ _ fun u _ hu=>by
 obtain⟨t,rfl⟩:=hv;obtain⟨t',rfl⟩:=hu;exact sub_i (c _ _ ⟨_,rfl⟩))
theorem gv_mul (x:Gv prog w A s h K env l rInt a)(y:Gv prog w A s h K env r rInt b)(hm:IntMulOk a b):Gv prog w A s h K env (.BinOp l .Mult r pos) rInt (a*b):=fun _ _ _ c=>wpAny_BinOp (x _ _ _ fun v _ hv=>y _ _ _ fun u _ hu=>by
 obtain⟨t,rfl⟩:=hv;obtain⟨t',rfl⟩:=hu;exact mul_i (c _ _ ⟨_,rfl⟩) hm)
theorem gv_mod (x:Gv prog w A s h K env l rInt a)(y:Gv prog w A s h K env r rInt b)(hb:b≠0):Gv prog w A s h K env (.BinOp l .Mod r pos) rInt (a.fmod b):=fun _ _ _ c=>wpAny_BinOp (x _ _ _ fun v _ hv=>y _ _ _ fun u _ hu=>by
 obtain⟨t,rfl⟩:=hv;obtain⟨t',rfl⟩:=hu;exact mod_i hb (c _ _ ⟨_,rfl⟩))
theorem gv_neg (x:Gv prog w A s h K env e rInt a):Gv prog w A s h K env (.UnaryOp .USub e pos) rInt (-a):=fun _ _ _ c=>UnaryOp_ (x _ _ _ fun v _ hv=>by
 obtain⟨t,rfl⟩:=hv;exact neg_i (c _ _ ⟨_,rfl⟩))
theorem gv_if {c:Bool}{x:α}(ht:Tst prog w A s h env test c)(h1:c=true→Gv prog w A s h K env body R x)(h2:¬c=true→Gv prog w A s h K env orelse R x):Gv prog w A s h K env (.IfExp test body orelse pos) R x:=
 fun _ _ _ q=>wpAny_IfExp (ht _ _ _ fun _=>if2 (fun e=>h1 e _ _ _ q) fun e=>h2 e _ _ _ q)
theorem ts_gt (x:Gv prog w A s h K env l rInt a)(y:Gv prog w A s h K env r rInt b)(hm:behindInMarks .Gt r=false:=by with_unfolding_all rfl):Tst prog w A s h env (.Compare l [.Gt] [r] pos) (decide (b<a)):=fun _ _ _ c=>wpAny_isTrue_Compare1 (x _ _ _ fun v _ hv=>y _ _ _ fun u _ hu=>by
 obtain⟨t,rfl⟩:=hv;obtain⟨t',rfl⟩:=hu;exact gt_t (c _)) hm
theorem ts_lt (x:Gv prog w A s h K env l rInt a)(y:Gv prog w A s h K env r rInt b)(hm:behindInMarks .Lt r=false:=by with_unfolding_all rfl):Tst prog w A s h env (.Compare l [.Lt] [r] pos) (decide (a<b)):=fun _ _ _ c=>wpAny_isTrue_Compare1 (x _ _ _ fun v _ hv=>y _ _ _ fun u _ hu=>by
 obtain⟨t,rfl⟩:=hv;obtain⟨t',rfl⟩:=hu;exact wpAny_lt_int (wpAny_truthy_bool (c _))) hm
theorem ts_eq (x:Gv prog w A s h K env l rInt a)(y:Gv prog w A s h K env r rInt b)(hm:behindInMarks .Eq r=false:=by with_unfolding_all rfl):Tst prog w A s h env (.Compare l [.Eq] [r] pos) (a == b):=fun _ _ _ c=>wpAny_isTrue_Compare1 (x _ _ _ fun v _ hv=>y _ _ _ fun u _ hu=>by
 obtain⟨t,rfl⟩:=hv;obtain⟨t',rfl⟩:=hu;exact eq_t (c _)) hm
theorem ts_ne (x:Gv prog w A s h K env l rInt a)(y:Gv prog w A s h K env r rInt b)(hm:behindInMarks .NotEq r=false:=by with_unfolding_all rfl):Tst prog w A s h env (.Compare l [.NotEq] [r] pos) (a != b):=fun _ _ _ c=>wpAny_isTrue_Compare1 (x _ _ _ fun v _ hv=>y _ _ _ fun u _ hu=>by
 obtain⟨t,rfl⟩:=hv;obtain⟨t',rfl⟩:=hu;exact PyProof.Rows.ne_int (wpAny_truthy_bool (c _))) hm
theorem ts_or {x y:Expr}{a b:Bool}(p:Tst prog w A s h env x a)(q:Tst prog w A s h env y b):Tst prog w A s h env (.BoolOp .Or [x,y] pos) (a||b):=fun _ _ _ c=>wpAny_isTrue_BoolOp (wpAny_allTrue_Or_cons (p _ _ _ fun _=>by
 cases a
 ·exact ifn (by simp) (wpAny_allTrue_Or_cons (q _ _ _ fun _=>by
   cases b
   ·exact ifn (by simp) (wpAny_allTrue_Or_nil (c _))
   ·exact ifp rfl (c _)))
 ·exact ifp rfl (c _)))
theorem ts_and {x y:Expr}{a b:Bool}(p:Tst prog w A s h env x a)(q:a=true→Tst prog w A s h env y b):Tst prog w A s h env (.BoolOp .And [x,y] pos) (a&&b):=fun _ _ _ c=>wpAny_isTrue_BoolOp (wpAny_allTrue_And_cons (p _ _ _ fun _=>by
 cases a
 ·exact ifn (by simp) (c _)
 ·exact ifp rfl (wpAny_allTrue_And_cons (q rfl _ _ _ fun _=>by
   cases b
   ·exact ifn (by simp) (c _)
   ·exact ifp rfl (wpAny_allTrue_And_nil (c _))))))
theorem ts_in {knd:PySem.KeyKind prog w κ}{RK:Rel κ}{D:Addr}{ob:Obj}{kvs:List (κ×Value)}{k:κ}(x:Gv prog w A s h K env l RK k)(d:Gv prog w A s h K env r rVal (.ref D))(hd:h.get? D=some ob)(hdo:dictO knd ob kvs)(hsys:(D == sysModules)=false)
  (hkey:∀v,RK.r K v k→knd.is k v=true)(hm:behindInMarks .In r=false:=by with_unfolding_all rfl):Tst prog w A s h env (.Compare l [.In] [r] pos) (valueAt kvs k).isSome:=fun _ _ _ c=>wpAny_isTrue_Compare1 (x _ _ _ fun v _ hv=>d _ _ _ fun u _ hu=>by
 obtain rfl:u = .ref D:=hu
 exact in_dct hd hdo hsys (hkey _ hv) (wpAny_truthy_bool (c _))) hm
theorem gv_dct {knd:PySem.KeyKind prog w κ}{RK:Rel κ}{D:Addr}{ob:Obj}{kvs:List (κ×Value)}{k:κ}{v:Value}{y:α}(d:Gv prog w A s h K env l rVal (.ref D))(x:Gv prog w A s h K env r RK k)(hd:h.get? D=some ob)(hdo:dictO knd ob kvs)(hkey:∀v,RK.r K v k→knd.is k v=true)
  (hv:valueAt kvs k=some v)(q:R.r K v y)
  (hs:∀D key,subscripted r false (.ref D) key=operate [.ref D,key] (getItem (.ref D) key):=by intro _ _;with_unfolding_all rfl)(hg:∀D r,letTemporaryGo l (.ref D) r=pure ():=by intro _ _;with_unfolding_all rfl) :
  Gv prog w A s h K env (.Subscript l r pos) R y:=fun _ _ _ c=>Subscript_ (d _ _ _ fun u _ hu=>x _ _ _ fun kv _ hk=>by
 obtain rfl:u = .ref D:=hu
 exact item_dct hd hdo (hkey _ hk) hv (c _ _ q) (hs _ _) (hg _))
theorem gv_lst {xs:List α}{y:α}(S:Sub K h)(d:Gv prog w A s h K env l (rList R) xs)(x:Gv prog w A s h K env r rInt a)(h0:0≤a)(hfit:a<2 ^ 63)(hy:xs[a.toNat]?=some y)
  (hs:∀D key,subscripted r false (.ref D) key=operate [.ref D,key] (getItem (.ref D) key):=by intro _ _;with_unfolding_all rfl)(hg:∀D r,letTemporaryGo l (.ref D) r=pure ():=by intro _ _;with_unfolding_all rfl) :
  Gv prog w A s h K env (.Subscript l r pos) R y:=fun _ _ _ c=>Subscript_ (d _ _ _ fun u _ hu=>x _ _ _ fun kv _ hk=>by
 obtain⟨t,rfl⟩:=hk
 obtain⟨aa,us,n,rfl,ha,hx⟩:=hu
 obtain⟨z,hz,hr⟩:=hx.get hy
 exact item_listL ⟨_,S _ _ ha,rfl,n,rfl⟩ h0 hfit hz (c _ _ hr) (hs _ _) (hg _))
theorem as_v {rest:List Stmt}{value:Expr}{x:Str}{p:Pos}{y:α}{Q:Flow→Shared→Prop}(S:St O K env.locals (loc ns vs) led h)(i:Nat)(hd:ns.Nodup)(g:Gv prog w A s h K env value R y)
  (k:∀v h' tk',R.r K v y→St O K env.locals (loc ns (vs.set i (some v))) led h'→wpAny (model prog w) A (execs rest env) Q E (sh s h' tk'))(hx:ns[i]?=some x:=by rfl)(hi:(vs[i]?).isSome=true:=by rfl)
  (hl:env.kindOf x=some .local:=by rfl)(hk:env.scope.kind = .function:=by rfl)(hs:swapsWith value (some (.Name x p)) pos.line env=pure false:=by rfl) :
  wpAny (model prog w) A (execs (.Assign [.Name x p] value pos::rest) env) Q E (sh s h tk):=
 as_st (g _ _ _ fun v _ hv=>stn S i hd (fun h' tk' S'=>k v h' tk' hv S') hx hi hl hk) hs
theorem set_v {rest:List Stmt}{knd:PySem.KeyKind prog w κ}{RK:Rel κ}{D:Addr}{ob:Obj}{kvs:List (κ×Value)}{k:κ}{y:α}{value:Expr}{p:Pos}{Q:Flow→Shared→Prop}(S:St O K L m led h)(i:Nat)(hi:led[i]?=some (D,ob))(hdo:dictO knd ob kvs)(hlen:kvs.length≤sizeLine)
  (g:Gv prog w A s h K env value R y)(d:Gv prog w A s h K env l rVal (.ref D))(x:Gv prog w A s h K env r RK k)(hkey:∀v,RK.r K v k→knd.is k v=true)
  (c:∀o' v h' tk',R.r K v y→dictO knd o' (stored kvs k v)→St O K L m (led.set i (D,o')) h'→wpAny (model prog w) A (execs rest env) Q E (sh s h' tk'))
  (hs:swapsWith value (some (.Subscript l r p)) pos.line env=pure false:=by rfl):wpAny (model prog w) A (execs (.Assign [.Subscript l r p] value pos::rest) env) Q E (sh s h tk):=
 wpAny_execs_cons (wpAny_Assign_Subscript (g _ _ _ fun v _ hv=>d _ _ _ fun u _ hu=>x _ _ _ fun kv _ hk=>by
  obtain rfl:u = .ref D:=hu
  exact set_dict S i hi hdo (hkey _ hk) hlen fun o' h' tk' hdo' S'=>c o' v h' tk' hv hdo' S') hs)
theorem int_key {prog:Program}{w:World}{K:Heap}{k:Int}(v:Value)(q:rInt.r K v k):(intKind prog w).is k v=true:=by obtain⟨t,rfl⟩:=q;exact intkey _ _ _ _
theorem str_key {prog:Program}{w:World}{K:Heap}{k:Str}(v:Value)(q:rStr.r K v k):(PySem.strKind prog w).is k v=true:=by obtain⟨t,rfl⟩:=q;exact strkey _ _ _ _
end
end Mine
namespace Mine
inductive Tup2P {α β:Type}(R:Rel α)(R':Rel β)(s:Shared)(Q:Value→Shared→Prop)(a b:Value)(s₂:Shared):Prop
 | mk (O:Org) (K:Heap) (L:Addr) (m:Str→Option Value) (led:List (Addr×Obj)) (h:Heap) (tk:Nat) (x:α) (y:β):s₂=sh s h tk→St O K L m led h→R.r K a x→R'.r K b y→(∀K' h' v,Sub K K'→St O K' L m led h'→(rTup2 R R').r K' v (x,y)→Q v (sh s h' tk))→Tup2P R R' s Q a b s₂
section
theorem tup2_lit {R:Rel α}{R':Rel β}{e1 e2:Expr}{n:Nat}{pos:Pos}{Q:Value→Shared→Prop}
  (k:wpAny (model prog w) A (eval e1 env) (fun a s₁=>wpAny (model prog w) A (eval e2 env) (Tup2P R R' s Q a) E s₁) E (sh s h tk))
  (he1:starEach [e1,e2] env=(false,eval e1 env)::starEach [e2] env:=by rfl)(he2:starEach [e2] env=(false,eval e2 env)::starEach [] env:=by rfl) :
  wpAny (model prog w) A (eval (.Tuple [e1,e2] n pos) env) Q E (sh s h tk):=by
 refine wpAny_Tuple (args_cons (wpAny_mono k (fun a s₁ h₁=>args_cons (wpAny_mono h₁ (fun b s₂ h₂=>args_nil ?_) fun _ _ x=>x) he2) fun _ _ x=>x) he1)
 obtain⟨O,K,L,m,led,h,tk,x,y,rfl,S,hx,hy,c⟩:=h₂
 refine⟨by simp [sizeLine],?_⟩
 obtain⟨K1,hK1,S1,g⟩:=S.pushK (tu [a,b].toArray)
 exact c K1 _ _ hK1 S1 ⟨_,a,b,rfl,g,R.mono hK1 hx,R'.mono hK1 hy⟩
end
noncomputable def Gx (prog:Program)(w:World)(A:Around)(s:Shared)(O:Org)(K h:Heap)(L:Addr)(m:Str→Option Value)(led:List (Addr×Obj))(env:Env)(e:Expr){α:Type}(R:Rel α)(x:α):Prop:=
 ∀(E:Value→Shared→Prop) (tk:Nat) (Q:Value→Shared→Prop),(∀K' h' tk' v,Sub K K'→St O K' L m led h'→R.r K' v x→Q v (sh s h' tk'))→wpAny (model prog w) A (eval e env) Q E (sh s h tk)
noncomputable def Tx (prog:Program)(w:World)(A:Around)(s:Shared)(O:Org)(K h:Heap)(L:Addr)(m:Str→Option Value)(led:List (Addr×Obj))(env:Env)(e:Expr)(b:Bool):Prop:=
 ∀(E:Value→Shared→Prop) (tk:Nat) (Q:Bool→Shared→Prop),(∀K' h' tk',Sub K K'→St O K' L m led h'→Q b (sh s h' tk'))→wpAny (model prog w) A (isTrue e env (eval e env)) Q E (sh s h tk)
noncomputable def Pt (prog:Program)(w:World)(A:Around)(s:Shared)(h:Heap)(env:Env)(e:Option Expr)(x:Option Int):Prop:=
 ∀(E:Value→Shared→Prop) (tk:Nat) (Q:Value→Shared→Prop),(∀v tk',IsPart v x→Q v (sh s h tk'))→wpAny (model prog w) A (evalPart e env) Q E (sh s h tk)
noncomputable def Gi (prog:Program)(w:World)(A:Around)(s:Shared)(O:Org)(K h:Heap)(L:Addr)(m:Str→Option Value)(led:List (Addr×Obj))(env:Env)(e:Expr){α:Type}(R:Rel α)(xs:List α):Prop:=
 ∀(E:Value→Shared→Prop) (tk:Nat) (Q:Value→Shared→Prop),(∀K' h' tk' I ob,Sub K K'→St O K' L m ((I,ob)::led) h'→Src prog w A K' h' I R xs→Q (.ref I) (sh s h' tk'))→wpAny (model prog w) A (eval e env) (fun xv s₁=>wpAny (model prog w) A (pyIter xv) Q E s₁) E (sh s h tk)
section
variable {κ:Type}[DecidableEq κ]{R:Rel α}{R':Rel β}{e l r o test body orelse:Expr}{pos:Pos}{a b:Int}{ns:List Str}{vs:List (Option Value)}
theorem gx_v {x:α}(S:St O K L m led h)(g:Gv prog w A s h K env e R x):Gx prog w A s O K h L m led env e R x:=fun _ _ _ c=>g _ _ _ fun v tk' q=>c K h tk' v (Sub.refl _) S q
theorem gx_eq {x y:α}(g:Gx prog w A s O K h L m led env e R x)(q:x=y):Gx prog w A s O K h L m led env e R y:=q▸g
theorem gx_if {c:Bool}{x:α}(ht:Tst prog w A s h env test c)(h1:c=true→Gx prog w A s O K h L m led env body R x)(h2:¬c=true→Gx prog w A s O K h L m led env orelse R x):Gx prog w A s O K h L m led env (.IfExp test body orelse pos) R x:=
 fun _ _ _ q=>wpAny_IfExp (ht _ _ _ fun _=>if2 (fun e=>h1 e _ _ _ q) fun e=>h2 e _ _ _ q)
theorem tx_g {b:Bool}(g:Gx prog w A s O K h L m led env e rBool b)(he:isTrue e env (eval e env)=(do let v ←eval e env;standAt e.pos;holding [v] (truthy v)):=by rfl):Tx prog w A s O K h L m led env e b:=fun _ _ _ c=>
 wpAny_isTrue_value (g _ _ _ fun K' h' tk' v hK S r=>by
  obtain rfl:v = .bool b:=r
  exact wpAny_truthy_bool (c K' h' tk' hK S)) he
theorem tx_t {b:Bool}(S:St O K L m led h)(t:Tst prog w A s h env e b):Tx prog w A s O K h L m led env e b:=fun _ _ _ c=>t _ _ _ fun tk'=>c K h tk' (Sub.refl _) S
theorem gx_ifx {c:Bool}{x:α}(ht:Tx prog w A s O K h L m led env test c)(h1:c=true→∀K' h',Sub K K'→St O K' L m led h'→Gx prog w A s O K' h' L m led env body R x)(h2:¬c=true→∀K' h',Sub K K'→St O K' L m led h'→Gx prog w A s O K' h' L m led env orelse R x) :
  Gx prog w A s O K h L m led env (.IfExp test body orelse pos) R x:=fun _ _ _ q=>wpAny_IfExp (ht _ _ _ fun K1 h1' tk1 hK S1=>if2
   (fun e=>h1 e K1 h1' hK S1 _ _ _ fun K2 h2 tk2 v hK2 S2 r=>q K2 h2 tk2 v (hK.trans hK2) S2 r) fun e=>h2 e K1 h1' hK S1 _ _ _ fun K2 h2 tk2 v hK2 S2 r=>q K2 h2 tk2 v (hK.trans hK2) S2 r)
theorem tx_and {x y:Expr}{a b:Bool}(p:Tx prog w A s O K h L m led env x a)(q:a=true→∀K' h',Sub K K'→St O K' L m led h'→Tx prog w A s O K' h' L m led env y b):Tx prog w A s O K h L m led env (.BoolOp .And [x,y] pos) (a&&b):=fun _ _ _ c=>
 wpAny_isTrue_BoolOp (wpAny_allTrue_And_cons (p _ _ _ fun K1 h1 tk1 hK1 S1=>by
  cases a
  ·exact ifn (by simp) (c K1 h1 tk1 hK1 S1)
  ·exact ifp rfl (wpAny_allTrue_And_cons (q rfl K1 h1 hK1 S1 _ _ _ fun K2 h2 tk2 hK2 S2=>by
    cases b
    ·exact ifn (by simp) (c K2 h2 tk2 (hK1.trans hK2) S2)
    ·exact ifp rfl (wpAny_allTrue_And_nil (c K2 h2 tk2 (hK1.trans hK2) S2))))))
theorem ints_of {K:Heap}{vs:List Value}{xs:List Int}(x:All2 (rInt.r K) vs xs):IntsAre vs xs:=by
 induction x with
 | nil=>exact .nil
 | cons h _ ih=>obtain⟨t,rfl⟩:=h;exact .cons _ t ih
theorem tx_inT {xs:List Int}(x:Gv prog w A s h K env l rInt a)(g:Gx prog w A s O K h L m led env r (rTup rInt) xs)(hm:behindInMarks .In r=false:=by with_unfolding_all rfl):Tx prog w A s O K h L m led env (.Compare l [.In] [r] pos) (xs.any fun y=>y == a):=fun _ _ _ c=>
 wpAny_isTrue_Compare1 (x _ _ _ fun v _ hv=>g _ _ _ fun K1 h1 tk1 u hK1 S1 hu=>by
  obtain⟨t,rfl⟩:=hv
  obtain⟨ta,tvs,rfl,hta,htx⟩:=hu
  exact in_tuple_ints (s:=sh s h1 _) (items:=tvs.toArray) ⟨_,S1.stays _ _ hta,rfl,0,rfl⟩ (ints_of htx) (wpAny_truthy_bool (c K1 h1 _ hK1 S1))) hm
theorem if_g {b:Bool}{bd ob:List Stmt}{Q:Flow→Shared→Prop}(t:Tst prog w A s h env test b)(h1:b=true→∀tk',wpAny (model prog w) A (execs bd env) Q E (sh s h tk'))(h2:¬b=true→∀tk',wpAny (model prog w) A (execs ob env) Q E (sh s h tk')) :
  wpAny (model prog w) A (execs [.If test bd ob pos] env) Q E (sh s h tk):=if_end (t _ _ _ fun tk'=>if2 (fun e=>h1 e tk') fun e=>h2 e tk')
theorem pt_n:Pt prog w A s h env none none:=fun _ _ _ c=>part_none (c _ _ .none)
theorem pt_i {k:Nat}:Pt prog w A s h env (some (.Constant (.int a) k pos)) (some a):=fun _ _ _ c=>part_int fun t=>c _ _ (.int a t)
theorem gx_slice {lower upper:Option Expr}{p:Pos}{xs:List α}{lo hi:Option Int}(S:St O K L m led h)(g:Gv prog w A s h K env o (rList R) xs)(p1:Pt prog w A s h env lower lo)(p2:Pt prog w A s h env upper hi)(hlen:xs.length≤2 ^ 24)
  (ht:∀o' r,letTemporaryGo o o' r=pure ():=by intro _ _;with_unfolding_all rfl):Gx prog w A s O K h L m led env (.Subscript o (.Slice lower upper none p) pos) (rList R) (pickL xs lo hi none):=fun _ _ _ c=>
 slice_lst (R:=R) (g _ _ _ fun v _ r=>p1 _ _ _ fun _ _ q1=>p2 _ _ _ fun _ _ q2=>⟨O,K,L,m,led,h,_,lo,hi,xs,rfl,S,r,hlen,q1,q2,fun K' h' v hK S' r'=>c K' h' _ v hK S' r'⟩) ht
theorem gx_tail {k:Nat}{p p1:Pos}{xs:List α}(S:St O K L m led h)(g:Gv prog w A s h K env o (rList R) xs)(hlen:xs.length≤2 ^ 24)
  (ht:∀o' r,letTemporaryGo o o' r=pure ():=by intro _ _;with_unfolding_all rfl):Gx prog w A s O K h L m led env (.Subscript o (.Slice (some (.Constant (.int 1) k p1)) none none p) pos) (rList R) (xs.drop 1):=
 gx_eq (gx_slice S g pt_i pt_n hlen ht) (pick_tail xs)
theorem gi_list {k:Nat}{xs:List α}(hA:OkA A k)(g:Gx prog w A s O K h L m led env e (rList R) xs):Gi prog w A s O K h L m led env e R xs:=fun _ _ _ c=>
 g _ _ _ fun K' h' tk' v hK S r=>iter_list hA S r fun I ob h2 S2 src=>c K' h2 tk' I ob hK S2 src
theorem gi_dict {k:Nat}{knd:PySem.KeyKind prog w κ}{xs:List (κ×α)}(hA:OkA A k)(g:Gx prog w A s O K h L m led env e (rDict knd R) xs):Gi prog w A s O K h L m led env e (rKey knd) (xs.map (·.1)):=fun _ _ _ c=>
 g _ _ _ fun K' h' tk' v hK S r=>iter_dict hA S r fun I ob h2 S2 src=>c K' h2 tk' I ob hK S2 src
theorem as_x {rest:List Stmt}{value:Expr}{x:Str}{p:Pos}{y:α}{Q:Flow→Shared→Prop}(i:Nat)(hd:ns.Nodup)(g:Gx prog w A s O K h env.locals (loc ns vs) led env value R y)
  (k:∀K' v h' tk',Sub K K'→R.r K' v y→St O K' env.locals (loc ns (vs.set i (some v))) led h'→wpAny (model prog w) A (execs rest env) Q E (sh s h' tk'))(hx:ns[i]?=some x:=by rfl)(hi:(vs[i]?).isSome=true:=by rfl)
  (hl:env.kindOf x=some .local:=by rfl)(hk:env.scope.kind = .function:=by rfl)(hs:swapsWith value (some (.Name x p)) pos.line env=pure false:=by rfl) :
  wpAny (model prog w) A (execs (.Assign [.Name x p] value pos::rest) env) Q E (sh s h tk):=
 as_st (g _ _ _ fun K' h' tk' v hK S hv=>stn S i hd (fun h' tk' S'=>k K' v h' tk' hK hv S') hx hi hl hk) hs
theorem for_x {rest body:List Stmt}{target iter:Expr}{xs:List α}{Qf:Flow→Shared→Prop}(g:Gi prog w A s O K h env.locals m led env iter R xs)
  (J:Nat→Heap→(Str→Option Value)→List (Addr×Obj)→Prop)(hJ:∀K',Sub K K'→J 0 K' m led)
  (turn:∀i a v K1 m1 led1 h1 tk1 I ob1 E' (Q':Flow→Shared→Prop),xs[i]?=some a→R.r K1 v a→Sub K K1→J i K1 m1 led1→St O K1 env.locals m1 ((I,ob1)::led1) h1→
   (∀K' m' led' h' tk',Sub K1 K'→J (i+1) K' m' led'→St O K' env.locals m' ((I,ob1)::led') h'→Q' .next (sh s h' tk'))→
   wpAny (model prog w) A (assign target env v) (fun _ s2=>wpAny (model prog w) A (execs body env) Q' E' s2) E' (sh s h1 tk1))
  (done:∀K1 m1 led1 h1 tk1,Sub K K1→J xs.length K1 m1 led1→St O K1 env.locals m1 led1 h1→wpAny (model prog w) A (execs rest env) Qf E (sh s h1 tk1))
  (hs:∀x,foldedSetIterable iter env x=pure x:=by intro _;rfl)(ht:∀I v,letOwnedTupleGo target (.ref I) v=pure ():=by intro _ _;rfl) :
  wpAny (model prog w) A (execs (.For target iter body [] pos::rest) env) Qf E (sh s h tk):=
 for_st (g _ _ _ fun K' h' tk' I ob hK S2 src=>for_go S2 src J (hJ K' hK) (fun i a v K1 m1 led1 h1 tk1 ob1 E' Q' a1 a2 a3=>turn i a v K1 m1 led1 h1 tk1 I ob1 E' Q' a1 a2 (hK.trans a3))
  (fun K1 m1 led1 h1 tk1 a1=>done K1 m1 led1 h1 tk1 (hK.trans a1)) (ht I)) hs
theorem for_t {rest body:List Stmt}{iter:Expr}{x1 x2:Str}{p1 p2 pt:Pos}{nn:Nat}{xs:List α}{Qf:Flow→Shared→Prop}(g:Gi prog w A s O K h env.locals m led env iter R xs)
  (J:Nat→Heap→(Str→Option Value)→List (Addr×Obj)→Prop)(hJ:∀K',Sub K K'→J 0 K' m led)(htup:∀K v a,R.r K v a→∃T b c,v = .ref T∧K.get? T=some (tu #[b,c]))
  (turn:∀i a T b c K1 m1 led1 h1 tk1 I ob1 E' (Q':Flow→Shared→Prop),xs[i]?=some a→R.r K1 (.ref T) a→K1.get? T=some (tu #[b,c])→Sub K K1→J i K1 m1 led1→St O K1 env.locals m1 ((I,ob1)::led1) h1→
   (∀K' m' led' h' tk',Sub K1 K'→J (i+1) K' m' led'→St O K' env.locals m' ((I,ob1)::led') h'→Q' .next (sh s h' tk'))→
   wpAny (model prog w) A (assign (.Tuple [.Name x1 p1,.Name x2 p2] nn pt) env (.ref T)) (fun _ s2=>wpAny (model prog w) A (execs body env) Q' E' s2) E' (sh s h1 tk1))
  (done:∀K1 m1 led1 h1 tk1,Sub K K1→J xs.length K1 m1 led1→St O K1 env.locals m1 led1 h1→wpAny (model prog w) A (execs rest env) Qf E (sh s h1 tk1))
  (hs:∀x,foldedSetIterable iter env x=pure x:=by intro _;rfl) :
  wpAny (model prog w) A (execs (.For (.Tuple [.Name x1 p1,.Name x2 p2] nn pt) iter body [] pos::rest) env) Qf E (sh s h tk):=
 for_st (g _ _ _ fun K' h' tk' I ob hK S2 src=>for_goT S2 src J (hJ K' hK) htup (fun i a T b c K1 m1 led1 h1 tk1 ob1 E' Q' a1 a2 a3 a4 a5 a6 a7 _=>turn i a T b c K1 m1 led1 h1 tk1 I ob1 E' Q' a1 a2 a3 (hK.trans a4) a5 a6 a7)
  (fun K1 m1 led1 h1 tk1 a1=>done K1 m1 led1 h1 tk1 (hK.trans a1))) hs
theorem as_newl {rest:List Stmt}{x:Str}{p p2:Pos}{Q:Flow→Shared→Prop}(S:St O K env.locals (loc ns vs) led h)(i:Nat)(hd:ns.Nodup)
  (k:∀D h' tk',O.B.objs.size≤D→St O K env.locals (loc ns (vs.set i (some (.ref D)))) ((D,lo ([]:List Value).toArray 0)::led) h'→wpAny (model prog w) A (execs rest env) Q E (sh s h' tk'))(hx:ns[i]?=some x:=by rfl)(hi:(vs[i]?).isSome=true:=by rfl)
  (hl:env.kindOf x=some .local:=by rfl)(hk:env.scope.kind = .function:=by rfl)(hs:swapsWith (.List [] p2) (some (.Name x p)) pos.line env=pure false:=by rfl) :
  wpAny (model prog w) A (execs (.Assign [.Name x p] (.List [] p2) pos::rest) env) Q E (sh s h tk):=
 as_st (list_new S fun h1 S1=>stn S1 i hd (fun h' tk' S'=>k _ h' tk' S.sizeB S') hx hi hl hk) hs
theorem set_x {rest:List Stmt}{knd:PySem.KeyKind prog w κ}{RK:Rel κ}{D:Addr}{ob:Obj}{kvs:List (κ×Value)}{k:κ}{y:α}{value:Expr}{p:Pos}{Q:Flow→Shared→Prop}(i:Nat)(hi:led[i]?=some (D,ob))(hdo:dictO knd ob kvs)(hlen:kvs.length≤sizeLine)
  (g:Gx prog w A s O K h L m led env value R y)(d:∀K' h',Sub K K'→St O K' L m led h'→Gv prog w A s h' K' env l rVal (.ref D))(x:∀K' h',Sub K K'→St O K' L m led h'→Gv prog w A s h' K' env r RK k)(hkey:∀K v,RK.r K v k→knd.is k v=true)
  (c:∀K' o' v h' tk',Sub K K'→R.r K' v y→dictO knd o' (stored kvs k v)→St O K' L m (led.set i (D,o')) h'→wpAny (model prog w) A (execs rest env) Q E (sh s h' tk'))
  (hs:swapsWith value (some (.Subscript l r p)) pos.line env=pure false:=by rfl):wpAny (model prog w) A (execs (.Assign [.Subscript l r p] value pos::rest) env) Q E (sh s h tk):=
 wpAny_execs_cons (wpAny_Assign_Subscript (g _ _ _ fun K1 h1 _ v hK S1 hv=>d K1 h1 hK S1 _ _ _ fun u _ hu=>x K1 h1 hK S1 _ _ _ fun kv _ hk=>by
  obtain rfl:u = .ref D:=hu
  exact set_dict S1 i hi hdo (hkey _ _ hk) hlen fun o' h' tk' hdo' S'=>c K1 o' v h' tk' hK hv hdo' S') hs)
theorem as_n {x:Str}{p:Pos}{v:Value}{Q:Unit→Shared→Prop}(S:St O K env.locals (loc ns vs) led h)(i:Nat)(hd:ns.Nodup)(k:∀h' tk',St O K env.locals (loc ns (vs.set i (some v))) led h'→Q () (sh s h' tk'))
  (hx:ns[i]?=some x:=by rfl)(hi:(vs[i]?).isSome=true:=by rfl)(hl:env.kindOf x=some .local:=by rfl)(hk:env.scope.kind = .function:=by rfl):wpAny (model prog w) A (assign (.Name x p) env v) Q E (sh s h tk):=
 wpAny_assign_Name (stn S i hd k hx hi hl hk)
noncomputable def Gl (prog:Program)(w:World)(A:Around)(s:Shared)(O:Org)(K h:Heap)(L:Addr)(m:Str→Option Value)(led:List (Addr×Obj))(env:Env)(pos:Pos)(es:List Expr){α:Type}(R:Rel α)(xs:List α):Prop:=
 ∀(E:Value→Shared→Prop) (tk:Nat) (Q:List Value→Shared→Prop),(∀K' h' tk' vs,Sub K K'→St O K' L m led h'→All2 (R.r K') vs xs→Q vs (sh s h' tk'))→wpAny (model prog w) A (spliced (backTo pos (starEach es env))) Q E (sh s h tk)
theorem gl_nil (S:St O K L m led h):Gl prog w A s O K h L m led env pos [] R []:=fun _ _ _ c=>args_nil (c K h _ [] (Sub.refl _) S .nil)
theorem gl_cons {es:List Expr}{x:α}{xs:List α}(g:Gx prog w A s O K h L m led env e R x)(rest:∀K' h',Sub K K'→St O K' L m led h'→Gl prog w A s O K' h' L m led env pos es R xs)
  (he:starEach (e::es) env=(false,eval e env)::starEach es env:=by rfl):Gl prog w A s O K h L m led env pos (e::es) R (x::xs):=fun _ _ _ c=>
 args_cons (g _ _ _ fun K1 h1 tk1 v hK S1 r=>rest K1 h1 hK S1 _ _ _ fun K2 h2 tk2 vs hK2 S2 hx=>c K2 h2 tk2 (v::vs) (hK.trans hK2) S2 (.cons (R.mono hK2 r) hx)) he
theorem gl_v {es:List Expr}{x:α}{xs:List α}(g:Gv prog w A s h K env e R x)(rest:Gl prog w A s O K h L m led env pos es R xs)
  (he:starEach (e::es) env=(false,eval e env)::starEach es env:=by rfl):Gl prog w A s O K h L m led env pos (e::es) R (x::xs):=fun _ _ _ c=>
 args_cons (g _ _ _ fun v tk1 r=>rest _ _ _ fun K2 h2 tk2 vs hK2 S2 hx=>c K2 h2 tk2 (v::vs) hK2 S2 (.cons (R.mono hK2 r) hx)) he
theorem gx_tup {es:List Expr}{n:Nat}{xs:List α}(g:Gl prog w A s O K h L m led env pos es R xs)(hlen:xs.length≤1000):Gx prog w A s O K h L m led env (.Tuple es n pos) (rTup R) xs:=fun _ _ _ c=>
 tup_lit (R:=R) (g _ _ _ fun K' h' tk' vs hK S hx=>⟨O,K',L,m,led,h',tk',xs,rfl,S,hx,hlen,fun K2 h2 v hK2 S2 r=>c K2 h2 tk' v (hK.trans hK2) S2 r⟩)
theorem gx_tat {xs:List α}{y:α}{j:Nat}(g:Gx prog w A s O K h L m led env l (rTup R) xs)(x:∀K' h',Sub K K'→St O K' L m led h'→Gv prog w A s h' K' env r rInt a)(hj:seqIndex? a xs.length=some j)(hlo:-(2 ^ 63)≤a)(hhi:a<2 ^ 63)(hy:xs[j]?=some y)
  (hs:∀D key,subscripted r false (.ref D) key=operate [.ref D,key] (getItem (.ref D) key):=by intro _ _;with_unfolding_all rfl):Gx prog w A s O K h L m led env (.Subscript l r pos) R y:=fun _ _ _ c=>Subscript_ (g _ _ _ fun K1 h1 _ u hK1 S1 hu=>x K1 h1 hK1 S1 _ _ _ fun kv _ hk=>by
 obtain⟨t,rfl⟩:=hk
 obtain⟨aa,us,rfl,ha,hx⟩:=hu
 obtain⟨z,hz,hr⟩:=hx.get hy
 exact item_tuT S1 ha (by rw [hx.length];exact hj) hlo hhi hz (c K1 h1 _ z hK1 S1 hr) (hs _ _))
theorem gi_tup {k:Nat}{xs:List α}(hA:OkA A k)(g:Gx prog w A s O K h L m led env e (rTup R) xs):Gi prog w A s O K h L m led env e R xs:=fun _ _ _ c=>
 g _ _ _ fun K' h' tk' v hK S r=>iter_tup hA S r fun I ob h2 S2 src=>c K' h2 tk' I ob hK S2 src
theorem gx_tup2 {e1 e2:Expr}{n:Nat}{x:α}{y:β}(g1:Gx prog w A s O K h L m led env e1 R x)(g2:∀K' h',Sub K K'→St O K' L m led h'→Gx prog w A s O K' h' L m led env e2 R' y)
  (he1:starEach [e1,e2] env=(false,eval e1 env)::starEach [e2] env:=by rfl)(he2:starEach [e2] env=(false,eval e2 env)::starEach [] env:=by rfl):Gx prog w A s O K h L m led env (.Tuple [e1,e2] n pos) (rTup2 R R') (x,y):=fun _ _ _ c=>
 tup2_lit (R:=R) (R':=R') (g1 _ _ _ fun K1 h1 _ a hK1 S1 ra=>g2 K1 h1 hK1 S1 _ _ _ fun K2 h2 tk2 b hK2 S2 rb=>⟨O,K2,L,m,led,h2,tk2,x,y,rfl,S2,R.mono hK2 ra,rb,fun K3 h3 v hK3 S3 r=>c K3 h3 tk2 v ((hK1.trans hK2).trans hK3) S3 r⟩) he1 he2
theorem gv_c {x:Str}{c:Addr}{ob:Obj}{v:Value}{y:α}(hh:h.get? c=some ob)(ho:ob.data = .cell (some v))(q:R.r K v y)(hc:env.cells.lookup x=some c:=by rfl)(hl:env.kindOf x=some .cell:=by rfl)(hk:env.scope.kind = .function:=by rfl)(hdb:(x == ("__debug__" : Str))=false:=by rfl) :
  Gv prog w A s h K env (.Name x pos) R y:=fun _ tk _ c'=>wpAny_Name (wpAny_loadName_cell hk hl hc ⟨ob,hh,ho⟩ (c' v tk q)) hdb
theorem hold_of {I:Addr}{ob:Obj}{K' h':Heap}(S:St O K' L m ((I,ob)::led) h'):∀q∈led,(butI h' I).get? q.1=some q.2:=fun q hq=>by
 have hnd:=S.nodup
 rw [map_cons,nodup_cons] at hnd
 rw [butI_get,if_neg fun e=>hnd.1 (mem_map.mpr ⟨q,hq,e⟩)]
 exact (S.ledg q (mem_cons_of_mem _ hq)).1
theorem gx_comp0 {iter elt:Expr}{x:Str}{px:Pos}{scope:Scope}{cl:List (Str×Addr)}{xs:List α}(f:α→β)(hclos:closureFor scope env=pure cl)(gi:Gi prog w A s O K h L m led env iter R xs)(hlen:xs.length≤2 ^ 24)
  (he:∀B0 a v K1 C led1 h1,a∈xs→R.r K1 v a→Sub K K1→(∀q∈led,B0.B.get? q.1=some q.2)→St B0 K1 C (lc1 x (some v)) led1 h1→Gx prog w A s B0 K1 h1 C (lc1 x (some v)) led1 (compEnvC scope cl C env) elt R' (f a))
  (hcell:∀y∈scope.names,y.2 ≠ .cell:=by decide)(hkind:scope.kind = .function:=by rfl)
  (hnames:∀y∈scope.names,y.2 = .local→scope.names.lookup y.1=some .local:=by decide)(hx:scope.names.lookup x=some .local:=by decide)(hs:∀x,foldedSetIterable iter env x=pure x:=by intro _;rfl) :
  Gx prog w A s O K h L m led env (.ListComp elt [⟨.Name x px,iter,[],0⟩] scope pos) (rList R') (xs.map f):=fun _ _ _ c=>
 comp_list (Ra:=R) (Rb:=R') (fun _=>true) f hclos hcell hkind hnames hx (gi _ _ _ fun K' h' tk' I ob hK S src=>⟨O,K',L,m,led,I,ob,h',tk',xs,rfl,rfl,hlen,S,src,
  ⟨fun a v K1 C led1 h1 tk1 Q' E' _ _ _ _ S1 q=>tests0 (q K1 h1 tk1 (Sub.refl _) S1),fun a v K1 C led1 h1 tk1 Q' E' ha _ r hK1 _ S1 q=>he _ a v K1 C led1 h1 ha r (hK.trans hK1) (hold_of S) S1 _ _ _ fun K2 h2 tk2 y hK2 S2 ry=>q y K2 h2 tk2 hK2 S2 ry⟩,
  fun v K2 h2 tk2 S2 hK2 hv=>c K2 h2 tk2 v (hK.trans hK2) S2 (by rw [filter_eq_self.mpr (fun _ _=>rfl)] at hv;exact hv)⟩) hs
theorem gx_comp1 {iter elt cnd:Expr}{x:Str}{px:Pos}{scope:Scope}{cl:List (Str×Addr)}{xs:List α}(p:α→Bool)(f:α→β)(hclos:closureFor scope env=pure cl)(gi:Gi prog w A s O K h L m led env iter R xs)(hlen:xs.length≤2 ^ 24)
  (ht:∀B0 a v K1 C led1 h1,a∈xs→R.r K1 v a→Sub K K1→(∀q∈led,B0.B.get? q.1=some q.2)→St B0 K1 C (lc1 x (some v)) led1 h1→Tx prog w A s B0 K1 h1 C (lc1 x (some v)) led1 (compEnvC scope cl C env) cnd (p a))
  (he:∀B0 a v K1 C led1 h1,a∈xs→p a=true→R.r K1 v a→Sub K K1→(∀q∈led,B0.B.get? q.1=some q.2)→St B0 K1 C (lc1 x (some v)) led1 h1→Gx prog w A s B0 K1 h1 C (lc1 x (some v)) led1 (compEnvC scope cl C env) elt R' (f a))
  (hcell:∀y∈scope.names,y.2 ≠ .cell:=by decide)(hkind:scope.kind = .function:=by rfl)
  (hnames:∀y∈scope.names,y.2 = .local→scope.names.lookup y.1=some .local:=by decide)(hx:scope.names.lookup x=some .local:=by decide)(hs:∀x,foldedSetIterable iter env x=pure x:=by intro _;rfl) :
  Gx prog w A s O K h L m led env (.ListComp elt [⟨.Name x px,iter,[cnd],0⟩] scope pos) (rList R') ((xs.filter p).map f):=fun _ _ _ c=>
 comp_list (Ra:=R) (Rb:=R') p f hclos hcell hkind hnames hx (gi _ _ _ fun K' h' tk' I ob hK S src=>⟨O,K',L,m,led,I,ob,h',tk',xs,rfl,rfl,hlen,S,src,
  ⟨fun a v K1 C led1 h1 tk1 Q' E' ha r hK1 _ S1 q=>tests1 (ht _ a v K1 C led1 h1 ha r (hK.trans hK1) (hold_of S) S1 _ _ _ fun K2 h2 tk2 hK2 S2=>q K2 h2 tk2 hK2 S2),
   fun a v K1 C led1 h1 tk1 Q' E' ha hp r hK1 _ S1 q=>he _ a v K1 C led1 h1 ha hp r (hK.trans hK1) (hold_of S) S1 _ _ _ fun K2 h2 tk2 y hK2 S2 ry=>q y K2 h2 tk2 hK2 S2 ry⟩,
  fun v K2 h2 tk2 S2 hK2 hv=>c K2 h2 tk2 v (hK.trans hK2) S2 hv⟩) hs
theorem St.freezeL {us:List Value}{D:Addr}{n:Nat}{xs:List α}(S:St O K L m ((D,lo us.toArray n)::led) h)(hlow:O.B.objs.size≤D)(hx:All2 (R.r K) us xs):∃K',Sub K K'∧St O K' L m led h∧(rList R).r K' (.ref D) xs:=by
 obtain⟨K',hK',S',hfr⟩:=S.freeze led (sublist_cons_self ..)
 refine⟨K',hK',S',D,us,n,rfl,hfr D _ (S.at 0 rfl) hlow (S.ledg _ mem_cons_self).2.1 ?_,hx.imp fun _ _ q=>R.mono hK' q⟩
 have:=S.nodup
 rw [map_cons,nodup_cons] at this
 exact this.1
noncomputable def Gc (prog:Program)(w:World)(A:Around)(s:Shared)(K h:Heap)(f:Addr)(vs:List Value){α:Type}(R:Rel α)(x:α):Prop:=
 ∀(E:Value→Shared→Prop) (tk:Nat) (Q:Value→Shared→Prop),(∀K' h' tk' v,Grow K h K' h'→R.r K' v x→Q v (sh s h' tk'))→wpAny (model prog w) A (call (.ref f) vs) Q E (sh s h tk)
theorem gx_call1 {f:Addr}{n:Str}{np:Pos}{params:Arguments}{bd:List Stmt}{sc:Scope}{x:β}{y:α}(B:Mod base)(hb:Sub base K)(hK0:Sub K h)(F:FnAt base f params bd sc)(g:Gx prog w A s O K h L m led env e R' x)
  (hc:∀K' h' v,Sub K K'→Sub K' h'→R'.r K' v x→Gc prog w A s K' h' f [v] R y)(hm:(n,f)∈gRef:=by simp [gRef])
  (hg:env.globals=mainGlobals:=by rfl)(hl:env.kindOf n=some .globalImplicit:=by rfl)(hk:env.scope.kind = .function:=by rfl)(hdb:(n == ("__debug__" : Str))=false:=by rfl)
  (hcall:eval (.Call (.Name n np) [e] [] pos) env=(do callWith pos (←eval (.Name n np) env) [] (backTo pos (starEach [e] env)) (backToKw pos (keywordEach [] env))):=by rfl)
  (he:starEach [e] env=(false,eval e env)::starEach [] env:=by rfl):Gx prog w A s O K h L m led env (.Call (.Name n np) [e] [] pos) R y:=fun _ _ _ c=>
 Call_ (gl_ref B (hb.trans hK0) (cw_fn F (args_cons (g _ _ _ fun K1 h1 tk1 v hK S1 r=>args_nil ⟨(hb.trans hK).trans S1.stays,hc K1 h1 v hK S1.stays r _ _ _ fun K2 h2 tk2 u G q=>c K2 h2 tk2 u (hK.trans G.kk) (S1.grow G) q⟩) he) he) hm hg hl hk hdb) hcall
theorem gx_call2 {γ:Type}{R'':Rel γ}{e2:Expr}{f:Addr}{n:Str}{np:Pos}{params:Arguments}{bd:List Stmt}{sc:Scope}{x:β}{z:γ}{y:α}(B:Mod base)(hb:Sub base K)(hK0:Sub K h)(F:FnAt base f params bd sc)(g:Gx prog w A s O K h L m led env e R' x)
  (g2:∀K' h',Sub K K'→St O K' L m led h'→Gx prog w A s O K' h' L m led env e2 R'' z)
  (hc:∀K' h' v u,Sub K K'→Sub K' h'→R'.r K' v x→R''.r K' u z→Gc prog w A s K' h' f [v,u] R y)(hm:(n,f)∈gRef:=by simp [gRef])
  (hg:env.globals=mainGlobals:=by rfl)(hl:env.kindOf n=some .globalImplicit:=by rfl)(hk:env.scope.kind = .function:=by rfl)(hdb:(n == ("__debug__" : Str))=false:=by rfl)
  (hcall:eval (.Call (.Name n np) [e,e2] [] pos) env=(do callWith pos (←eval (.Name n np) env) [] (backTo pos (starEach [e,e2] env)) (backToKw pos (keywordEach [] env))):=by rfl)
  (he:starEach [e,e2] env=(false,eval e env)::starEach [e2] env:=by rfl)(he2:starEach [e2] env=(false,eval e2 env)::starEach [] env:=by rfl):Gx prog w A s O K h L m led env (.Call (.Name n np) [e,e2] [] pos) R y:=fun _ _ _ c=>
 Call_ (gl_ref B (hb.trans hK0) (cw_fn F (args_cons (g _ _ _ fun K1 h1 tk1 v hK S1 r=>args_cons (g2 K1 h1 hK S1 _ _ _ fun K2 h2 tk2 u hK2 S2 r2=>args_nil ⟨((hb.trans hK).trans hK2).trans S2.stays,hc K2 h2 v u (hK.trans hK2) S2.stays (R'.mono hK2 r) r2 _ _ _ fun K3 h3 tk3 x3 G q=>c K3 h3 tk3 x3 ((hK.trans hK2).trans G.kk) (S2.grow G) q⟩) he2) he) he) hm hg hl hk hdb) hcall
theorem gx_list {es:List Expr}{xs:List α}(g:Gl prog w A s O K h L m led env pos es R xs)(hlen:xs.length≤1000):Gx prog w A s O K h L m led env (.List es pos) (rList R) xs:=fun _ _ _ c=>
 list_lit (R:=R) (g _ _ _ fun K' h' tk' vs hK S hx=>⟨O,K',L,m,led,h',tk',xs,rfl,S,hx,hlen,fun K2 h2 v hK2 S2 r=>c K2 h2 tk' v (hK.trans hK2) S2 r⟩)
end
end Mine
namespace Mine
noncomputable def myN:List Str:=["rules","many","rule","ways","symbol"]
theorem myN_nd:myN.Nodup:=by decide
section
abbrev enM (q:Str)(L:Addr)(cd:Value):Env:=en q (scopeOf (stA 69)) L 140 cd []
theorem many_length (rules:List (List Int)):(manyOf rules).length≤rules.length:=by
 have:∀(rs:List (List Int)) (T0:List (Int×Int)),(rs.foldl manyStep T0).length≤T0.length+rs.length:=by
  intro rs
  induction rs with
  | nil=>intro T0;simp
  | cons a b ih=>
   intro T0
   have h1:=ih (manyStep T0 a)
   have h2:=putD_length T0 (a.headD 0) (match lookD T0 (a.headD 0) with|some v=>v+waysOf T0 (a.drop 1)|none=>waysOf T0 (a.drop 1))
   rw [foldl_cons,length_cons]
   have h3:(manyStep T0 a).length≤T0.length+1:=h2
   exact lp [_,_,_,_] [(zA,.add zB zC),(zB,su zD)] zA (.add zD (su zC)) rfl h1 h3
 have:=this rules []
 rw [length_nil,Nat.zero_add] at this
 exact this
inductive MyJ (prog:Program)(w:World)(v:Value)(D:Addr)(rules:List (List Int)):Nat→Heap→(Str→Option Value)→List (Addr×Obj)→Prop
 | mk (i:Nat) (K:Heap) (o:Obj) (x y z:Option Value) (kvs:List (Int×Value)):dictO (intKind prog w) o kvs→All2 (PR (rInt.r K)) kvs (manyOf (rules.take i))→MyJ prog w v D rules i K (loc myN [some v,some (.ref D),x,y,z]) [(D,o)]
inductive MyJ2 (v rv:Value)(D I:Addr)(o ob:Obj)(T:List (Int×Int))(row:List Int):Nat→Heap→(Str→Option Value)→List (Addr×Obj)→Prop
 | mk (j:Nat) (K:Heap) (u:Value) (z:Option Value):rInt.r K u (waysOf T (row.take j))→MyJ2 v rv D I o ob T row j K (loc myN [some v,some (.ref D),some rv,some u,z]) [(I,ob),(D,o)]
theorem ways_step {T:List (Int×Int)}{row:List Int}{j:Nat}{x:Int}(hj:row[j]?=some x):waysOf T (row.take j)*symW T x=waysOf T (row.take (j+1)):=by
 unfold waysOf
 rw [take_add_one,hj]
 simp [foldl_append]
theorem many_call {k:Nat}{v:Value}{rules:List (List Int)}{Q:Value→Shared→Prop}{a b c':Int}(B:Mod base)(hb:Sub base K)(hs:Sub K h)(hA:OkA A (k+1))(r:(rList (rList rInt)).r K v rules)(ok:ManyOk rules)
  (ha:lookD (manyOf rules) 256=some a)(hb':lookD (manyOf rules) 257=some b)(hc:lookD (manyOf rules) 258=some c')
  (c:∀K' h' tk' v,Grow K h K' h'→(rList rInt).r K' v [a,b,c']→Q v (sh s h' tk')):wpAny (model prog w) A (call (.ref 140) [v]) Q E (sh s h tk):=by
 refine call_fn (k:=k) ["rules"] ["many","rule","ways","symbol"] [none,none,none,none] hA ((B.fns (140,69) (by decide)).sub (hb.trans hs)) (B.nolimit.keeps (hb.trans hs)) hs (fun _ _ _ _ _=>rfl) rfl (by decide) (by simp) (by decide) (by decide) (by decide) (fun A' h₀ tk₀ q L cd hA' S=>?_)
 replace S:St ⟨h,K⟩ K (enM q L cd).locals (loc myN [some v,none,none,none,none]) [] h₀:=S
 refine hide fun Q0 fin0=>?_
 replace c:∀K' h' tk' v,Grow K h K' h'→(rList rInt).r K' v [a,b,c']→Q0 (.ret v) (sh s h' tk'):=fun K' h' tk' v g r=>fin0 _ _ (c K' h' tk' v g r)
 clear fin0
 refine as_st (dict_new B (hb.trans S.stays) S fun D hD hlow hsys SD=>stn SD 1 myN_nd fun h1 tk1 S1=>?_)
 clear S SD
 refine for_st (ld S1 0 myN_nd (iter_list hA' S1 r fun I ob h2 S2 src=>?_))
 refine for_go S2 src (MyJ prog w v D rules) (.mk 0 _ _ _ _ _ [] (dictO_empty _) .nil) ?_ ?_
 ·clear S1 S2 src c
  intro i rl rv K1 m1 led1 h3 tk3 ob1 E' Q1 hi hrl hK1 hq1 S3 next
  obtain⟨o,x,y,z,kvs,hdo,hx⟩:=hq1
  refine wpAny_assign_Name (stn S3 2 myN_nd fun h4 tk4 S4=>?_)
  refine as_v S4 3 myN_nd gv_i fun v1 h5 tk5 rv1 S5=>?_
  clear S3 S4
  have okr:=ok.row rl (mem_of_getElem? hi)
  have okw:=ok.ways i rl hi
  have hlen:kvs.length≤sizeLine:=by
   have h1:=hx.length
   have h2:=many_length (rules.take i)
   rw [length_take] at h2
   have h4:=ok.len
   show kvs.length≤2 ^ 24
   exact lp [_,_,_,_] [(zA,zB),(zB,zC),(zD,.num 1048576),(zC,zD)] zA (.num 16777216) rfl (eqL h1) h2 h4 (Nat.min_le_right _ _)
  have estep:manyStep (manyOf (rules.take i)) rl=manyOf (rules.take (i+1)):=by
   rw [take_add_one,hi]
   simp [manyOf,foldl_append]
  refine for_st (slice_lst (R:=rInt) (ld S5 2 myN_nd (part_int fun t1=>part_none ⟨_,_,_,_,_,_,_,_,_,rl,rfl,S5,hrl,by have:=okr.2;exact lp [_] [(zA,.num 1048576)] zA (.num 16777216) rfl this,.int 1 t1,.none,fun K6 h6 v6 hK6 S6 hv6=>?_⟩)))
  refine iter_list hA' S6 (pick_tail rl▸hv6) fun I2 ob2 h7 S7 src2=>?_
  have hx6:All2 (PR (rInt.r K6)) kvs (manyOf (rules.take i)):=hx.imp fun _ _ q=>⟨q.1,rInt.mono hK6 q.2⟩
  clear S5 S6 hv6 hx
  refine for_go S7 src2 (MyJ2 v rv D I o ob1 (manyOf (rules.take i)) (rl.drop 1)) (.mk 0 _ _ _ (rInt.mono hK6 rv1)) ?_ ?_
  ·clear S7 src2 next estep
   intro j x xv K8 m8 led8 h8 tk8 ob8 E8 Q2 hj hxv hK8 hq2 S8 next
   obtain⟨u8,z8,ru⟩:=hq2
   obtain⟨hb1,hb2⟩:=okw j x hj
   refine wpAny_assign_Name (stn S8 4 myN_nd fun h9 tk9 S9=>?_)
   clear S8
   refine as_v S9 3 myN_nd (gv_eq (gv_mul (gv_n S9 3 myN_nd ru) (gv_if (x:=symW (manyOf (rules.take i)) x) (ts_gt (gv_n S9 4 myN_nd hxv) gv_i) (fun hgt=>?_) fun hgt=>?_) (.of_left (bits_small hb1.1 hb1.2))) (ways_step hj)) fun v10 h10 tk10 r10 S10=>?_
   ·obtain⟨u,hu⟩:=hb2 (of_decide_eq_true hgt)
    obtain⟨v1,a1,hv1,ha1,hr1⟩:=(pr_look hx6 x).resolve_left fun q=>nomatch hu.symm.trans q.2
    exact gv_eq (gv_dct (gv_n S9 1 myN_nd rfl) (gv_n S9 4 myN_nd hxv) (S9.at 2 rfl) hdo int_key hv1 (rInt.mono hK8 hr1)) (by unfold symW;rw [if_pos (of_decide_eq_true hgt),ha1];rfl)
   ·exact gv_eq gv_i (by unfold symW;rw [if_neg fun q=>hgt (decide_eq_true q)])
   ·exact wpAny_execs_nil (next K8 _ _ h10 tk10 (Sub.refl _) (.mk (j+1) K8 _ _ r10) S10)
  ·intro K8 m8 led8 h8 tk8 hK8 hq2 S8
   obtain⟨u8,z8,ru⟩:=hq2
   rw [take_length] at ru
   clear S7 src2 okw
   have hrl8:=(rList rInt).mono (hK6.trans hK8) hrl
   have hx8:All2 (PR (rInt.r K8)) kvs (manyOf (rules.take i)):=hx6.imp fun _ _ q=>⟨q.1,rInt.mono hK8 q.2⟩
   clear hx6 hrl
   obtain⟨hd,tl,rfl⟩:∃hd tl,rl=hd::tl:=by
    cases rl with
    | nil=>exact absurd rfl okr.1
    | cons a b=>exact⟨a,b,rfl⟩
   have g0:∀{p1 p2 p3:Pos} {k:Nat},Gv prog w A' s h8 K8 (enM q L cd) (.Subscript (.Name "rule" p1) (.Constant (.int 0) k p2) p3) rInt hd:=gv_lst S8.stays (gv_n S8 2 myN_nd hrl8) gv_i (by decide) (by decide) rfl
   have gm:∀{p:Pos},Gv prog w A' s h8 K8 (enM q L cd) (.Name "many" p) rVal (.ref D):=gv_n S8 1 myN_nd rfl
   have gw:∀{p:Pos},Gv prog w A' s h8 K8 (enM q L cd) (.Name "ways" p) rInt (waysOf (manyOf (rules.take i)) tl):=gv_n S8 3 myN_nd ru
   have hD8:=S8.at 1 rfl
   refine set_v (R:=rInt) S8 1 rfl hdo hlen (y:=match lookD (manyOf (rules.take i)) hd with|some v=>v+waysOf (manyOf (rules.take i)) tl|none=>waysOf (manyOf (rules.take i)) tl) (gv_if (ts_in g0 gm hD8 hdo hsys int_key) (fun e=>?_) fun e=>?_) gm g0 int_key fun o' v' h10 tk10 rv' hdo' S10=>?_
   ·rcases pr_look hx8 hd with ⟨hv0,hf⟩|⟨v1,old,hv0,hf,hr⟩
    ·rw [hv0] at e;cases e
    ·exact gv_eq (gv_add (gv_dct gm g0 hD8 hdo int_key hv0 hr) gw) (by rw [hf])
   ·rcases pr_look hx8 hd with ⟨hv0,hf⟩|⟨v1,old,hv0,hf,hr⟩
    ·exact gv_eq gw (by rw [hf])
    ·rw [hv0] at e;exact absurd rfl e
   ·exact wpAny_execs_nil (next K8 _ _ h10 tk10 (hK6.trans hK8) (.mk (i+1) K8 o' _ _ _ _ hdo' (estep▸pr_put hx8 hd rv')) S10)
 ·intro K1 m1 led1 h3 tk3 hK1 hq1 S3
  obtain⟨o,x,y,z,kvs,hdo,hx⟩:=hq1
  rw [take_length] at hx
  have item:∀{n:Int} {u:Int} {p1 p2 p3:Pos} {k:Nat},lookD (manyOf rules) n=some u→Gv prog w A' s h3 K1 (enM q L cd) (.Subscript (.Name "many" p1) (.Constant (.int n) k p2) p3) rInt u:=fun {n u _ _ _ _} e=>by
   obtain⟨v1,a1,hv1,ha1,hr1⟩:=(pr_look hx n).resolve_left fun q=>nomatch e.symm.trans q.2
   obtain rfl:u=a1:=Option.some.inj (e.symm.trans ha1)
   exact gv_dct (gv_n S3 1 myN_nd rfl) gv_i (S3.at 0 rfl) hdo int_key hv1 hr1
  refine ret_st (list_lit (R:=rInt) (args_cons (item ha _ _ _ fun v1 _ r1=>args_cons (item hb' _ _ _ fun v2 _ r2=>args_cons (item hc _ _ _ fun v3 _ r3=>args_nil ?_)))))
  exact⟨_,K1,_,_,_,h3,_,[a,b,c'],rfl,S3,.cons r1 (.cons r2 (.cons r3 .nil)),by simp,fun K2 h4 v4 hK2 S4 hv4=>c K2 h4 _ v4 S4.tail.toGrow hv4⟩
end
end Mine
namespace Mine
noncomputable def mulRow (m:DS)(p:Str×Int)(f:DS):DS:=f.foldl (fun m q=>addD m [(p.1++q.1,p.2*q.2)]) m
noncomputable def mulD (t f:DS):DS:=t.foldl (fun m p=>mulRow m p f) []
noncomputable def followD (sp:List (Int×Str))(T:List (Int×DS))(x:Int):DS:=if x<256 then [((lookD sp x).getD ⟨#[]⟩,1)] else (lookD T x).getD []
noncomputable def ruleD (sp:List (Int×Str))(T:List (Int×DS))(tl:List Int):DS:=tl.foldl (fun t x=>mulD t (followD sp T x)) [("",1)]
noncomputable def tabStep (sp:List (Int×Str))(T:List (Int×DS))(r:List Int):List (Int×DS):=putD T (r.headD 0) (addD ((lookD T (r.headD 0)).getD []) (ruleD sp T (r.drop 1)))
noncomputable def tablesOf (sp:List (Int×Str))(rules:List (List Int)):List (Int×DS):=rules.foldl (tabStep sp) []
structure MulOk (t f:DS):Prop where
 size:t.length*f.length≤2 ^ 20
 left:∀p∈t,p.1.length≤2 ^ 20∧0≤p.2∧p.2≤2 ^ 40
 right:∀q∈f,q.1.length≤2 ^ 20
structure TabOk (sp:List (Int×Str))(rules:List (List Int)):Prop where
 len:rules.length≤2 ^ 20
 row:∀r∈rules,r≠[]∧r.length≤2 ^ 20
 mul:∀i r,rules[i]?=some r→∀j x,(r.drop 1)[j]?=some x→(x<256→∃y,lookD sp x=some y)∧MulOk (ruleD sp (tablesOf sp (rules.take i)) ((r.drop 1).take j)) (followD sp (tablesOf sp (rules.take i)) x)
 add:∀i r,rules[i]?=some r→((lookD (tablesOf sp (rules.take i)) (r.headD 0)).getD []).length+(ruleD sp (tablesOf sp (rules.take i)) (r.drop 1)).length≤2 ^ 24
theorem mulRow_length (p:Str×Int):∀(f:DS)(m:DS),(mulRow m p f).length≤m.length+f.length
 | [],m=>Nat.le_refl _
 | q::f,m=>by
  have h1:=mulRow_length p f (addD m [(p.1++q.1,p.2*q.2)])
  have h2:=addD_length [(p.1++q.1,p.2*q.2)] m
  show (mulRow (addD m [(p.1++q.1,p.2*q.2)]) p f).length≤_
  simp only [length_cons,length_nil] at h2 ⊢
  exact lp [_,_,_,_] [(zA,.add zB zC),(zB,.add zD (.add (.num 0) (.num 1)))] zA (.add zD (su zC)) rfl h1 h2
theorem mulD_length (f:DS):∀(t:DS)(m:DS),(t.foldl (fun m p=>mulRow m p f) m).length≤m.length+t.length*f.length
 | [],m=>by simp
 | p::t,m=>by
  have h1:=mulD_length f t (mulRow m p f)
  have h2:=mulRow_length p f m
  rw [foldl_cons,length_cons,Nat.succ_mul]
  exact lp [_,_,_,_,_] [(zA,.add zB zC),(zB,.add zD zE)] zA (.add zD (.add zC zE)) rfl h1 h2
theorem mulRow_step {m:DS}{p q:Str×Int}{f:DS}{j:Nat}(h:f[j]?=some q):mulRow m p (f.take (j+1))=addD (mulRow m p (f.take j)) [(p.1++q.1,p.2*q.2)]:=by
 unfold mulRow
 rw [take_add_one,h]
 simp [foldl_append]
theorem mulD_step {p:Str×Int}{t f:DS}{i:Nat}(h:t[i]?=some p):(t.take (i+1)).foldl (fun m p=>mulRow m p f) []=mulRow ((t.take i).foldl (fun m p=>mulRow m p f) []) p f:=by
 rw [take_add_one,h]
 simp [foldl_append]
theorem ruleD_step {sp:List (Int×Str)}{T:List (Int×DS)}{tl:List Int}{j:Nat}{x:Int}(h:tl[j]?=some x):ruleD sp T (tl.take (j+1))=mulD (ruleD sp T (tl.take j)) (followD sp T x):=by
 unfold ruleD
 rw [take_add_one,h]
 simp [foldl_append]
theorem tables_step {sp:List (Int×Str)}{rules:List (List Int)}{i:Nat}{r:List Int}(h:rules[i]?=some r):tablesOf sp (rules.take (i+1))=tabStep sp (tablesOf sp (rules.take i)) r:=by
 unfold tablesOf
 rw [take_add_one,h]
 simp [foldl_append]
theorem tables_length (sp:List (Int×Str)):∀(rs:List (List Int))(T:List (Int×DS)),(rs.foldl (tabStep sp) T).length≤T.length+rs.length
 | [],T=>by simp
 | a::b,T=>by
  have h1:=tables_length sp b (tabStep sp T a)
  have h2:(tabStep sp T a).length≤T.length+1:=putD_length _ _ _
  rw [foldl_cons,length_cons]
  exact lp [_,_,_,_] [(zA,.add zB zC),(zB,su zD)] zA (.add zD (su zC)) rfl h1 h2
end Mine
namespace Mine
section
variable {κ:Type}[DecidableEq κ]{R:Rel α}
theorem dict1 {knd:PySem.KeyKind prog w κ}{e1 e2:Expr}{pos:Pos}{Q:Value→Shared→Prop}(S:St O K L m led h)(hsys:((h.objs.size:Addr) == sysModules)=false)
  (k:∀D,St O K L m ((D,emptyD)::led) (h.push emptyD)→wpAny (model prog w) A (eval e1 env) (fun kv s₁=>wpAny (model prog w) A (eval e2 env) (fun vv s₂=>
   ∃K1 h1 tk1 key a,s₂=sh s h1 tk1∧knd.is key kv=true∧Sub K K1∧St O K1 L m ((D,emptyD)::led) h1∧R.r K1 vv a∧
    (∀K' h' tk' v,Sub K1 K'→St O K' L m led h'→(rDict knd R).r K' v [(key,a)]→Q v (sh s h' tk'))) E s₁) E (sh s (h.push emptyD) tk)) :
  wpAny (model prog w) A (eval (.Dict [some e1] [e2] pos) env) Q E (sh s h tk):=by
 refine wpAny_Dict_any rfl rfl (by simp) (by simp) ?_
 refine evalPairs_cons (wpAny_mono (k h.objs.size (S.push emptyD)) (fun kv s₁ h₁=>wpAny_bind (wpAny_mono h₁ (fun vv s₂ h₂=>wpAny_bind (wpAny_standAt (wpAny_pure ?_))) fun _ _ x=>x)) fun _ _ x=>x)
 obtain⟨K1,h1,tk1,key,a,rfl,hkey,hK1,S1,hr,c⟩:=h₂
 refine evalPairs_nil ?_
 refine wpAny_storeAll (knd:=knd) [(kv,vv)] [(key,vv)] [] _ _ ⟨hkey,rfl,trivial⟩ (dictOf_of (S1.at 0 rfl) (dictO_empty knd)) (by simp [sizeLine]) fun h2 hd2 hs2=>?_
 obtain⟨o2,ho2,hdo2⟩:=dictO_of hd2
 have S2:=S1.turn 0 rfl hs2 ho2
 obtain⟨K2,hK2,S3,hfr⟩:=S2.freeze led (sublist_cons_self ..)
 have hnd:=S2.nodup
 refine c K2 h2 _ _ hK2 S3 ⟨h.objs.size,o2,[(key,vv)],rfl,hsys,hfr _ _ ho2 S.sizeB (S2.ledg _ mem_cons_self).2.1 ?_,hdo2,.cons ⟨rfl,R.mono hK2 hr⟩ .nil⟩
 have:(((h.objs.size,o2)::led).map (·.1)).Nodup:=hnd
 rw [map_cons,nodup_cons] at this
 exact this.1
theorem dict0 {knd:PySem.KeyKind prog w κ}{pos:Pos}{Q:Value→Shared→Prop}(S:St O K L m led h)(hsys:((h.objs.size:Addr) == sysModules)=false)
  (c:∀K' h' v,Sub K K'→St O K' L m led h'→(rDict knd R).r K' v []→Q v (sh s h' tk)):wpAny (model prog w) A (eval (.Dict [] [] pos) env) Q E (sh s h tk):=by
 obtain⟨K1,hK1,S1,g⟩:=S.pushK emptyD
 exact wpAny_Dict_empty (c K1 _ _ hK1 S1 ⟨_,_,[],rfl,hsys,g,dictO_empty knd,.nil⟩)
theorem rDict_at {knd:PySem.KeyKind prog w κ}{K:Heap}{v:Value}{xs:List (κ×α)}(r:(rDict knd R).r K v xs):∃a o kvs,v = .ref a∧(a == sysModules)=false∧K.get? a=some o∧dictO knd o kvs∧All2 (PR (R.r K)) kvs xs∧(xs.map (·.1)).Nodup:=by
 obtain⟨a,o,kvs,rfl,hs,ha,hd,x⟩:=r
 refine⟨a,o,kvs,rfl,hs,ha,hd,x,?_⟩
 rw [←pr_keys (R:=R.r K) x]
 exact hd.nodup
theorem pr_item {R':Value→α→Prop}{kvs:List (κ×Value)}{xs:List (κ×α)}(x:All2 (PR R') kvs xs)(hnd:(xs.map (·.1)).Nodup){i:Nat}{k:κ}{a:α}(h:xs[i]?=some (k,a)):∃v,valueAt kvs k=some v∧R' v a:=by
 rcases pr_at x k with ⟨h1,h2⟩|⟨v,b,h1,h2,h3⟩
 ·have:=find?_eq_none.mp h2 _ (mem_of_getElem? h)
  simp at this
 ·have:=find_unique hnd h2 _ (mem_of_getElem? h) rfl
  dsimp only at this
  exact⟨v,h1,this▸h3⟩
end
section
variable {κ:Type}[DecidableEq κ]{R:Rel α}{e1 e2 l r:Expr}{pos:Pos}
theorem gx_dict0 {knd:PySem.KeyKind prog w κ}(B:Mod base)(hb:Sub base K)(S:St O K L m led h):Gx prog w A s O K h L m led env (.Dict [] [] pos) (rDict knd R) []:=fun _ tk _ c=>
 dict0 S (not_sys B (hb.trans S.stays)) fun K' h' v hK S' r=>c K' h' tk v hK S' r
theorem gx_dict1 {knd:PySem.KeyKind prog w κ}{RK:Rel κ}{key:κ}{a:α}(B:Mod base)(hb:Sub base K)(S:St O K L m led h)(hkey:∀v,RK.r K v key→knd.is key v=true)
  (k:∀D h1,St O K L m ((D,emptyD)::led) h1→Gv prog w A s h1 K env e1 RK key∧Gv prog w A s h1 K env e2 R a):Gx prog w A s O K h L m led env (.Dict [some e1] [e2] pos) (rDict knd R) [(key,a)]:=fun _ _ _ c=>
 dict1 S (not_sys B (hb.trans S.stays)) fun D S1=>(k D _ S1).1 _ _ _ fun v _ hv=>(k D _ S1).2 _ _ _ fun u _ hu=>⟨K,_,_,key,a,rfl,hkey v hv,Sub.refl _,S1,hu,fun K' h' tk' v' hK S' r=>c K' h' tk' v' hK S' r⟩
theorem gv_at {knd:PySem.KeyKind prog w κ}{RK:Rel κ}{xs:List (κ×α)}{k:κ}{y:α}(S:Sub K h)(d:Gv prog w A s h K env l (rDict knd R) xs)(x:Gv prog w A s h K env r RK k)(hkey:∀v,RK.r K v k→knd.is k v=true)(hf:xs.find? (fun e=>decide (e.1=k))=some (k,y))
  (hs:∀D key,subscripted r false (.ref D) key=operate [.ref D,key] (getItem (.ref D) key):=by intro _ _;with_unfolding_all rfl)(hg:∀D r,letTemporaryGo l (.ref D) r=pure ():=by intro _ _;with_unfolding_all rfl) :
  Gv prog w A s h K env (.Subscript l r pos) R y:=fun _ _ _ c=>Subscript_ (d _ _ _ fun u _ hu=>x _ _ _ fun kv _ hk=>by
 obtain⟨a,o,kvs,rfl,hsys,ha,hd,hx,hn⟩:=rDict_at hu
 rcases pr_at hx k with ⟨_,h2⟩|⟨v,b,h1,h2,h3⟩
 ·rw [hf] at h2;cases h2
 ·obtain rfl:y=b:=congrArg Prod.snd (Option.some.inj (hf.symm.trans h2))
  exact item_dct (S _ _ ha) hd (hkey _ hk) h1 (c _ _ h3) (hs _ _) (hg _))
theorem gv_mem {knd:PySem.KeyKind prog w κ}{RK:Rel κ}{xs:List (κ×α)}{k:κ}{y:α}{i:Nat}(S:Sub K h)(d:Gv prog w A s h K env l (rDict knd R) xs)(x:Gv prog w A s h K env r RK k)(hkey:∀v,RK.r K v k→knd.is k v=true)(hi:xs[i]?=some (k,y))
  (hs:∀D key,subscripted r false (.ref D) key=operate [.ref D,key] (getItem (.ref D) key):=by intro _ _;with_unfolding_all rfl)(hg:∀D r,letTemporaryGo l (.ref D) r=pure ():=by intro _ _;with_unfolding_all rfl) :
  Gv prog w A s h K env (.Subscript l r pos) R y:=fun _ _ _ c=>Subscript_ (d _ _ _ fun u _ hu=>x _ _ _ fun kv _ hk=>by
 obtain⟨a,o,kvs,rfl,hsys,ha,hd,hx,hn⟩:=rDict_at hu
 obtain⟨v,h1,h3⟩:=pr_item hx hn hi
 exact item_dct (S _ _ ha) hd (hkey _ hk) h1 (c _ _ h3) (hs _ _) (hg _))
theorem ts_at {knd:PySem.KeyKind prog w κ}{RK:Rel κ}{xs:List (κ×α)}{k:κ}(S:Sub K h)(x:Gv prog w A s h K env l RK k)(d:Gv prog w A s h K env r (rDict knd R) xs)(hkey:∀v,RK.r K v k→knd.is k v=true)(hm:behindInMarks .In r=false:=by with_unfolding_all rfl) :
  Tst prog w A s h env (.Compare l [.In] [r] pos) (xs.find? (fun e=>decide (e.1=k))).isSome:=fun _ _ _ c=>wpAny_isTrue_Compare1 (x _ _ _ fun v _ hv=>d _ _ _ fun u _ hu=>by
 obtain⟨a,o,kvs,rfl,hsys,ha,hd,hx,hn⟩:=rDict_at hu
 refine in_dct (S _ _ ha) hd hsys (hkey _ hv) (wpAny_truthy_bool ?_)
 rcases pr_at hx k with ⟨h1,h2⟩|⟨v,b,h1,h2,h3⟩ <;> rw [h1] <;> rw [h2] at c <;> exact c _) hm
theorem gv_cat {x y:Str}(p:Gv prog w A s h K env l rStr x)(q:Gv prog w A s h K env r rStr y)(hlen:x.length+y.length≤2 ^ 24):Gv prog w A s h K env (.BinOp l .Add r pos) rStr (x++y):=fun _ _ _ c=>wpAny_BinOp (p _ _ _ fun v _ hv=>q _ _ _ fun u _ hu=>by
 obtain⟨t,rfl⟩:=hv;obtain⟨t',rfl⟩:=hu
 exact PyProof.Rows.add_str (fun t1 n1=>c _ _ ⟨_,rfl⟩) hlen)
theorem key_str {K:Heap}{v:Value}{x:Str}(q:(rKey (PySem.strKind prog w)).r K v x):rStr.r K v x:=by
 obtain⟨t,e⟩:=Value.isStrOf_shape q
 exact⟨t,e⟩
end
noncomputable def txN:List Str:=["rules","spelled","tables","rule","texts","symbol","follow","more","text","end"]
theorem txN_nd:txN.Nodup:=by decide
abbrev rDS (prog:Program)(w:World):Rel DS:=rDict (PySem.strKind prog w) rInt
abbrev enT (q:Str)(L:Addr)(cd:Value):Env:=en q (scopeOf (stA 68)) L 133 cd []
section
theorem gc_add {k:Nat}{v u:Value}{t f:DS}(B:Mod base)(hb:Sub base K)(hs:Sub K h)(hA:OkA A (k+1))(r1:(rDS prog w).r K v t)(r2:(rDS prog w).r K u f)(hsz:t.length+f.length≤2 ^ 24):Gc prog w A s K h 83 [v,u] (rDS prog w) (addD t f):=
 fun _ _ _ c=>add_call (k:=k) B hb hs hA r1 r2 hsz c
theorem gc_isterm {k:Nat}{v:Value}{x:Int}(B:Mod base)(hb:Sub base K)(hs:Sub K h)(hA:OkA A (k+1))(r:rInt.r K v x):Gc prog w A s K h 100 [v] rBool (decide (x<256)):=
 fun _ _ _ c=>isterm_call (k:=k) B hb hs hA r fun h' tk' g=>c K h' tk' _ g rfl
inductive MulJ (prog:Program)(w:World)(x0 x1 x2 x3 x5:Option Value)(tv fv:Value)(led:List (Addr×Obj))(P:Nat→DS)(X8:Option Value→Prop):Nat→Heap→(Str→Option Value)→List (Addr×Obj)→Prop
 | mk (i:Nat) (K:Heap) (mv:Value) (x8 x9:Option Value):X8 x8→(rDS prog w).r K mv (P i)→MulJ prog w x0 x1 x2 x3 x5 tv fv led P X8 i K (loc txN [x0,x1,x2,x3,some tv,x5,some fv,some mv,x8,x9]) led
noncomputable def loop68:List Stmt:=bodyOf ((bodyOf ((bodyOf (stA 68)).getD 1 (.Pass ⟨0,0,0,0⟩))).getD 1 (.Pass ⟨0,0,0,0⟩))
theorem mul_room {t f:DS}(ok:MulOk t f){i j:Nat}{te:Str×Int}(hi:i<t.length)(hj:j<f.length):(mulRow ((t.take i).foldl (fun m p=>mulRow m p f) []) te (f.take j)).length+1≤2 ^ 24:=by
 have h1:=mulRow_length te (f.take j) ((t.take i).foldl (fun m p=>mulRow m p f) [])
 have h2:=mulD_length f (t.take i) []
 have h3:=ok.size
 have h6:(i+1)*f.length≤t.length*f.length:=Nat.mul_le_mul_right _ hi
 rw [length_take,Nat.min_eq_left (Nat.le_of_lt hj)] at h1
 rw [length_take,Nat.min_eq_left (Nat.le_of_lt hi)] at h2
 rw [Nat.succ_mul] at h6
 simp only [length_nil] at h2
 exact lp [_,_,_,_,_,_] [(su zA,zB),(zC,.add zD zA),(zD,.add (.num 0) zE),(zF,.num 1048576),(.add zE zB,zF)] (su zC) (.num 16777216) rfl hj h1 h2 h3 h6
theorem texts_mul {k:Nat}{q:Str}{cd:Value}{x0 x1 x2 x3 x5 x7 x8 x9:Option Value}{tv fv:Value}{t f:DS}{Q:Flow→Shared→Prop}
  (B:Mod base)(hb:Sub base K)(hA:OkA A (k+1))(S:St O K (enT q L cd).locals (loc txN [x0,x1,x2,x3,some tv,x5,some fv,x7,x8,x9]) led h)
  (rt:(rDS prog w).r K tv t)(rf:(rDS prog w).r K fv f)(ok:MulOk t f)
  (c:∀K' h' tk' tv' x7 x8 x9,Sub K K'→St O K' (enT q L cd).locals (loc txN [x0,x1,x2,x3,some tv',x5,some fv,x7,x8,x9]) led h'→(rDS prog w).r K' tv' (mulD t f)→Q .next (sh s h' tk')) :
  wpAny (model prog w) A (execs (loop68.drop 1) (enT q L cd)) Q E (sh s h tk):=by
 refine as_x 7 txN_nd (gx_dict0 (knd:=PySem.strKind prog w) (R:=rInt) B hb S) fun K1 mv h1 tk1 hK1 hmv S1=>?_
 clear S
 have rt1:=(rDS prog w).mono hK1 rt
 refine for_x (gi_dict (knd:=PySem.strKind prog w) (R:=rInt) hA (gx_v S1 (gv_n S1 4 txN_nd rt1))) (MulJ prog w x0 x1 x2 x3 x5 tv fv led (fun i=>(t.take i).foldl (fun m p=>mulRow m p f) []) fun _=>True) (fun K' hK=>.mk 0 K' mv x8 x9 trivial ((rDS prog w).mono hK hmv)) ?_ ?_
 ·clear S1 hmv c
  intro i te kt K4 m4 led4 h4 tk4 I ob4 E4 Q1 hi hkt hK4 hq1 S4 next
  obtain⟨mv4,y8,y9,_,hmv4⟩:=hq1
  rw [getElem?_map] at hi
  obtain⟨⟨te',a⟩,hta,rfl⟩:=Option.map_eq_some_iff.mp hi
  replace next:∀K' mv' x9 h' tk',Sub K4 K'→(rDS prog w).r K' mv' ((t.take (i+1)).foldl (fun m p=>mulRow m p f) [])→St O K' (enT q L cd).locals (loc txN [x0,x1,x2,x3,some tv,x5,some fv,some mv',some kt,x9]) ((I,ob4)::led) h'→Q1 .next (sh s h' tk'):=
   fun K' mv' x9 h' tk' b1 b2 b3=>next K' _ _ h' tk' b1 (.mk (i+1) K' mv' _ _ trivial b2) b3
  refine as_n S4 8 txN_nd fun h5 tk5 S5=>?_
  clear S4 hi
  have rf5:=(rDS prog w).mono (hK1.trans hK4) rf
  refine for_x (gi_dict (knd:=PySem.strKind prog w) (R:=rInt) hA (gx_v S5 (gv_n S5 6 txN_nd rf5))) (MulJ prog w x0 x1 x2 x3 x5 tv fv ((I,ob4)::led) (fun j=>mulRow ((t.take i).foldl (fun m p=>mulRow m p f) []) (te',a) (f.take j)) fun x=>x=some kt) (fun K' hK=>.mk 0 K' mv4 (some kt) y9 rfl ((rDS prog w).mono hK hmv4)) ?_ ?_
  ·clear S5 next hmv4
   intro j en' ke K7 m7 led7 h7 tk7 I7 ob7 E7 Q2 hj hke hK7 hq1 S7 next
   obtain⟨mv7,y8,y9,rfl,hmv7⟩:=hq1
   rw [getElem?_map] at hj
   obtain⟨⟨en'',b⟩,hfb,rfl⟩:=Option.map_eq_some_iff.mp hj
   replace next:∀K' mv' h' tk',Sub K7 K'→(rDS prog w).r K' mv' (addD (mulRow ((t.take i).foldl (fun m p=>mulRow m p f) []) (te',a) (f.take j)) [(te'++en'',a*b)])→St O K' (enT q L cd).locals (loc txN [x0,x1,x2,x3,some tv,x5,some fv,some mv',some kt,some ke]) ((I7,ob7)::(I,ob4)::led) h'→Q2 .next (sh s h' tk'):=
    fun K' mv' h' tk' b1 b2 b3=>next K' _ _ h' tk' b1 (.mk (j+1) K' mv' _ _ rfl (by rw [mulRow_step hfb];exact b2)) b3
   refine as_n S7 9 txN_nd fun h8 tk8 S8=>?_
   have hkt':=rStr.mono hK7 (key_str hkt)
   have hke':=key_str hke
   have hK:=hK1.trans (hK4.trans hK7)
   have rt8:=(rDS prog w).mono hK rt
   have rf8:=(rDS prog w).mono hK rf
   have okl:=ok.left _ (mem_of_getElem? hta)
   have okr:=ok.right _ (mem_of_getElem? hfb)
   have hroom:=mul_room ok (te:=(te',a)) (List.getElem?_eq_some_iff.mp hta).1 (List.getElem?_eq_some_iff.mp hfb).1
   have hb8:=hb.trans hK
   clear S7 hj hkt hke rt1 rt rf rf5 hK
   refine as_x 7 txN_nd (gx_call2 B hb8 S8.stays (B.fns (83,8) (by decide)) (gx_v S8 (gv_n S8 7 txN_nd hmv7)) (fun K' h' hK' S'=>gx_dict1 (knd:=PySem.strKind prog w) B (hb8.trans hK') S' str_key fun D h1 S1=>
    ⟨gv_cat (gv_n S1 8 txN_nd (rStr.mono hK' hkt')) (gv_n S1 9 txN_nd (rStr.mono hK' hke')) (nT (Nat.add_le_add okl.1 okr) (by decide)),
     gv_mul (gv_mem S1.stays (gv_n S1 4 txN_nd ((rDS prog w).mono hK' rt8)) (gv_n S1 8 txN_nd (rStr.mono hK' hkt')) str_key hta) (gv_mem S1.stays (gv_n S1 6 txN_nd ((rDS prog w).mono hK' rf8)) (gv_n S1 9 txN_nd (rStr.mono hK' hke')) str_key hfb) (.of_left (bits_small okl.2.1 okl.2.2))⟩)
    fun K' h' v u hK' hs' rv ru=>gc_add (k:=k) B (hb8.trans hK') hs' hA rv ru (by simpa using hroom)) fun K9 mv9 h9 tk9 hK9 hmv9 S9=>?_
   exact wpAny_execs_nil (next K9 mv9 h9 tk9 hK9 hmv9 S9)
  ·intro K7 m7 led7 h7 tk7 hK7 hq1 S7
   obtain⟨mv7,y8,y9,rfl,hmv7⟩:=hq1
   rw [length_map,take_length,←mulD_step hta] at hmv7
   exact wpAny_execs_nil (next K7 mv7 y9 h7 tk7 hK7 hmv7 S7)
 ·intro K4 m4 led4 h4 tk4 hK4 hq1 S4
  obtain⟨mv4,y8,y9,_,hmv4⟩:=hq1
  rw [length_map,take_length] at hmv4
  exact as_v S4 4 txN_nd (gv_n S4 7 txN_nd hmv4) fun v5 h5 tk5 hv5 S5=>wpAny_execs_nil (c K4 h5 tk5 v5 _ _ _ (hK1.trans hK4) S5 hv5)
inductive TxJ (prog:Program)(w:World)(v vsp:Value)(D:Addr)(sp:List (Int×Str))(rules:List (List Int)):Nat→Heap→(Str→Option Value)→List (Addr×Obj)→Prop
 | mk (i:Nat) (K:Heap) (o:Obj) (x3 x4 x5 x6 x7 x8 x9:Option Value) (kvs:List (Int×Value)):dictO (intKind prog w) o kvs→All2 (PR ((rDS prog w).r K)) kvs (tablesOf sp (rules.take i))→TxJ prog w v vsp D sp rules i K (loc txN [some v,some vsp,some (.ref D),x3,x4,x5,x6,x7,x8,x9]) [(D,o)]
inductive TxJ2 (prog:Program)(w:World)(v vsp rv:Value)(D I:Addr)(o ob:Obj)(sp:List (Int×Str))(T:List (Int×DS))(row:List Int):Nat→Heap→(Str→Option Value)→List (Addr×Obj)→Prop
 | mk (j:Nat) (K:Heap) (tv:Value) (x5 x6 x7 x8 x9:Option Value):(rDS prog w).r K tv (ruleD sp T (row.take j))→TxJ2 prog w v vsp rv D I o ob sp T row j K (loc txN [some v,some vsp,some (.ref D),some rv,some tv,x5,x6,x7,x8,x9]) [(I,ob),(D,o)]
theorem find_look {α:Type}{T:List (Int×α)}{k:Int}{a:α}(h:lookD T k=some a):T.find? (fun e=>decide (e.1=k))=some (k,a):=by
 unfold lookD at h
 obtain⟨p,hp,rfl⟩:=Option.map_eq_some_iff.mp h
 have e:p.1=k:=by simpa using find?_some hp
 rw [hp,←e]
theorem texts_call {k:Nat}{v vsp:Value}{rules:List (List Int)}{sp:List (Int×Str)}{Q:Value→Shared→Prop}(B:Mod base)(hb:Sub base K)(hs:Sub K h)(hA:OkA A (k+2))
  (r:(rList (rList rInt)).r K v rules)(rsp:(rDict (intKind prog w) rStr).r K vsp sp)(ok:TabOk sp rules)
  (c:∀K' h' tk' v,Grow K h K' h'→(rDict (intKind prog w) (rDS prog w)).r K' v (tablesOf sp rules)→Q v (sh s h' tk')):wpAny (model prog w) A (call (.ref 133) [v,vsp]) Q E (sh s h tk):=by
 refine call_fn (k:=k+1) ["rules","spelled"] ["tables","rule","texts","symbol","follow","more","text","end"] [none,none,none,none,none,none,none,none] hA ((B.fns (133,68) (by decide)).sub (hb.trans hs)) (B.nolimit.keeps (hb.trans hs)) hs (fun _ _ _ _ _=>rfl) rfl (by decide) (by simp) (by decide) (by decide) (by decide) (fun A' h₀ tk₀ q L cd hA' S=>?_)
 replace S:St ⟨h,K⟩ K (enT q L cd).locals (loc txN [some v,some vsp,none,none,none,none,none,none,none,none]) [] h₀:=S
 refine hide fun Q0 fin0=>?_
 replace c:∀K' h' tk' v,Grow K h K' h'→(rDict (intKind prog w) (rDS prog w)).r K' v (tablesOf sp rules)→Q0 (.ret v) (sh s h' tk'):=fun K' h' tk' v g r=>fin0 _ _ (c K' h' tk' v g r)
 clear fin0
 refine as_st (dict_new B (hb.trans S.stays) S fun D hD hlow hsys SD=>stn SD 2 txN_nd fun h1 tk1 S1=>?_)
 clear S SD
 refine for_x (gi_list hA' (gx_v S1 (gv_n S1 0 txN_nd r))) (TxJ prog w v vsp D sp rules) (fun K' _=>.mk 0 K' _ _ _ _ _ _ _ _ [] (dictO_empty _) .nil) ?_ ?_
 ·clear S1 c
  intro i rl rv K1 m1 led1 h3 tk3 I ob1 E' Q1 hi hrl hK1 hq1 S3 next
  obtain⟨o,x3,x4,x5,x6,x7,x8,x9,kvs,hdo,hx⟩:=hq1
  have hb1:=hb.trans hK1
  have okr:=ok.row rl (mem_of_getElem? hi)
  have okw:=ok.mul i rl hi
  have oka:=ok.add i rl hi
  have hlen:kvs.length≤sizeLine:=by
   have h0:=hx.length
   have h1:=tables_length sp (rules.take i) []
   rw [length_take,length_nil] at h1
   have h4:=ok.len
   show kvs.length≤2 ^ 24
   unfold tablesOf at h0
   exact lp [_,_,_,_] [(zA,zB),(zB,.add (.num 0) zC),(zD,.num 1048576),(zC,zD)] zA (.num 16777216) rfl (eqL h0) h1 h4 (Nat.min_le_right _ _)
  replace next:∀K' o' kvs' x4 x5 x6 x7 x8 x9 h' tk',Sub K1 K'→dictO (intKind prog w) o' kvs'→All2 (PR ((rDS prog w).r K')) kvs' (tabStep sp (tablesOf sp (rules.take i)) rl)→
    St ⟨h,K⟩ K' (enT q L cd).locals (loc txN [some v,some vsp,some (.ref D),some rv,x4,x5,x6,x7,x8,x9]) [(I,ob1),(D,o')] h'→Q1 .next (sh s h' tk'):=
   fun K' o' kvs' x4 x5 x6 x7 x8 x9 h' tk' b1 b2 b3 b4=>next K' _ _ h' tk' b1 (.mk (i+1) K' o' _ _ _ _ _ _ _ kvs' b2 (by rw [tables_step hi];exact b3)) b4
  obtain⟨T,hT⟩:∃T,T=tablesOf sp (rules.take i):=⟨_,rfl⟩
  rw [←hT] at hx okw oka next
  clear hT hi
  refine as_n S3 3 txN_nd fun h4 tk4 S4=>?_
  clear S3
  refine as_x 4 txN_nd (gx_dict1 (knd:=PySem.strKind prog w) (R:=rInt) (RK:=rStr) B hb1 S4 str_key fun D' h5 S5=>⟨gv_s,gv_i⟩) fun K5 v5 h6 tk6 hK5 hv5 S6=>?_
  clear S4
  refine for_x (gi_list hA' (gx_tail S6 (gv_n S6 3 txN_nd ((rList rInt).mono hK5 hrl)) (by have:=okr.2;exact lp [_] [(zA,.num 1048576)] zA (.num 16777216) rfl this))) (TxJ2 prog w v vsp rv D I o ob1 sp T (rl.drop 1)) (fun K' hK=>.mk 0 K' v5 x5 x6 x7 x8 x9 ((rDS prog w).mono hK hv5)) ?_ ?_
  ·clear S6 next oka hv5
   intro j x xv K9 m9 led9 h9 tk9 I9 ob9 E9 Q2 hj hxv hK9 hq1 S9 next
   obtain⟨tv,y5,y6,y7,y8,y9,htv⟩:=hq1
   obtain⟨okl,okm⟩:=okw j x hj
   have hK:=hK5.trans hK9
   have hb9:=hb1.trans hK
   have hx9:All2 (PR ((rDS prog w).r K9)) kvs T:=hx.imp fun _ _ q=>⟨q.1,(rDS prog w).mono hK q.2⟩
   have rsp9:=(rDict (intKind prog w) rStr).mono (hK1.trans hK) rsp
   replace next:∀K' tv' x6 x7 x8 x9 h' tk',Sub K9 K'→(rDS prog w).r K' tv' (mulD (ruleD sp T ((rl.drop 1).take j)) (followD sp T x))→St ⟨h,K⟩ K' (enT q L cd).locals (loc txN [some v,some vsp,some (.ref D),some rv,some tv',some xv,x6,x7,x8,x9]) [(I9,ob9),(I,ob1),(D,o)] h'→Q2 .next (sh s h' tk'):=
    fun K' tv' x6 x7 x8 x9 h' tk' b1 b2 b3=>next K' _ _ h' tk' b1 (.mk (j+1) K' tv' _ _ _ _ _ (by rw [ruleD_step hj];exact b2)) b3
   clear hj hx okw hK hrl
   refine as_n S9 5 txN_nd fun h10 tk10 S10=>?_
   clear S9
   refine as_x (R:=rDS prog w) 6 txN_nd (gx_ifx (x:=followD sp T x) (tx_g (gx_call1 B hb9 S10.stays (B.fns (100,62) (by decide)) (gx_v S10 (gv_n S10 5 txN_nd hxv)) fun K' h' u hK' hs' ru=>gc_isterm (k:=k) B (hb9.trans hK') hs' hA' ru))
    (fun lt K' h' hK' S'=>?_) fun ge K' h' hK' S'=>gx_if (ts_in (gv_n S' 5 txN_nd (rInt.mono hK' hxv)) (gv_n S' 2 txN_nd rfl) (S'.at 2 rfl) hdo hsys int_key) (fun e=>?_) fun e=>?_) fun K12 fv h12 tk12 hK12 hfv S12=>?_
   ·obtain⟨y,hy⟩:=okl (of_decide_eq_true lt)
    refine gx_eq (gx_dict1 (knd:=PySem.strKind prog w) B (hb9.trans hK') S' str_key fun D2 h1 S1=>⟨gv_at S1.stays (gv_n S1 1 txN_nd ((rDict (intKind prog w) rStr).mono hK' rsp9)) (gv_n S1 5 txN_nd (rInt.mono hK' hxv)) int_key (find_look hy),gv_i⟩) ?_
    unfold followD;rw [if_pos (of_decide_eq_true lt),hy];rfl
   ·rcases pr_look hx9 x with ⟨hv0,hf⟩|⟨fv,fd,hv0,hf,hfv0⟩
    ·rw [hv0] at e;cases e
    ·refine gx_v S' (gv_eq (gv_dct (gv_n S' 2 txN_nd rfl) (gv_n S' 5 txN_nd (rInt.mono hK' hxv)) (S'.at 2 rfl) hdo int_key hv0 ((rDS prog w).mono hK' hfv0)) ?_)
     unfold followD;rw [if_neg fun q=>ge (decide_eq_true q),hf];rfl
   ·rcases pr_look hx9 x with ⟨hv0,hf⟩|⟨fv,fd,hv0,hf,hfv0⟩
    ·refine gx_eq (gx_dict0 B (hb9.trans hK') S') ?_
     unfold followD;rw [if_neg fun q=>ge (decide_eq_true q),hf];rfl
    ·rw [hv0] at e;exact absurd rfl e
   ·exact texts_mul B (hb9.trans hK12) hA' S12 ((rDS prog w).mono hK12 htv) hfv okm fun K13 h13 tk13 tv' y7' y8' y9' hK13 S13 htv'=>next K13 tv' _ _ _ _ h13 tk13 (hK12.trans hK13) htv' S13
  ·intro K9 m9 led9 h9 tk9 hK9 hq1 S9
   obtain⟨tv,y5,y6,y7,y8,y9,htv⟩:=hq1
   rw [take_length] at htv
   clear S6 okw hv5
   have hK:=hK5.trans hK9
   have hb9:=hb1.trans hK
   have hx9:All2 (PR ((rDS prog w).r K9)) kvs T:=hx.imp fun _ _ q=>⟨q.1,(rDS prog w).mono hK q.2⟩
   have hrl9:=(rList rInt).mono hK hrl
   clear hx hrl
   obtain⟨hd,tl,rfl⟩:∃hd tl,rl=hd::tl:=by
    cases rl with
    | nil=>exact absurd rfl okr.1
    | cons a b=>exact⟨a,b,rfl⟩
   have g0:∀{K' h'} {p1 p2 p3:Pos} {k:Nat},Sub K9 K'→St ⟨h,K⟩ K' (enT q L cd).locals (loc txN [some v,some vsp,some (.ref D),some rv,some tv,y5,y6,y7,y8,y9]) [(I,ob1),(D,o)] h'→Gv prog w A' s h' K' (enT q L cd) (.Subscript (.Name "rule" p1) (.Constant (.int 0) k p2) p3) rInt hd:=
    fun hK' S'=>gv_lst S'.stays (gv_n S' 3 txN_nd ((rList rInt).mono hK' hrl9)) gv_i (by decide) (by decide) rfl
   have gt:∀{K' h'} {p:Pos},St ⟨h,K⟩ K' (enT q L cd).locals (loc txN [some v,some vsp,some (.ref D),some rv,some tv,y5,y6,y7,y8,y9]) [(I,ob1),(D,o)] h'→Gv prog w A' s h' K' (enT q L cd) (.Name "tables" p) rVal (.ref D):=fun S'=>gv_n S' 2 txN_nd rfl
   refine set_x (R:=rDS prog w) 1 rfl hdo hlen (gx_call2 B hb9 S9.stays (B.fns (83,8) (by decide)) (gx_if (x:=(lookD T hd).getD []) (ts_in (g0 (Sub.refl _) S9) (gt S9) (S9.at 1 rfl) hdo hsys int_key) (fun e=>?_) fun e=>?_)
    (fun K' h' hK' S'=>gx_v S' (gv_n S' 4 txN_nd ((rDS prog w).mono hK' htv))) fun K' h' a b hK' hs' ra rb=>gc_add (k:=k) B (hb9.trans hK') hs' hA' ra rb oka) (fun K' h' _ S'=>gt S') (fun K' h' hK' S'=>g0 hK' S') (fun _=>int_key) fun K11 o' v' h11 tk11 hK11 rv' hdo' S11=>?_
   ·rcases pr_look hx9 hd with ⟨hv0,hf⟩|⟨fv,fd,hv0,hf,hfv0⟩
    ·rw [hv0] at e;cases e
    ·exact gx_v S9 (gv_eq (gv_dct (gt S9) (g0 (Sub.refl _) S9) (S9.at 1 rfl) hdo int_key hv0 hfv0) (by rw [hf];rfl))
   ·rcases pr_look hx9 hd with ⟨hv0,hf⟩|⟨fv,fd,hv0,hf,hfv0⟩
    ·exact gx_eq (gx_dict0 B hb9 S9) (by rw [hf];rfl)
    ·rw [hv0] at e;exact absurd rfl e
   ·exact wpAny_execs_nil (next K11 o' _ _ _ _ _ _ _ h11 tk11 (hK.trans hK11) hdo' (pr_put (hx9.imp fun _ _ q=>⟨q.1,(rDS prog w).mono hK11 q.2⟩) hd rv') S11)
 ·intro K1 m1 led1 h3 tk3 hK1 hq1 S3
  obtain⟨o,x3,x4,x5,x6,x7,x8,x9,kvs,hdo,hx⟩:=hq1
  rw [take_length] at hx
  refine ret_st (ld S3 2 txN_nd ?_)
  obtain⟨K',hK',S6,hfr⟩:=S3.freeze [] (nil_sublist _)
  exact c K' h3 tk3 _ S6.toGrow ⟨D,o,kvs,rfl,hsys,hfr D o (S3.at 0 rfl) hlow (S3.ledg _ mem_cons_self).2.1 (by simp),hdo,hx.imp fun _ _ q=>⟨q.1,(rDS prog w).mono hK' q.2⟩⟩
end
end Mine
namespace Mine
inductive AppendP (O:Org)(L:Addr)(m:Str→Option Value)(i:Nat)(l:Addr)(vs:List Value)(s:Shared)(Q:Flow→Shared→Prop)(v:Value)(s₁:Shared):Prop
 | mk (K1 h1:Heap) (tk1:Nat) (led1:List (Addr×Obj)) (n1:Nat):s₁=sh s h1 tk1→St O K1 L m led1 h1→led1[i]?=some (l,lo vs.toArray n1)→vs.length≤2 ^ 24→(∀h' n',St O K1 L m (led1.set i (l,lo (vs++[v]).toArray n')) h'→Q .next (sh s h' tk1))→AppendP O L m i l vs s Q v s₁
inductive ExtendP (O:Org)(L:Addr)(m:Str→Option Value)(i:Nat)(l:Addr)(vs:List Value)(s:Shared)(Q:Flow→Shared→Prop)(v:Value)(s₁:Shared):Prop
 | mk (K1 h1:Heap) (tk1:Nat) (led1:List (Addr×Obj)) (n1:Nat) (b:Addr) (ws:List Value) (nb:Nat):s₁=sh s h1 tk1→St O K1 L m led1 h1→led1[i]?=some (l,lo vs.toArray n1)→vs.length+ws.length≤2 ^ 23→v = .ref b→K1.get? b=some (lo ws.toArray nb)→(∀h' n',St O K1 L m (led1.set i (l,lo (vs++ws).toArray n')) h'→Q .next (sh s h' tk1))→ExtendP O L m i l vs s Q v s₁
inductive Sw2P (L:Addr)(x1 x2:Str)(s:Shared)(Q:Flow→Shared→Prop)(a b:Value)(s₂:Shared):Prop
 | mk (O:Org) (K:Heap) (m:Str→Option Value) (led:List (Addr×Obj)) (h:Heap) (tk:Nat):s₂=sh s h tk→St O K L m led h→(∀h' tk',St O K L (fun y=>if y=x1 then some a else if y=x2 then some b else m y) led h'→Q .next (sh s h' tk'))→Sw2P L x1 x2 s Q a b s₂
section
variable {R:Rel α}
theorem iter_range {k:Nat}{n:Nat}{t:Tok}{Q:Value→Shared→Prop}(hA:OkA A k)(S:St O K L m led h)(hn:n=1∨n=3∨n=6)
  (c:∀I ob h' tk',St O K L m ((I,ob)::led) h'→Src prog w A K h' I rInt ((List.range n).map Int.ofNat)→(∀(b:Nat) o,h.get? b=some o→h'.get? b=some o∧b≠I)→Q (.ref I) (sh s h' tk')) :
  wpAny (model prog w) A (call (.type "range") [.int (n:Int) t]) (fun v s₁=>wpAny (model prog w) A (pyIter v) Q E s₁) E (sh s h tk):=by
 refine call_range_1 ?_
 have S1:=S.push { cls:=.type "range",data:=.fields #[.int 0 tk,.int n t,.int 1 (tk+1)] }
 have hsz:Builtin.Range.rangeSize 0 n 1=n:=by rcases hn with rfl|rfl|rfl <;> rfl
 have hsm:Builtin.Range.small 0 n 1=true:=by rcases hn with rfl|rfl|rfl <;> rfl
 refine wpAny_pyIter_range (s:=sh s (h.push { cls:=.type "range",data:=.fields #[.int 0 tk,.int n t,.int 1 (tk+1)] }) (tk+1+1)) (r:=h.objs.size) (a:=0) (b:=n) (c:=1) (S1.at 0 rfl) hsm ?_
 rw [hsz]
 have S2:=S1.push { cls:=.type "range_iterator",data:=.fields #[rawInt 0,rawInt n,rawInt 1] }
 generalize hH:h.push { cls:=.type "range",data:=.fields #[.int 0 tk,.int n t,.int 1 (tk+1)] }=H at S1 S2
 have hold:∀(b:Nat) o,h.get? b=some o→H.get? b=some o:=fun b o e=>hH▸Heap.get?_push_of_some _ e
 have W:=Walks.range (prog:=prog) (w:=w) hA.handled H.objs.size 0 1 n
 refine c H.objs.size _ _ _ S2.drop12 ⟨n,[H.objs.size],_,_,?_,W,?_,fun i h' hx=>?_,fun b hb hbI=>?_,fun i v _ hv=>?_,fun i h' o hx e=>?_⟩ fun b o e=>⟨Heap.get?_push_of_some _ (hold b o e),Nat.ne_of_lt (get_lt (hold b o e))⟩
 ·rw [length_map,length_range]
 ·have:=S2.at 0 rfl
  show IsRangeIter _ _ (0+((0:Nat):Int)*1) ((n:Int) - ((0:Nat):Int)) 1
  simpa using this
 ·exact⟨_,hx⟩
 ·simp only [mem_singleton] at hb
  exact absurd hb hbI
 ·rename_i hi
  rw [length_map,length_range] at hi
  obtain⟨t',rfl⟩:=hv
  refine⟨Int.ofNat i,?_,t',?_⟩
  ·rw [getElem?_map,List.getElem?_range hi];rfl
  ·have e0:(0:Int)+(i:Int)*1=(i:Int):=iT (lw [_] [] (.add (.num 0) (.mulR iA 1)) iA rfl) (lw [_] [] iA (.add (.num 0) (.mulR iA 1)) rfl)
   rw [e0];rfl
 ·have hx':h'.get? H.objs.size=some _:=hx
  rw [hx'] at e;cases e
  exact⟨_,_,rfl,rfl,by decide⟩
theorem push_seq' (vs:List Value)(v:Value)(nn:Nat):Obj.mapSeq (·.push v) (lo vs.toArray nn)=lo (vs++[v]).toArray (nn+1):=by simp [Obj.mapSeq]
theorem type_extend:typeOf (.builtin "list.extend")=pure (.type "method_descriptor"):=by show builtinType _=_;rw [builtinType_eq_fast];kernel_rfl
theorem type_append:typeOf (.builtin "list.append")=pure (.type "method_descriptor"):=by show builtinType _=_;rw [builtinType_eq_fast];kernel_rfl
theorem map_append (vs ws:List Value)(n:Nat):∃n',Obj.mapSeq (·++ws.toArray) (lo vs.toArray n)=lo (vs++ws).toArray n':=by
 refine⟨if ((vs++ws).toArray.size == vs.toArray.size)=true then n else n+1,?_⟩
 simp only [Obj.mapSeq,List.append_toArray]
theorem append_st {x:Str}{q1 apos pos pos2:Pos}{e:Expr}{i:Nat}{l:Addr}{vs:List Value}{n:Nat}{Q:Flow→Shared→Prop}(S:St O K L m led h)
  (ho:∀Q',Q' (.ref l) (sh s h tk)→wpAny (model prog w) A (eval (.Name x q1) env) Q' E (sh s h tk))(hi:led[i]?=some (l,lo vs.toArray n))
  (k:wpAny (model prog w) A (eval e env) (AppendP O L m i l vs s Q) E (sh s h tk))
  (hbase:attributeBase (.Name x q1) "append" env (eval (.Name x q1) env)=eval (.Name x q1) env:=by rfl)
  (hfew:((backTo pos (starEach [e] env)).all (fun x=>!x.1)&&(backToKw pos (keywordEach [] env)).all (fun x=>x.1.isSome)&&decide ([e].length+([]:List Keyword).length+(if ([]:List Keyword).isEmpty then 0 else 1)<30))=true:=by rfl)
  (hline:(apos.endLine == pos.line)=true:=by rfl)(he:backTo pos (starEach [e] env)=[(false,eval e env)]:=by rfl)
  (hin:interactive env=false:=by rfl)(hs:swapsWith (.Call (.Attribute (.Name x q1) "append" apos) [e] [] pos) none pos2.line env=pure false:=by rfl) :
  wpAny (model prog w) A (exec (.Expr (.Call (.Attribute (.Name x q1) "append" apos) [e] [] pos) pos2) env) Q E (sh s h tk):=by
 refine wpAny_Expr ?_ hin hs
 refine wpAny_Call_method hbase hfew hline F.plainAttrs_list F.slot_list_append type_append (ho _ ⟨⟨_,S.at i hi,rfl⟩,fun a ea=>?_,?_⟩)
 ·cases ea;exact⟨_,S.at i hi,rfl⟩
 ·rw [he]
  refine P.append_list (wpAny_mono k (fun v s₁ h₁=>?_) fun _ _ x=>x)
  obtain⟨K1,h1,tk1,led1,n1,rfl,S1,hi1,hsz,c⟩:=h₁
  refine⟨vs.toArray,n1,by rw [size_toArray];exact hsz,S1.at i hi1,?_⟩
  have S2:=S1.update (Obj.mapSeq (·.push v)) i hi1 (by rw [push_seq'];rfl)
  rw [push_seq'] at S2
  exact c _ _ S2
theorem extend_st {x:Str}{q1 apos pos pos2:Pos}{e:Expr}{i:Nat}{l:Addr}{vs:List Value}{n:Nat}{Q:Flow→Shared→Prop}(S:St O K L m led h)
  (ho:∀Q',Q' (.ref l) (sh s h tk)→wpAny (model prog w) A (eval (.Name x q1) env) Q' E (sh s h tk))(hi:led[i]?=some (l,lo vs.toArray n))
  (k:wpAny (model prog w) A (eval e env) (ExtendP O L m i l vs s Q) E (sh s h tk))
  (hbase:attributeBase (.Name x q1) "extend" env (eval (.Name x q1) env)=eval (.Name x q1) env:=by rfl)
  (hfew:((backTo pos (starEach [e] env)).all (fun x=>!x.1)&&(backToKw pos (keywordEach [] env)).all (fun x=>x.1.isSome)&&decide ([e].length+([]:List Keyword).length+(if ([]:List Keyword).isEmpty then 0 else 1)<30))=true:=by rfl)
  (hline:(apos.endLine == pos.line)=true:=by rfl)(he:backTo pos (starEach [e] env)=[(false,eval e env)]:=by rfl)
  (hin:interactive env=false:=by rfl)(hs:swapsWith (.Call (.Attribute (.Name x q1) "extend" apos) [e] [] pos) none pos2.line env=pure false:=by rfl) :
  wpAny (model prog w) A (exec (.Expr (.Call (.Attribute (.Name x q1) "extend" apos) [e] [] pos) pos2) env) Q E (sh s h tk):=by
 refine wpAny_Expr ?_ hin hs
 refine wpAny_Call_method hbase hfew hline F.plainAttrs_list F.slot_list_extend type_extend (ho _ ⟨⟨_,S.at i hi,rfl⟩,fun a ea=>?_,?_⟩)
 ·cases ea;exact⟨_,S.at i hi,rfl⟩
 ·rw [he]
  refine P.extend_list (wpAny_mono k (fun v s₁ h₁=>?_) fun _ _ x=>x)
  obtain⟨K1,h1,tk1,led1,n1,b,ws,nb,rfl,S1,hi1,hsz,rfl,hb,c⟩:=h₁
  obtain⟨n',hn'⟩:=map_append vs ws n1
  refine⟨b,vs.toArray,ws.toArray,n1,nb,?_,?_,?_,rfl,S1.at i hi1,S1.stays _ _ hb,?_⟩
  ·rw [size_toArray];show vs.length≤2 ^ 24;exact lp [_,_] [(.add zA zB,.num 8388608)] zA (.num 16777216) rfl hsz
  ·rw [size_toArray,size_toArray];show vs.length+ws.length≤2 ^ 24+1;exact lp [_,_] [(.add zA zB,.num 8388608)] (.add zA zB) (.add (.num 16777216) (.num 1)) rfl hsz
  ·rw [size_toArray,size_toArray]
   have:Builtin.List.listTooLong (vs.length+ws.length)=false:=by unfold Builtin.List.listTooLong sizeLine;simp;exact lp [_,_] [(.add zA zB,.num 8388608)] (.add zA zB) (.num 16777216) rfl hsz
   rw [this];simp
  ·have S2:=S1.update (Obj.mapSeq (·++ws.toArray)) i hi1 (by rw [hn'];rfl)
   rw [hn'] at S2
   exact c _ _ S2
theorem add_lsts {a b:Value}{xs ys:List α}{Q:Value→Shared→Prop}(S:St O K L m led h)(ra:(rList R).r K a xs)(rb:(rList R).r K b ys)(hsz:xs.length+ys.length≤2 ^ 24)
  (c:∀K' h' v,Sub K K'→St O K' L m led h'→(rList R).r K' v (xs++ys)→Q v (sh s h' tk)):wpAny (model prog w) A (binaryOp .Add a b) Q E (sh s h tk):=by
 obtain⟨l,vs,n,rfl,hl,hx⟩:=ra
 obtain⟨l2,ws,n2,rfl,hl2,hy⟩:=rb
 refine P.add_list (s:=sh s h tk) (S.stays _ _ hl) (S.stays _ _ hl2) ?_ (by rw [size_toArray,size_toArray,hx.length,hy.length];exact hsz)
 obtain⟨K1,hK1,S1,g⟩:=S.pushK (lo (vs.toArray++ws.toArray) 0)
 exact c K1 _ _ hK1 S1 ⟨_,vs++ws,0,rfl,by rw [←List.append_toArray];exact g,(hx.app hy).imp fun _ _ q=>R.mono hK1 q⟩
theorem St.ext {h':Heap}(S:St O K L m led h)(hx:Heap.ExtBut h.objs.size h h'):St O K L m led h':=by
 refine S.move (fun b o hb hx' e=>hx b o (Nat.ne_of_lt (get_lt e)) e) (S.ns.at' fun o e=>hx _ o (Nat.ne_of_lt (get_lt e)) e) (fun p hp=>?_) S.nodup
 have P:=S.ledg p hp
 exact⟨hx _ _ (Nat.ne_of_lt (get_lt P.1)) P.1,P.2⟩
theorem assign_sw2 {k:Nat}{x1 x2:Str}{p1 p2 tp vp pos:Pos}{n1 n2:Nat}{e1 e2:Expr}{Q:Flow→Shared→Prop}(hA:OkA A k)
  (kk:wpAny (model prog w) A (eval e1 env) (fun a s₁=>wpAny (model prog w) A (eval e2 env) (Sw2P env.locals x1 x2 s Q a) E s₁) E (sh s h tk))
  (hx1:env.kindOf x1=some .local:=by rfl)(hx2:env.kindOf x2=some .local:=by rfl)(hk:env.scope.kind = .function:=by rfl)
  (he1:starEach [e1,e2] env=(false,eval e1 env)::starEach [e2] env:=by rfl)(he2:starEach [e2] env=(false,eval e2 env)::starEach [] env:=by rfl)
  (hs:swapsWithSole [.Tuple [.Name x1 p1,.Name x2 p2] n1 tp] (.Tuple [e1,e2] n2 vp) pos.line env=pure false:=by rfl)
  (hw:swappedStores [.Tuple [.Name x1 p1,.Name x2 p2] n1 tp] (.Tuple [e1,e2] n2 vp) env=pure (some [x1,x2]):=by rfl) :
  wpAny (model prog w) A (exec (.Assign [.Tuple [.Name x1 p1,.Name x2 p2] n1 tp] (.Tuple [e1,e2] n2 vp) pos) env) Q E (sh s h tk):=by
 have hp:(env.scope.kind == .class||(env.scope.kind == .module&&env.locals != env.globals))=false:=by rw [hk];rfl
 refine Assign_Tuple_swapped (names:=[x1,x2]) (wpAny_Tuple (args_cons (wpAny_mono kk (fun a s₁ h₁=>args_cons (wpAny_mono h₁ (fun b s₂ h₂=>args_nil ?_) fun _ _ x=>x) he2) fun _ _ x=>x) he1)) hs hw
 obtain⟨O,K,m,led,h,tk,rfl,S,c⟩:=h₂
 refine⟨by simp [sizeLine],?_⟩
 have S1:=S.push (tu [a,b].toArray)
 refine wpAny_unpackItems_tuple (s:=sh s (h.push (tu [a,b].toArray)) tk) (items:=#[a,b]) hA.handled ⟨_,S1.at 0 rfl,rfl,0,rfl⟩ fun h2 hx2'=>?_
 have S2:=S1.tail.ext hx2'
 show wpAny _ _ (do holding [a] (bindName env x2 b);assignInOrder [bindName env x1] [a]) _ _ _
 refine wpAny_bind (wpAny_holding (bindName_ (wpAny_storeName_local hx2 S2.ns (fun h₅ hn₅ hs₅=>?_) hp)))
 have S5:=S2.store hn₅ hs₅
 show wpAny _ _ (do holding [] (bindName env x1 a);assignInOrder [] []) _ _ _
 refine wpAny_bind (wpAny_holding (bindName_ (wpAny_storeName_local hx1 S5.ns (fun h₆ hn₆ hs₆=>wpAny_pure ?_) hp)))
 exact c _ _ (S5.store hn₆ hs₆)
end
section
variable {R:Rel α}{R':Rel β}{e l r:Expr}{pos:Pos}{a b:Int}{ns:List Str}{vs:List (Option Value)}{rest:List Stmt}{Q:Flow→Shared→Prop}
theorem gi_range {k n:Nat}{p:Pos}(B:Mod base)(hb:Sub base K)(hA:OkA A k)(S:St O K L m led h)(g:Gv prog w A s h K env e rInt (n:Int))(hn:n=1∨n=3∨n=6)(hg:env.globals=mainGlobals:=by rfl)(hgb:env.builtins=builtinsNs:=by rfl)
  (hl:env.kindOf "range" = some .globalImplicit:=by rfl)(hk:env.scope.kind = .function:=by rfl)
  (hcall:eval (.Call (.Name "range" p) [e] [] pos) env=(do callWith pos (←eval (.Name "range" p) env) [] (backTo pos (starEach [e] env)) (backToKw pos (keywordEach [] env))):=by rfl)
  (he:starEach [e] env=(false,eval e env)::starEach [] env:=by rfl):Gi prog w A s O K h L m led env (.Call (.Name "range" p) [e] [] pos) rInt ((List.range n).map Int.ofNat):=fun _ _ _ c=>
 Call_ (gl_blt (v:=.type "range") B (hb.trans S.stays) (cw_type (args_cons (g _ _ _ fun v _ hv=>args_nil (by
  obtain⟨t,rfl⟩:=hv
  exact iter_range hA S hn fun I ob h' tk' S' src _=>c K h' tk' I ob (Sub.refl _) S' src)) he) he) (by simp [gBlt]) hg hgb hl hk) hcall
theorem gx_cat {xs ys:List α}(g:Gx prog w A s O K h L m led env l (rList R) xs)(g2:∀K' h',Sub K K'→St O K' L m led h'→Gx prog w A s O K' h' L m led env r (rList R) ys)(hsz:xs.length+ys.length≤2 ^ 24):Gx prog w A s O K h L m led env (.BinOp l .Add r pos) (rList R) (xs++ys):=fun _ _ _ c=>
 wpAny_BinOp (g _ _ _ fun K1 h1 _ v hK1 S1 hv=>g2 K1 h1 hK1 S1 _ _ _ fun K2 h2 tk2 u hK2 S2 hu=>add_lsts (R:=R) S2 ((rList R).mono hK2 hv) hu hsz fun K3 h3 v3 hK3 S3 hv3=>c K3 h3 tk2 v3 ((hK1.trans hK2).trans hK3) S3 hv3)
theorem app_x {x:Str}{q1 apos pos2:Pos}{l:Addr}{us:List Value}{n:Nat}{y:α}(S:St O K env.locals (loc ns vs) led h)(j i:Nat)(hd:ns.Nodup)(hi:led[i]?=some (l,lo us.toArray n))(g:Gx prog w A s O K h env.locals (loc ns vs) led env e R y)(hsz:us.length≤2 ^ 24)
  (k:∀K' v h' tk' n',Sub K K'→R.r K' v y→St O K' env.locals (loc ns vs) (led.set i (l,lo (us++[v]).toArray n')) h'→wpAny (model prog w) A (execs rest env) Q E (sh s h' tk'))
  (hx:ns[j]?=some x:=by rfl)(hv:vs[j]?=some (some (.ref l)):=by rfl)(hl:env.kindOf x=some .local:=by rfl)(hk:env.scope.kind = .function:=by rfl)(hdb:(x == ("__debug__" : Str))=false:=by rfl)
  (hbase:attributeBase (.Name x q1) "append" env (eval (.Name x q1) env)=eval (.Name x q1) env:=by rfl)
  (hfew:((backTo pos (starEach [e] env)).all (fun x=>!x.1)&&(backToKw pos (keywordEach [] env)).all (fun x=>x.1.isSome)&&decide ([e].length+([]:List Keyword).length+(if ([]:List Keyword).isEmpty then 0 else 1)<30))=true:=by rfl)
  (hline:(apos.endLine == pos.line)=true:=by rfl)(he:backTo pos (starEach [e] env)=[(false,eval e env)]:=by rfl)
  (hin:interactive env=false:=by rfl)(hs:swapsWith (.Call (.Attribute (.Name x q1) "append" apos) [e] [] pos) none pos2.line env=pure false:=by rfl) :
  wpAny (model prog w) A (execs (.Expr (.Call (.Attribute (.Name x q1) "append" apos) [e] [] pos) pos2::rest) env) Q E (sh s h tk):=
 wpAny_execs_cons (append_st S (fun Q' q=>ld S j hd q hx hv hl hk hdb) hi (g _ _ _ fun K1 h1 tk1 v hK S1 hv=>⟨K1,h1,tk1,led,n,rfl,S1,hi,hsz,fun h' n' S'=>k K1 v h' tk1 n' hK hv S'⟩) hbase hfew hline he hin hs)
theorem ext_x {x:Str}{q1 apos pos2:Pos}{l:Addr}{us:List Value}{n:Nat}{ys:List α}(S:St O K env.locals (loc ns vs) led h)(j i:Nat)(hd:ns.Nodup)(hi:led[i]?=some (l,lo us.toArray n))(g:Gx prog w A s O K h env.locals (loc ns vs) led env e (rList R) ys)(hsz:us.length+ys.length≤2 ^ 23)
  (k:∀K' ws h' tk' n',Sub K K'→All2 (R.r K') ws ys→St O K' env.locals (loc ns vs) (led.set i (l,lo (us++ws).toArray n')) h'→wpAny (model prog w) A (execs rest env) Q E (sh s h' tk'))
  (hx:ns[j]?=some x:=by rfl)(hv:vs[j]?=some (some (.ref l)):=by rfl)(hl:env.kindOf x=some .local:=by rfl)(hk:env.scope.kind = .function:=by rfl)(hdb:(x == ("__debug__" : Str))=false:=by rfl)
  (hbase:attributeBase (.Name x q1) "extend" env (eval (.Name x q1) env)=eval (.Name x q1) env:=by rfl)
  (hfew:((backTo pos (starEach [e] env)).all (fun x=>!x.1)&&(backToKw pos (keywordEach [] env)).all (fun x=>x.1.isSome)&&decide ([e].length+([]:List Keyword).length+(if ([]:List Keyword).isEmpty then 0 else 1)<30))=true:=by rfl)
  (hline:(apos.endLine == pos.line)=true:=by rfl)(he:backTo pos (starEach [e] env)=[(false,eval e env)]:=by rfl)
  (hin:interactive env=false:=by rfl)(hs:swapsWith (.Call (.Attribute (.Name x q1) "extend" apos) [e] [] pos) none pos2.line env=pure false:=by rfl) :
  wpAny (model prog w) A (execs (.Expr (.Call (.Attribute (.Name x q1) "extend" apos) [e] [] pos) pos2::rest) env) Q E (sh s h tk):=
 wpAny_execs_cons (extend_st S (fun Q' q=>ld S j hd q hx hv hl hk hdb) hi (g _ _ _ fun K1 h1 tk1 v hK S1 hv=>by
  obtain⟨b,ws,nb,rfl,hb,hx⟩:=hv
  exact⟨K1,h1,tk1,led,n,b,ws,nb,rfl,S1,hi,by rw [hx.length];exact hsz,rfl,hb,fun h' n' S'=>k K1 ws h' tk1 n' hK hx S'⟩) hbase hfew hline he hin hs)
theorem sw2_new {k:Nat}{x1 x2:Str}{p1 p2 tp vp p3:Pos}{n1 n2:Nat}{y:α}(i j:Nat)(hd:ns.Nodup)(hA:OkA A k)(g:Gx prog w A s O K h env.locals (loc ns vs) led env e R y)
  (c:∀K' v D h' tk',Sub K K'→O.B.objs.size≤D→R.r K' v y→St O K' env.locals (loc ns ((vs.set j (some (.ref D))).set i (some v))) ((D,lo ([]:List Value).toArray 0)::led) h'→wpAny (model prog w) A (execs rest env) Q E (sh s h' tk'))
  (hi:(vs[i]?).isSome=true:=by rfl)(hj:(vs[j]?).isSome=true:=by rfl)(hxi:ns[i]?=some x1:=by rfl)(hxj:ns[j]?=some x2:=by rfl)
  (hx1:env.kindOf x1=some .local:=by rfl)(hx2:env.kindOf x2=some .local:=by rfl)(hk:env.scope.kind = .function:=by rfl)
  (he1:starEach [e,.List [] p3] env=(false,eval e env)::starEach [.List [] p3] env:=by rfl)(he2:starEach [.List [] p3] env=(false,eval (.List [] p3) env)::starEach [] env:=by rfl)
  (hs:swapsWithSole [.Tuple [.Name x1 p1,.Name x2 p2] n1 tp] (.Tuple [e,.List [] p3] n2 vp) pos.line env=pure false:=by rfl)
  (hw:swappedStores [.Tuple [.Name x1 p1,.Name x2 p2] n1 tp] (.Tuple [e,.List [] p3] n2 vp) env=pure (some [x1,x2]):=by rfl) :
  wpAny (model prog w) A (execs (.Assign [.Tuple [.Name x1 p1,.Name x2 p2] n1 tp] (.Tuple [e,.List [] p3] n2 vp) pos::rest) env) Q E (sh s h tk):=
 wpAny_execs_cons (assign_sw2 hA (g _ _ _ fun K1 h1 tk1 v hK S1 hv=>list_new S1 fun h2 S2=>⟨O,K1,_,_,h2,tk1,rfl,S2,fun h3 tk3 S3=>c K1 v _ h3 tk3 hK S1.sizeB hv (by
  rw [loc_set2 j i hxj hxi hd (lt_of_isSome hj) (lt_of_isSome hi)] at S3;exact S3)⟩) hx1 hx2 hk he1 he2 hs hw)
end
end Mine
namespace Mine
noncomputable def symT (other dot dots:Int):List Int:=[0,other,4,63,dot,dots,258,257]
noncomputable def rowOf (sym:List Int):List Int→Int→List Int
 | [],_=>[]
 | z::zs,n=>sym.getD (n.fmod z).toNat 0::rowOf sym zs (n.fdiv z)
noncomputable def sizesK:List (List Int):=[[8,7,8,7],[7,7,7,7],[6,6,6,6]]
noncomputable def tapeK (i:Nat)(row:List Int):List Int:=[256+(i:Int)]++(row.take 2).filter (fun x=>x != 0)++[0,256+(i:Int)]++(row.drop 2).filter (fun x=>x != 0)++[0]
noncomputable def tapeTo (draws sym:List Int)(n:Nat):List Int:=(List.range n).flatMap fun i=>tapeK i (rowOf sym (sizesK.getD i []) (draws.getD i 0))
theorem rowOf_snoc (sym:List Int):∀(a:List Int)(z n:Int),rowOf sym (a++[z]) n=rowOf sym a n++[sym.getD ((a.foldl Int.fdiv n).fmod z).toNat 0]
 | [],z,n=>rfl
 | y::a,z,n=>by
  show sym.getD (n.fmod y).toNat 0::rowOf sym (a++[z]) (n.fdiv y)=_
  rw [rowOf_snoc sym a z]
  rfl
theorem tapeTo_succ (draws sym:List Int)(n:Nat):tapeTo draws sym (n+1)=tapeTo draws sym n++tapeK n (rowOf sym (sizesK.getD n []) (draws.getD n 0)):=by
 unfold tapeTo
 rw [range_succ,flatMap_append]
 simp
theorem rowOf_length (sym:List Int):∀(a:List Int)(n:Int),(rowOf sym a n).length=a.length
 | [],_=>rfl
 | y::a,n=>by
  show (rowOf sym a (n.fdiv y)).length+1=a.length+1
  rw [rowOf_length sym a]
theorem tapeK_length (i:Nat)(row:List Int):(tapeK i row).length≤4+row.length:=by
 unfold tapeK
 have h1:=length_filter_le (fun x:Int=>x != 0) (row.take 2)
 have h2:=length_filter_le (fun x:Int=>x != 0) (row.drop 2)
 simp only [length_append,length_cons,length_nil]
 rw [length_take] at h1
 rw [length_drop] at h2
 exact (Nat.le_total 2 (List.length row)).elim (fun hq2=>lp [_,_,_,_,_] [(zA,zB),(zC,zD),(zB,.num 2),(.add zD (.num 2),zE)] (.add (.add (.add (.add (.add (.num 0) (.num 1)) zA) (.add (.add (.num 0) (.num 1)) (.num 1))) zC) (.add (.num 0) (.num 1))) (.add (.num 4) zE) rfl h1 h2 (Nat.min_le_left _ _) (sbB _ _ hq2)) (fun hq2=>lp [_,_,_,_,_] [(zA,zB),(zC,zD),(zB,zE),(zD,.num 0)] (.add (.add (.add (.add (.add (.num 0) (.num 1)) zA) (.add (.add (.num 0) (.num 1)) (.num 1))) zC) (.add (.num 0) (.num 1))) (.add (.num 4) zE) rfl h1 h2 (Nat.min_le_right _ _) (sbC _ _ hq2))
end Mine
namespace Mine
theorem nopylong {a b:Int}(hb:b=8∨b=7∨b=6):Builtin.divisionGoesByPylong a b=false:=by
 unfold Builtin.divisionGoesByPylong
 have:decide ((if (b == 0)=true then 0 else b.natAbs.log2 / 30+1)>300)=false:=by
  rcases hb with rfl|rfl|rfl <;> decide +kernel
 simp only [this,Bool.false_and]
noncomputable def tpN:List Str:=["draws","other","dot","dots","symbols","tape","k","number","row","size"]
theorem tpN_nd:tpN.Nodup:=by decide
theorem sz_at:∀{i:Nat},i<3→sizesK[i]?=some (sizesK.getD i [])
 | 0,_=>rfl
 | 1,_=>rfl
 | 2,_=>rfl
theorem sz_ok:∀{i:Nat},i<3→(sizesK.getD i []).length=4∧∀z∈sizesK.getD i [],z=8∨z=7∨z=6
 | 0,_=>by decide
 | 1,_=>by decide
 | 2,_=>by decide
theorem sz_ix:∀{i:Nat},i<3→seqIndex? (i:Int) 3=some i
 | 0,_=>rfl
 | 1,_=>rfl
 | 2,_=>rfl
section
theorem gv_fdiv {l r:Expr}{pos:Pos}{a b:Int}(x:Gv prog w A s h K env l rInt a)(y:Gv prog w A s h K env r rInt b)(hb:b=8∨b=7∨b=6):Gv prog w A s h K env (.BinOp l .FloorDiv r pos) rInt (a.fdiv b):=fun _ _ _ c=>wpAny_BinOp (x _ _ _ fun v _ hv=>y _ _ _ fun u _ hu=>by
 obtain⟨t,rfl⟩:=hv;obtain⟨t',rfl⟩:=hu
 exact PyProof.Rows.floordiv_int (by rcases hb with rfl|rfl|rfl <;> decide) (c _ _ ⟨_,rfl⟩) (.inl (nopylong hb)))
theorem gx_nonz {k:Nat}{scope:Scope}{iter:Expr}{x:Str}{px pos pos2 p1 p2 p3:Pos}{kk:Nat}{xs:List Int}(hA:OkA A k)(g:Gx prog w A s O K h L m led env iter (rList rInt) xs)(hlen:xs.length≤2 ^ 20)
  (hclos:closureFor scope env=pure []:=by rfl)(hcell:∀y∈scope.names,y.2 ≠ .cell:=by decide)(hkind:scope.kind = .function:=by rfl)
  (hnames:∀y∈scope.names,y.2 = .local→scope.names.lookup y.1=some .local:=by decide)(hx:scope.names.lookup x=some .local:=by decide)(hs:∀x,foldedSetIterable iter env x=pure x:=by intro _;rfl)
  (hk1:∀C,(compEnvC scope [] C env).kindOf x=some .local:=by intro _;rfl)(hk2:∀C,(compEnvC scope [] C env).scope.kind = .function:=by intro _;rfl)(hdb:(x == ("__debug__" : Str))=false:=by rfl) :
  Gx prog w A s O K h L m led env (.ListComp (.Name x p1) [⟨.Name x px,iter,[.Compare (.Name x p2) [.NotEq] [.Constant (.int 0) kk p3] pos2],0⟩] scope pos) (rList rInt) (xs.filter fun y=>y != 0):=
 gx_eq (gx_comp1 (fun y=>y != 0) (fun y=>y) hclos (gi_list hA g) (nT hlen (by decide)) (fun B0 a v K1 C led1 h1 _ r _ _ S1=>tx_t S1 (ts_ne (gv_n (env:=compEnvC scope [] C env) S1 0 (by simp) r rfl rfl (hk1 C) (hk2 C) hdb) gv_i))
  (fun B0 a v K1 C led1 h1 _ _ r _ _ S1=>gx_v S1 (gv_n (env:=compEnvC scope [] C env) S1 0 (by simp) r rfl rfl (hk1 C) (hk2 C) hdb)) hcell hkind hnames hx hs) (map_id' _)
inductive TpJ (vd vo v1 v2 v3:Value)(TA:Addr)(draws sym:List Int):Nat→Heap→(Str→Option Value)→List (Addr×Obj)→Prop
 | mk (i:Nat) (K:Heap) (vs:List Value) (n:Nat) (x6 x7 x8 x9:Option Value):All2 (rInt.r K) vs (tapeTo draws sym i)→vs.length≤8*i→TpJ vd vo v1 v2 v3 TA draws sym i K (loc tpN [some vd,some vo,some v1,some v2,some v3,some (.ref TA),x6,x7,x8,x9]) [(TA,lo vs.toArray n)]
inductive TpJ2 (vd vo v1 v2 v3 kv:Value)(TA RW:Addr)(p1 p2:Addr×Obj)(sym zs:List Int)(di:Int):Nat→Heap→(Str→Option Value)→List (Addr×Obj)→Prop
 | mk (j:Nat) (K:Heap) (rvs:List Value) (n:Nat) (nv:Value) (x9:Option Value):All2 (rInt.r K) rvs (rowOf sym (zs.take j) di)→rInt.r K nv ((zs.take j).foldl Int.fdiv di)→
  TpJ2 vd vo v1 v2 v3 kv TA RW p1 p2 sym zs di j K (loc tpN [some vd,some vo,some v1,some v2,some v3,some (.ref TA),some kv,some nv,some (.ref RW),x9]) [(RW,lo rvs.toArray n),p1,p2]
theorem tape_call {k:Nat}{vd vo v1 v2:Value}{draws:List Int}{other dot dots:Int}{Q:Value→Shared→Prop}(B:Mod base)(hb:Sub base K)(hs:Sub K h)(hA:OkA A (k+1))
  (rd:(rList rInt).r K vd draws)(hlen:3≤draws.length)(ro:rInt.r K vo other)(r1:rInt.r K v1 dot)(r2:rInt.r K v2 dots)
  (c:∀K' h' tk' v,Grow K h K' h'→(rList rInt).r K' v (tapeTo draws (symT other dot dots) 3)→Q v (sh s h' tk')):wpAny (model prog w) A (call (.ref 119) [vd,vo,v1,v2]) Q E (sh s h tk):=by
 refine call_fn (k:=k) ["draws","other","dot","dots"] ["symbols","tape","k","number","row","size"] [none,none,none,none,none,none] hA ((B.fns (119,66) (by decide)).sub (hb.trans hs)) (B.nolimit.keeps (hb.trans hs)) hs (fun _ _ _ _ _=>rfl) rfl (by decide) (by simp) (by decide) (by decide) (by decide) (fun A' h₀ tk₀ q L cd hA' S=>?_)
 replace S:St ⟨h,K⟩ K (en q (scopeOf (stA 66)) L 119 cd []).locals (loc tpN [some vd,some vo,some v1,some v2,none,none,none,none,none,none]) [] h₀:=S
 refine hide fun Q0 fin0=>?_
 replace c:∀K' h' tk' v,Grow K h K' h'→(rList rInt).r K' v (tapeTo draws (symT other dot dots) 3)→Q0 (.ret v) (sh s h' tk'):=fun K' h' tk' v g r=>fin0 _ _ (c K' h' tk' v g r)
 clear fin0
 refine sw2_new 4 5 tpN_nd hA' (gx_list (xs:=symT other dot dots) (gl_v gv_i (gl_v (gv_n S 1 tpN_nd ro) (gl_v gv_i (gl_v gv_i (gl_v (gv_n S 2 tpN_nd r1) (gl_v (gv_n S 3 tpN_nd r2) (gl_v gv_i (gl_v gv_i (gl_nil S))))))))) (by simp [symT])) fun K1 v3 TA h1 tk1 hK1 hTA hsym S1=>?_
 clear S ro r1 r2
 have hsl:(symT other dot dots).length=8:=rfl
 obtain⟨sym,hsy⟩:∃sym,sym=symT other dot dots:=⟨_,rfl⟩
 rw [←hsy] at hsym c hsl
 clear hsy
 refine for_x (gi_range (n:=3) B (hb.trans hK1) hA' S1 gv_i (.inr (.inl rfl))) (TpJ vd vo v1 v2 v3 TA draws sym) (fun K' _=>.mk 0 K' [] 0 none none none none .nil (Nat.zero_le _)) ?_ ?_
 ·clear S1 c
  intro i a av K5 m5 led5 h5 tk5 I ob5 E5 Q5 hi hav hK5 hJ S5 next
  obtain⟨vs,n,x6,x7,x8,x9,hvs,hvl⟩:=hJ
  have hi3:i<3:=by have:=(List.getElem?_eq_some_iff.mp hi).1;simpa using this
  obtain rfl:a=(i:Int):=by
   rw [getElem?_map,List.getElem?_range hi3] at hi
   exact (Option.some.inj hi).symm
  have hdi:draws[(i:Int).toNat]?=some (draws.getD i 0):=by
   rw [Int.toNat_natCast,getD_eq_getElem?_getD,getElem?_eq_getElem (Nat.lt_of_lt_of_le hi3 hlen)];rfl
  have hz:=sz_at hi3
  have hzz:=sz_ok hi3
  have htl:=tapeTo_succ draws sym i
  obtain⟨di,hdd⟩:∃di,di=draws.getD i 0:=⟨_,rfl⟩
  obtain⟨zs,hzs⟩:∃zs,zs=sizesK.getD i []:=⟨_,rfl⟩
  replace next:∀K' ws x6 x7 x8 x9 h' n' tk',Sub K5 K'→All2 (rInt.r K') ws (tapeK i (rowOf sym zs di))→St ⟨h,K⟩ K' (en q (scopeOf (stA 66)) L 119 cd []).locals (loc tpN [some vd,some vo,some v1,some v2,some v3,some (.ref TA),x6,x7,x8,x9]) [(I,ob5),(TA,lo (vs++ws).toArray n')] h'→Q5 .next (sh s h' tk'):=
   fun K' ws x6 x7 x8 x9 h' n' tk' b1 b2 b3=>next K' _ _ h' tk' b1 (.mk (i+1) K' (vs++ws) n' x6 x7 x8 x9 (by rw [htl,←hdd,←hzs];exact (hvs.imp fun _ _ q=>rInt.mono b1 q).app b2) (by
    have hl:=b2.length
    have:=tapeK_length i (rowOf sym zs di)
    rw [rowOf_length,hzs,hzz.1] at this
    rw [length_append];lia)) b3
  rw [←hdd] at hdi
  rw [←hzs] at hz hzz
  clear htl hdd hzs hi hvs
  have hb5:=hb.trans (hK1.trans hK5)
  have rd5:=(rList rInt).mono (hK1.trans hK5) rd
  have hsym5:=(rList rInt).mono hK5 hsym
  have hi63:((i:Nat):Int)<2 ^ 63:=lw [_] [(si iA,.num 3)] (si iA) (.num 9223372036854775808) rfl (cnL hi3)
  refine as_n S5 6 tpN_nd fun h6 tk6 S6=>?_
  clear S5 rd hsym
  refine sw2_new 7 8 tpN_nd hA' (gx_v S6 (gv_lst S6.stays (gv_n S6 0 tpN_nd rd5) (gv_n S6 6 tpN_nd hav) (Int.natCast_nonneg i) hi63 hdi)) fun K7 nv RW h7 tk7 hK7 hRW rn S7=>?_
  clear S6 rd5 hdi
  have row:∀{K' h' led'} {b c d e:Int} {k1 k2 k3 k4:Nat} {p1 p2 p3 p4 p5:Pos} {n:Nat},St ⟨h,K⟩ K' L (loc tpN [some vd,some vo,some v1,some v2,some v3,some (.ref TA),some av,some nv,some (.ref RW),x9]) led' h'→Gx prog w A' s ⟨h,K⟩ K' h' L (loc tpN [some vd,some vo,some v1,some v2,some v3,some (.ref TA),some av,some nv,some (.ref RW),x9]) led' (en q (scopeOf (stA 66)) L 119 cd []) (.Tuple [.Constant (.int b) k1 p1,.Constant (.int c) k2 p2,.Constant (.int d) k3 p3,.Constant (.int e) k4 p4] n p5) (rTup rInt) [b,c,d,e]:=
   fun S=>gx_tup (gl_v gv_i (gl_v gv_i (gl_v gv_i (gl_v gv_i (gl_nil S))))) (by simp)
  refine @for_x _ _ _ _ _ _ _ _ _ _ _ _ _ _ _ _ _ _ _ _ _ (@gi_tup _ _ _ _ _ _ _ _ _ _ _ _ _ _ _ _ hA' (@gx_tat _ _ _ _ _ _ _ _ _ _ _ _ _ _ _ _ _ _ _ _ (@gx_tup _ _ _ _ _ _ _ _ _ _ _ _ _ _ _ _ _ (@gl_cons _ _ _ _ _ _ _ _ _ _ _ _ _ _ _ _ _ _ (row S7) (fun K' h' hK' S'=>@gl_cons _ _ _ _ _ _ _ _ _ _ _ _ _ _ _ _ _ _ (row S') (fun K' h' hK' S'=>@gl_cons _ _ _ _ _ _ _ _ _ _ _ _ _ _ _ _ _ _ (row S') (fun K' h' hK' S'=>gl_nil S') rfl) rfl) rfl) (show sizesK.length≤1000 by decide))
   (fun K' h' hK' S'=>gv_n S' 6 tpN_nd (rInt.mono (hK7.trans hK') hav)) (sz_ix hi3) (lw [_] [(.num 0,iA)] (.num (-9223372036854775808)) iA rfl (cn0 _)) hi63 hz (by intro _ _;with_unfolding_all rfl)))
   (TpJ2 vd vo v1 v2 v3 av TA RW (I,ob5) (TA,lo vs.toArray n) sym zs di) (fun K' hK=>.mk 0 K' [] 0 nv x9 .nil (rInt.mono hK rn)) ?_ ?_ (by intro _;rfl) (by intro _ _;rfl)
  ·clear S7 next rn row
   intro j z zv' K6 m6 led6 h14 tk14 I2 ob14 E14 Q6 hj hzv hK6 hJ S14 next
   obtain⟨rvs,nr,nv',x9,hrv,rn⟩:=hJ
   have hz3:=hzz.2 z (mem_of_getElem? hj)
   have hzpos:0<z:=by rcases hz3 with rfl|rfl|rfl <;> decide
   have hrl:rvs.length≤2 ^ 24:=by
    rw [hrv.length,rowOf_length,length_take];have:=hzz.1;exact lp [_,_] [(zA,.num 4),(zB,zA)] zB (.num 16777216) rfl (eqL this) (Nat.min_le_right _ _)
   have hstep:rowOf sym (zs.take (j+1)) di=rowOf sym (zs.take j) di++[sym.getD (((zs.take j).foldl Int.fdiv di).fmod z).toNat 0]:=by
    rw [take_add_one,hj];exact rowOf_snoc sym _ z di
   have hdstep:(zs.take (j+1)).foldl Int.fdiv di=((zs.take j).foldl Int.fdiv di).fdiv z:=by
    rw [take_add_one,hj];simp [foldl_append]
   replace next:∀K' v n' u h' tk',Sub K6 K'→rInt.r K' v (sym.getD (((zs.take j).foldl Int.fdiv di).fmod z).toNat 0)→rInt.r K' u (((zs.take j).foldl Int.fdiv di).fdiv z)→
     St ⟨h,K⟩ K' (en q (scopeOf (stA 66)) L 119 cd []).locals (loc tpN [some vd,some vo,some v1,some v2,some v3,some (.ref TA),some av,some u,some (.ref RW),some zv']) [(I2,ob14),(RW,lo (rvs++[v]).toArray n'),(I,ob5),(TA,lo vs.toArray n)] h'→Q6 .next (sh s h' tk'):=
    fun K' v n' u h' tk' b1 b2 b3 b4=>next K' _ _ h' tk' b1 (.mk (j+1) K' (rvs++[v]) n' u _ (by rw [hstep];exact (hrv.imp fun _ _ q=>rInt.mono b1 q).snoc b2) (by rw [hdstep];exact b3)) b4
   clear hj hstep hdstep hrv
   obtain⟨nm,hnm⟩:∃nm,nm=(zs.take j).foldl Int.fdiv di:=⟨_,rfl⟩
   rw [←hnm] at rn next
   clear hnm
   have hm0:0≤nm.fmod z:=Int.fmod_nonneg_of_pos _ hzpos
   have hm1:nm.fmod z<z:=Int.fmod_lt_of_pos _ hzpos
   have hm2:nm.fmod z<8:=Int.lt_of_lt_of_le hm1 (by rcases hz3 with rfl|rfl|rfl <;> decide)
   refine as_n S14 9 tpN_nd fun h15 tk15 S15=>?_
   clear S14
   refine app_x S15 8 1 tpN_nd rfl (gx_v S15 (gv_lst (a:=nm.fmod z) (y:=sym.getD (nm.fmod z).toNat 0) S15.stays (gv_n S15 4 tpN_nd ((rList rInt).mono (hK7.trans hK6) hsym5)) (gv_mod (gv_n S15 7 tpN_nd rn) (gv_n S15 9 tpN_nd hzv) (Int.ne_of_gt hzpos)) hm0 (Int.lt_trans hm2 (by decide)) (by
    rw [getD_eq_getElem?_getD,getElem?_eq_getElem (by exact Int.ofNat_lt.1 (lw [_,_,_] [(.num 8,iA),(si iB,.num 8),(iC,iB)] (si iC) iA rfl (cnL (eqR hsl)) hm2 (cnT hm0)))];rfl))) hrl fun K8 v h16 tk16 n16 hK8 rv S16=>?_
   refine as_v S16 7 tpN_nd (gv_fdiv (gv_n S16 7 tpN_nd (rInt.mono hK8 rn)) (gv_n S16 9 tpN_nd (rInt.mono hK8 hzv)) hz3) fun u h17 tk17 ru S17=>?_
   exact wpAny_execs_nil (next K8 v n16 u h17 tk17 hK8 rv ru S17)
  ·intro K6 m6 led6 h14 tk14 hK6 hJ S14
   clear S7 row rn
   obtain⟨rvs,nr,nv',x9',hrv,rn⟩:=hJ
   rw [take_length] at hrv
   obtain⟨K7',hK7',S15,hrow⟩:=S14.freezeL hRW hrv
   have hrl:(rowOf sym zs di).length=4:=(rowOf_length ..).trans hzz.1
   have hK':=(hK7.trans hK6).trans hK7'
   clear S14 hrv rn
   obtain⟨row,hrw⟩:∃row,row=rowOf sym zs di:=⟨_,rfl⟩
   rw [←hrw] at hrow hrl next
   clear hrw
   have f1:=length_filter_le (fun y:Int=>y != 0) (row.take 2)
   have f2:=length_filter_le (fun y:Int=>y != 0) (row.drop 2)
   rw [length_take] at f1
   rw [length_drop] at f2
   have hkv:=rInt.mono hK' hav
   have two:(2:Int)=((2:Nat):Int):=rfl
   refine ext_x (R:=rInt) S15 5 1 tpN_nd rfl (ys:=tapeK i row) (gx_cat (gx_cat (gx_cat (gx_cat (gx_list (xs:=[256+(i:Int)]) (gl_v (gv_add gv_i (gv_n S15 6 tpN_nd hkv)) (gl_nil S15)) (by simp))
    (fun K' h' hK S=>gx_nonz hA' (gx_eq (gx_slice S (gv_n S 8 tpN_nd ((rList rInt).mono hK hrow)) pt_n pt_i (lp [_] [(zA,.num 4)] zA (.num 16777216) rfl (eqL hrl))) (by rw [two,pick_take])) (by rw [length_take];exact lp [_] [(zA,.num 2)] zA (.num 1048576) rfl (Nat.min_le_left _ _))) ?_)
    (fun K' h' hK S=>gx_list (xs:=[0,256+(i:Int)]) (gl_v gv_i (gl_v (gv_add gv_i (gv_n S 6 tpN_nd (rInt.mono hK hkv))) (gl_nil S))) (by simp)) ?_)
    (fun K' h' hK S=>gx_nonz hA' (gx_eq (gx_slice S (gv_n S 8 tpN_nd ((rList rInt).mono hK hrow)) pt_i pt_n (lp [_] [(zA,.num 4)] zA (.num 16777216) rfl (eqL hrl))) (by rw [two,pick_from _ _ (lp [_,_] [(.add zA (.num 2),zB)] (.num 2) zB rfl (sbB _ _ (nT (eqR (Nat.min_eq_left (lp [_] [(.num 4,zA)] (.num 2) zA rfl (eqR hrl)))) (Nat.min_le_right _ _))))])) (by rw [length_drop];exact lp [_,_] [(zA,.num 4),(.add zB (.num 2),zA)] zB (.num 1048576) rfl (eqL hrl) (sbB _ _ (nT (eqR (Nat.min_eq_left (lp [_] [(.num 4,zA)] (.num 2) zA rfl (eqR hrl)))) (Nat.min_le_right _ _))))) ?_)
    (fun K' h' hK S=>gx_list (xs:=[0]) (gl_v gv_i (gl_nil S)) (by simp)) ?_) (by have:=tapeK_length i row;exact lq [_,_,_,_] [(1,zA,.mulL 8 zB),(8,su zB,.num 3),(1,zC,.num 4),(1,zD,.add (.num 4) zC)] 1 (.add zA zD) (.num 8388608) rfl hvl hi3 (eqL hrl) this) fun K26 ws h27 tk27 n27 hK26 hws S27=>?_
   ·simp only [length_cons,length_nil];exact lp [_,_] [(zA,zB),(zB,.num 2)] (.add (.add (.num 0) (.num 1)) zA) (.num 16777216) rfl f1 (Nat.min_le_left _ _)
   ·simp only [length_append,length_cons,length_nil];exact lp [_,_] [(zA,zB),(zB,.num 2)] (.add (.add (.add (.num 0) (.num 1)) zA) (.add (.add (.num 0) (.num 1)) (.num 1))) (.num 16777216) rfl f1 (Nat.min_le_left _ _)
   ·simp only [length_append,length_cons,length_nil];exact lq [_,_,_,_,_] [(2,zA,.num 4),(1,zB,zC),(1,zD,zE),(1,zC,zA),(1,.add zE (.num 2),zA)] 1 (.add (.add (.add (.add (.num 0) (.num 1)) zB) (.add (.add (.num 0) (.num 1)) (.num 1))) zD) (.num 16777216) rfl (eqL hrl) f1 f2 (Nat.min_le_right _ _) (sbB _ _ (nT (eqR (Nat.min_eq_left (lp [_] [(.num 4,zA)] (.num 2) zA rfl (eqR hrl)))) (Nat.min_le_right _ _)))
   ·simp only [length_append,length_cons,length_nil];exact lq [_,_,_,_,_] [(2,zA,.num 4),(1,zB,zC),(1,zD,zE),(1,zC,zA),(1,.add zE (.num 2),zA)] 1 (.add (.add (.add (.add (.add (.num 0) (.num 1)) zB) (.add (.add (.num 0) (.num 1)) (.num 1))) zD) (.add (.num 0) (.num 1))) (.num 16777216) rfl (eqL hrl) f1 f2 (Nat.min_le_right _ _) (sbB _ _ (nT (eqR (Nat.min_eq_left (lp [_] [(.num 4,zA)] (.num 2) zA rfl (eqR hrl)))) (Nat.min_le_right _ _)))
   ·exact wpAny_execs_nil (next K26 ws _ _ _ _ h27 n27 tk27 (hK'.trans hK26) hws S27)
 ·intro K5 m5 led5 h5 tk5 hK5 hJ S5
  obtain⟨vs,n,x6,x7,x8,x9,hvs,hvl⟩:=hJ
  refine ret_st (ld S5 5 tpN_nd ?_)
  obtain⟨K',hK',S6,hr⟩:=S5.freezeL hTA hvs
  exact c K' h5 tk5 _ S6.toGrow hr
end
end Mine
namespace Mine
section
theorem ldcn {L:Addr}{x:Str}{i:Nat}{c:Addr}{o:Obj}{v:Value}{Q:Value→Shared→Prop}(S:St O K L m led h)(hi:led[i]?=some (c,o))(ho:o.data = .cell (some v))(q:Q v (sh s h tk))
  (hc:env.cells.lookup x=some c:=by rfl)(hl:env.kindOf x=some .cell:=by rfl)(hk:env.scope.kind = .function:=by rfl):wpAny (model prog w) A (loadName env x) Q E (sh s h tk):=
 wpAny_loadName_cell hk hl hc ⟨o,S.at i hi,ho⟩ q
theorem ldc {L:Addr}{x:Str}{pos:Pos}{i:Nat}{c:Addr}{o:Obj}{v:Value}{Q:Value→Shared→Prop}(S:St O K L m led h)(hi:led[i]?=some (c,o))(ho:o.data = .cell (some v))(q:Q v (sh s h tk))
  (hc:env.cells.lookup x=some c:=by rfl)(hl:env.kindOf x=some .cell:=by rfl)(hk:env.scope.kind = .function:=by rfl)(hdb:(x == ("__debug__" : Str))=false:=by rfl) :
  wpAny (model prog w) A (eval (.Name x pos) env) Q E (sh s h tk):=wpAny_Name (ldcn S hi ho q hc hl hk) hdb
theorem stc {L:Addr}{x:Str}{i:Nat}{c:Addr}{o:Obj}{v0:Option Value}{v:Value}{Q:Unit→Shared→Prop}(S:St O K L m led h)(hi:led[i]?=some (c,o))(ho:o.data = .cell v0)
  (q:∀o' h',o'.data = .cell (some v)→St O K L m (led.set i (c,o')) h'→Q () (sh s h' tk))
  (hc:env.cells.lookup x=some c:=by rfl)(hl:env.kindOf x=some .cell:=by rfl)(hk:env.scope.kind = .function:=by rfl):wpAny (model prog w) A (storeName env x v) Q E (sh s h tk):=by
 refine wpAny_storeName_cell hk hl hc ⟨o,S.at i hi,ho⟩ fun h' hc' hs'=>?_
 obtain⟨o',ho',hd'⟩:=hc'
 exact q o' h' hd' (S.turn i hi hs' ho')
theorem assign2c {L:Addr}{k:Nat}{T:Addr}{a b:Value}{x1 x2:Str}{p1 p2 pt:Pos}{n:Nat}{Q:Unit→Shared→Prop}{i j:Nat}{c1 c2:Addr}{o1 o2:Obj}{w1 w2:Option Value}(hA:OkA A k)(S:St O K L m led h)(hT:K.get? T=some (tu #[a,b]))
  (hi:led[i]?=some (c1,o1))(ho1:o1.data = .cell w1)(hj:led[j]?=some (c2,o2))(ho2:o2.data = .cell w2)(hij:i≠j)
  (c:∀o1' o2' h' tk',o1'.data = .cell (some a)→o2'.data = .cell (some b)→St O K L m ((led.set i (c1,o1')).set j (c2,o2')) h'→Q () (sh s h' tk'))
  (hc1:env.cells.lookup x1=some c1:=by rfl)(hl1:env.kindOf x1=some .cell:=by rfl)(hc2:env.cells.lookup x2=some c2:=by rfl)(hl2:env.kindOf x2=some .cell:=by rfl)(hk:env.scope.kind = .function:=by rfl) :
  wpAny (model prog w) A (assign (.Tuple [.Name x1 p1,.Name x2 p2] n pt) env (.ref T)) Q E (sh s h tk):=by
 have ht:h.IsTuple T #[a,b]:=⟨_,S.stays _ _ hT,rfl,_,rfl⟩
 refine wpAny_assign_Tuple (s:=sh s h tk) hA.handled ht rfl rfl fun h₄ hx₄=>?_
 have S4:=S.ext hx₄
 show wpAny _ _ (do holding [b] (assign (.Name x1 p1) env a);do holding [] (assign (.Name x2 p2) env b);pure ()) _ _ _
 refine wpAny_bind (wpAny_holding (wpAny_assign_Name (stc S4 hi ho1 (fun o1' h5 e1 S5=>?_) hc1 hl1 hk)))
 refine wpAny_bind (wpAny_holding (wpAny_assign_Name (stc S5 (i:=j) (by rw [List.getElem?_set_ne hij];exact hj) ho2 (fun o2' h6 e2 S6=>wpAny_pure ?_) hc2 hl2 hk)))
 exact c o1' o2' h6 _ e1 e2 S6
end
section
theorem St.enterC {s₁:Shared}{m cm:Str→Option Value}{cs:List (Str×Addr)}(hs:Sub K h)(x:InCallC (sh s h tk) h.objs.size m cs cm s₁)(led:List (Addr×Obj))
  (hled:∀p∈led,s₁.heap.get? p.1=some p.2∧@LT.lt Nat _ h.objs.size p.1)(hd:(led.map (·.1)).Nodup):St ⟨h,K⟩ K h.objs.size m led s₁.heap where
 keepB:=x.toInCall.keep
 fromK:=Sub.refl _
 org:=fun _ _ e _=>e
 stays:=hs.trans x.toInCall.keep
 ns:=x.toInCall.ns
 hid:=by
  cases q:K.get? h.objs.size with
  | none=>rfl
  | some o=>exact absurd (get_lt (hs _ _ q)) (Nat.lt_irrefl _)
 low:=Nat.le_refl _
 ledg:=fun p hp=>by
  have H:=hled p hp
  refine⟨H.1,neN (by have:=H.2;exact Nat.ne_of_gt this),?_,?_⟩
  ·cases q:K.get? p.1 with
   | none=>rfl
   | some o=>have:=get_lt (hs _ _ q);have:=H.2;lia
  ·cases q:h.get? p.1 with
   | none=>rfl
   | some o=>have:=get_lt q;have:=H.2;lia
 nodup:=hd
theorem call_fnX {k:Nat}{f:Addr}{params:Arguments}{body:List Stmt}{scope:Scope}{vals:List Value}{Q:Value→Shared→Prop}(binds:List (Str×Value))
  (hA:OkA A (k+1))(F:FnAt h f params body scope)(hn:h.NoLimit)
  (hb:∀nm q doc pm cd,bindArgs (fnOf nm q params body scope .none .none doc pm none cd .none) ⟨vals,[]⟩=pure binds)
  (hkind:∀x∈binds,scope.names.lookup x.1=some .local∨(scope.names.lookup x.1=some .cell∧((cellsFrom (h.objs.size+1) scope.names []).lookup x.1).isSome=true))
  (c:∀A' q L cd s₁,OkA A' k→L=h.objs.size→InCallC (sh s h tk) L (bindL (en q scope L f cd (cellsFrom (L+1) scope.names [])).kindOf binds fun _=>none) (cellsFrom (L+1) scope.names [])
    (bindC (en q scope L f cd (cellsFrom (L+1) scope.names [])).kindOf binds fun _=>none) s₁→
   wpAny (model prog w) A' (execs body (en q scope L f cd (cellsFrom (L+1) scope.names []))) (fun fl s'=>Q (match fl with | .ret v=>v|_=>.none) s') (fun _ _=>False) s₁)
  (hco:scope.isCoroutine=false:=by rfl)(hgen:scope.isGenerator=false:=by rfl)(hk:scope.kind = .function:=by rfl) :
  wpAny (model prog w) A (call (.ref f) vals) Q E (sh s h tk):=by
 obtain⟨nm,q,doc,pm,cd,hc,o,ho,hdata⟩:=F
 refine wpAny_call ?_
 refine codeAny_call_cells (s:=sh s h tk) (binds:=binds) hA.room ho hdata hn hc rfl (hb ..) rfl hkind (fun s₁ x=>?_) hco hgen hk
 refine wpAny_mono (c _ q h.objs.size cd s₁ (OkA.deeper hA) rfl x) (fun fl s' hq=>?_) fun _ _ e=>e.elim
 cases fl <;> exact hq
end
end Mine
namespace Mine
abbrev Road:=Int×List Int
noncomputable def stepRoad (x:Int)(r:Road):List Road:=
 if x>255 then ((List.range 3).map Int.ofNat).map (fun to=>(to,r.2++[256+9*(x - 256)+3*r.1+to]))
 else if x=63∨x=4 then [(if x=63 then 2 else 0,if x=4∧r.1=2 then r.2 else r.2++[4])]
 else [(1,r.2++[if (x=23∨x=52)∧r.1≠1 then x+200 else x])]
noncomputable def roadsOf (start:Int)(body:List Int):List Road:=body.foldl (fun roads x=>roads.flatMap (stepRoad x)) [(start,[])]
noncomputable def sendRow (hd start:Int)(r:Road):List Int:=[256+9*(hd - 256)+3*start+r.1]++r.2++[0]
noncomputable def startsOf (hd:Int):List Int:=(List.range (if hd>256 then 3 else 1)).map Int.ofNat
noncomputable def sendRule (r:List Int):List Int:=(startsOf (r.headD 0)).flatMap fun st=>(roadsOf st (r.drop 1)).flatMap (sendRow (r.headD 0) st)
noncomputable def sendsOf (rules:List (List Int)):List Int:=rules.flatMap sendRule
theorem flat_take {α β:Type}(f:α→List β)(xs:List α){i:Nat}{a:α}(h:xs[i]?=some a):(xs.take (i+1)).flatMap f=(xs.take i).flatMap f++f a:=by
 rw [take_add_one,h,flatMap_append];simp
theorem stepRoad_length (x:Int)(r:Road):(stepRoad x r).length≤3:=by
 unfold stepRoad;split
 ·simp
 ·split <;> simp
theorem flat_length {α β:Type}(f:α→List β)(B:Nat)(hf:∀a,(f a).length≤B):∀xs:List α,(xs.flatMap f).length≤B*xs.length
 | []=>by simp
 | a::xs=>by
  have h1:=hf a
  have h2:=flat_length f B hf xs
  rw [flatMap_cons,length_append,length_cons,Nat.mul_succ];exact lp [_,_,_,_] [(zA,zB),(zC,zD)] (.add zA zC) (.add zD zB) rfl h1 h2
theorem stepRoad_row {x:Int}{r r':Road}(h:r'∈stepRoad x r):r'.2.length≤r.2.length+1:=by
 unfold stepRoad at h
 split at h
 ·simp only [mem_map] at h
  obtain⟨a,_,rfl⟩:=h
  simp
 ·split at h
  ·simp only [mem_singleton] at h
   subst h
   dsimp only
   split <;> simp
  ·simp only [mem_singleton] at h
   subst h
   simp
theorem roadsOf_step {st:Int}{body:List Int}{j:Nat}{x:Int}(h:body[j]?=some x):roadsOf st (body.take (j+1))=(roadsOf st (body.take j)).flatMap (stepRoad x):=by
 unfold roadsOf
 rw [take_add_one,h]
 simp [foldl_append]
theorem roads_bound (x:Int):∀(body:List Int)(rs:List Road)(B:Nat),(∀r∈rs,r.2.length≤B)→
  (body.foldl (fun roads x=>roads.flatMap (stepRoad x)) rs).length≤3 ^ body.length*rs.length∧∀r∈body.foldl (fun roads x=>roads.flatMap (stepRoad x)) rs,r.2.length≤B+body.length
 | [],rs,B,h=>by simpa using h
 | y::body,rs,B,h=>by
  have ih:=roads_bound x body (rs.flatMap (stepRoad y)) (B+1) (fun r hr=>by
   obtain⟨a,ha,hr⟩:=mem_flatMap.mp hr
   have h1:=stepRoad_row hr
   have h2:=h a ha
   exact lp [_,_,_] [(zA,su zB),(zB,zC)] zA (su zC) rfl h1 h2)
  have hl:=flat_length (stepRoad y) 3 (stepRoad_length y) rs
  refine⟨?_,fun r hr=>?_⟩
  ·rw [foldl_cons,length_cons,Nat.pow_succ]
   refine nT ih.1 ?_
   rw [Nat.mul_assoc]
   exact Nat.mul_le_mul_left _ hl
  ·have:=ih.2 r (by simpa using hr)
   rw [length_cons];exact lp [_,_,_] [(zA,.add (su zB) zC)] zA (.add zB (su zC)) rfl this
theorem roadsOf_bound (st:Int)(body:List Int)(hb:body.length≤3):(roadsOf st body).length≤27∧∀r∈roadsOf st body,r.2.length≤3:=by
 have:=roads_bound 0 body [(st,[])] 0 (by simp)
 have h27:3 ^ body.length≤27:=by
  have:3 ^ body.length≤3 ^ 3:=Nat.pow_le_pow_right (lp [] [] (.add (.num 0) (.num 1)) (.num 3) rfl) hb
  simpa using this
 refine⟨?_,fun r hr=>?_⟩
 ·have h1:=this.1
  simp at h1
  exact nT h1 h27
 ·have:=this.2 r hr
  exact lp [_,_] [(zA,.num 3),(zB,.add (.num 0) zA)] zB (.num 3) rfl hb this
theorem sum_flat {α β:Type}(f:α→List β)(B:Nat):∀xs:List α,(∀a∈xs,(f a).length≤B)→(xs.flatMap f).length≤B*xs.length
 | [],_=>by simp
 | a::xs,hf=>by
  have h1:=hf a mem_cons_self
  have h2:=sum_flat f B xs fun b hb=>hf b (mem_cons_of_mem _ hb)
  rw [flatMap_cons,length_append,length_cons,Nat.mul_succ];exact lp [_,_,_,_] [(zA,zB),(zC,zD)] (.add zA zC) (.add zD zB) rfl h1 h2
theorem sendRoads_length (hd st:Int)(body:List Int)(hb:body.length≤3):((roadsOf st body).flatMap (sendRow hd st)).length≤5*27:=by
 have h:=roadsOf_bound st body hb
 have:=sum_flat (sendRow hd st) 5 (roadsOf st body) (fun r hr=>by
  have:=h.2 r hr
  unfold sendRow;simp;exact this)
 exact lq [_,_] [(5,zA,.num 27),(1,zB,.mulL 5 zA)] 1 zB (.mulL 5 (.num 27)) rfl h.1 this
theorem sendRule_length (r:List Int)(hr:r.length≤4):(sendRule r).length≤405:=by
 unfold sendRule
 have hs:(startsOf (r.headD 0)).length≤3:=by
  unfold startsOf;rw [length_map,length_range];split <;> (first|exact lp [] [] (.num 3) (.num 3) rfl|exact lp [] [] (.num 1) (.num 3) rfl)
 have:=sum_flat (fun st=>(roadsOf st (r.drop 1)).flatMap (sendRow (r.headD 0) st)) 135 (startsOf (r.headD 0)) (fun st _=>sendRoads_length _ _ _ (by rw [length_drop];exact (Nat.le_total 1 (List.length r)).elim (fun hq2=>lp [_,_] [(zA,.num 4),(su zB,zA)] zB (.num 3) rfl hr (sbB _ _ hq2)) (fun hq2=>lp [_] [(zA,.num 0)] zA (.num 3) rfl (sbC _ _ hq2))))
 exact lq [_,_] [(135,zA,.num 3),(1,zB,.mulL 135 zA)] 1 zB (.num 405) rfl hs this
end Mine
namespace Mine
noncomputable def rRoad:Rel Road:=rTup2 rInt (rList rInt)
noncomputable def stN:List Str:=["rules","tape","rule","start","roads","more"]
theorem stN_nd:stN.Nodup:=by decide
noncomputable def loop70:List Stmt:=bodyOf ((bodyOf ((bodyOf ((bodyOf (stA 70)).getD 1 (.Pass ⟨0,0,0,0⟩))).getD 0 (.Pass ⟨0,0,0,0⟩))).getD 1 (.Pass ⟨0,0,0,0⟩))
abbrev enS (q:Str)(L:Addr)(cd:Value):Env:=en q (scopeOf (stA 70)) L 145 cd (cellsFrom (L+1) (scopeOf (stA 70)).names [])
section
noncomputable def road70:List Stmt:=bodyOf (loop70.getD 1 (.Pass ⟨0,0,0,0⟩))
noncomputable def comp70:Expr:=kid (valOf ((bodyOf (road70.getD 0 (.Pass ⟨0,0,0,0⟩))).getD 0 (.Pass ⟨0,0,0,0⟩))) 1
theorem small9 (b:Int):IntMulOk 9 b:=.of_left (by decide +kernel)
theorem small3 (b:Int):IntMulOk 3 b:=.of_left (by decide +kernel)
theorem gx_reach {k:Nat}{qn:Str}{cd:Value}{x st:Int}{row:List Int}{o1 o2 o3:Obj}{xv sv rwv:Value}(B:Mod base)(hb:Sub base K)(hA:OkA A (k+1))(S:St O K (enS qn L cd).locals m led h)
  (h1:(((L+1:Nat):Addr),o1)∈led)(h2:(((L+1+1:Nat):Addr),o2)∈led)(h3:(((L+1+1+1:Nat):Addr),o3)∈led)(e1:o1.data = .cell (some xv))(e2:o2.data = .cell (some sv))(e3:o3.data = .cell (some rwv))
  (r1:rInt.r K xv x)(r2:rInt.r K sv st)(rr:(rList rInt).r K rwv row)(hlen:row.length≤1000)(hx:x>255):Gx prog w A s O K h (enS qn L cd).locals m led (enS qn L cd) comp70 (rList rRoad) (stepRoad x (st,row)):=
 gx_eq (gx_comp0 (fun to=>(to,row++[256+9*(x - 256)+3*st+to])) rfl (gi_range (n:=3) B hb hA S gv_i (.inr (.inl rfl))) (by simp)
  (fun B0 a v K1 C led1 h5 _ ra hK hold S5=>gx_tup2 (gx_v S5 (gv_n (env:=compEnvC _ _ C (enS qn L cd)) S5 0 (by simp) ra)) fun K' h' hK' S'=>gx_cat (gx_v S' (gv_c (S'.keepB _ _ (hold _ h3)) e3 ((rList rInt).mono (hK.trans hK') rr)))
   (fun K'' h'' hK'' S''=>gx_list (gl_v (gv_add (gv_add (gv_add gv_i (gv_mul gv_i (gv_sub (gv_c (S''.keepB _ _ (hold _ h1)) e1 (rInt.mono ((hK.trans hK').trans hK'') r1)) gv_i) (small9 _))) (gv_mul gv_i (gv_c (S''.keepB _ _ (hold _ h2)) e2 (rInt.mono ((hK.trans hK').trans hK'') r2)) (small3 _))) (gv_n (env:=compEnvC _ _ C (enS qn L cd)) S'' 0 (by simp) (rInt.mono (hK'.trans hK'') ra))) (gl_nil S'')) (by simp)) (by simp;exact lp [_] [(zA,.num 1000)] zA (.num 16777215) rfl hlen)))
  (by unfold stepRoad;rw [if_pos hx])
end
end Mine
namespace Mine
section
inductive RdJ (x0 x1 x2 x3:Option Value)(rv:Value)(M L:Addr)(p1 p2 p3 p4:Addr×Obj)(o1:Obj)(roads:List Road)(x:Int):Nat→Heap→(Str→Option Value)→List (Addr×Obj)→Prop
 | mk (i:Nat) (K:Heap) (mvs:List Value) (n:Nat) (o2 o3:Obj) (w2 w3:Option Value):o2.data = .cell w2→o3.data = .cell w3→All2 (rRoad.r K) mvs ((roads.take i).flatMap (stepRoad x))→
  RdJ x0 x1 x2 x3 rv M L p1 p2 p3 p4 o1 roads x i K (loc stN [x0,x1,x2,x3,some rv,some (.ref M)]) [(M,lo mvs.toArray n),p1,p2,p3,p4,((L+1:Nat),o1),((L+1+1:Nat),o2),((L+1+1+1:Nat),o3)]
theorem step_two {x st:Int}{row:List Int}(hx:¬x>255)(h:((x == 63)||(x == 4))=true):stepRoad x (st,row)=[(if x == 63 then 2 else 0,if ((x == 4)&&(st == 2))=true then row else row++[4])]:=by
 unfold stepRoad
 simp only [Bool.or_eq_true,beq_iff_eq] at h
 rw [if_neg hx,if_pos h]
 simp only [beq_iff_eq,Bool.and_eq_true]
theorem step_one {x st:Int}{row:List Int}(hx:¬x>255)(h:¬((x == 63)||(x == 4))=true):stepRoad x (st,row)=[(1,row++[if ((([23,52]:List Int).any fun y=>y == x)&&(st != 1))=true then x+200 else x])]:=by
 unfold stepRoad
 simp only [Bool.or_eq_true,beq_iff_eq] at h
 rw [if_neg hx,if_neg h]
 have e:((([23,52]:List Int).any fun y=>y == x)&&(st != 1))=true↔(x=23∨x=52)∧st≠1:=by
  simp only [List.any_cons,List.any_nil,Bool.or_false,Bool.and_eq_true,Bool.or_eq_true,beq_iff_eq,bne_iff_ne]
  exact⟨fun h=>⟨h.1.imp Eq.symm Eq.symm,h.2⟩,fun h=>⟨h.1.imp Eq.symm Eq.symm,h.2⟩⟩
 simp only [e]
theorem states_symbol {k:Nat}{qn:Str}{cd:Value}{x:Int}{o1 o2 o3:Obj}{xv:Value}{w2 w3 x0 x1 x2 x3 x5:Option Value}{rv:Value}{roads:List Road}{p1 p2 p3 p4:Addr×Obj}{Q:Flow→Shared→Prop}(B:Mod base)(hb:Sub base K)(hA:OkA A (k+1))
  (S:St O K (enS qn L cd).locals (loc stN [x0,x1,x2,x3,some rv,x5]) [p1,p2,p3,p4,((L+1:Nat),o1),((L+1+1:Nat),o2),((L+1+1+1:Nat),o3)] h)
  (e1:o1.data = .cell (some xv))(rx:rInt.r K xv x)(e2:o2.data = .cell w2)(e3:o3.data = .cell w3)(rr:(rList rRoad).r K rv roads)(hlen:roads.length≤1000)(hrow:∀r∈roads,r.2.length≤500)
  (c:∀K' h' tk' rv' x5 o2' o3' w2' w3',Sub K K'→o2'.data = .cell w2'→o3'.data = .cell w3'→
   St O K' (enS qn L cd).locals (loc stN [x0,x1,x2,x3,some rv',x5]) [p1,p2,p3,p4,((L+1:Nat),o1),((L+1+1:Nat),o2'),((L+1+1+1:Nat),o3')] h'→
   (rList rRoad).r K' rv' (roads.flatMap (stepRoad x))→Q .next (sh s h' tk')) :
  wpAny (model prog w) A (execs loop70 (enS qn L cd)) Q E (sh s h tk):=by
 refine as_newl S 5 stN_nd fun M h1 tk1 hM S1=>?_
 clear S
 refine for_t (gi_list hA (gx_v S1 (gv_n S1 4 stN_nd rr))) (RdJ x0 x1 x2 x3 rv M L p1 p2 p3 p4 o1 roads x) (fun K' _=>.mk 0 K' [] 0 o2 o3 w2 w3 e2 e3 .nil) (fun K v a=>tup2_ex) ?_ ?_
 ·clear S1 c e2 e3 rr
  intro i a T b c' K5 m5 led5 h5 tk5 I ob5 E5 Q5 hi hr hT hK5 hJ S5 next
  obtain⟨st,row⟩:=a
  obtain⟨mvs,n,o2',o3',w2',w3',e2',e3',hmv⟩:=hJ
  obtain⟨T',b',c'',eT,hT',rst,rrow⟩:=hr
  cases eT
  rw [hT'] at hT;cases hT
  have hilt:=(List.getElem?_eq_some_iff.mp hi).1
  have hrl:row.length≤500:=hrow _ (mem_of_getElem? hi)
  have hml:mvs.length≤3*1000:=by
   rw [hmv.length]
   have:=flat_length (stepRoad x) 3 (stepRoad_length x) (roads.take i)
   rw [length_take] at this
   exact lq [_,_,_] [(3,zA,.num 1000),(1,zB,.mulL 3 zC),(3,zC,zA)] 1 zB (.mulL 3 (.num 1000)) rfl hlen this (Nat.min_le_right _ _)
  have hb5:=hb.trans hK5
  refine assign2c hA S5 hT' (i:=7) (j:=8) rfl e2' rfl e3' (by decide) fun o2'' o3'' h6 tk6 e2'' e3'' S6=>?_
  replace next:∀K7 mvs' n' h7 tk7,Sub K5 K7→All2 (rRoad.r K7) mvs' (stepRoad x (st,row))→St O K7 (enS qn L cd).locals (loc stN [x0,x1,x2,x3,some rv,some (.ref M)]) [(I,ob5),(M,lo (mvs++mvs').toArray n'),p1,p2,p3,p4,((L+1:Nat),o1),((L+1+1:Nat),o2''),((L+1+1+1:Nat),o3'')] h7→
    Q5 .next (sh s h7 tk7):=fun K7 mvs' n' h7 tk7 hK7 hmv' S7=>next K7 _ _ h7 tk7 hK7 (.mk (i+1) K7 (mvs++mvs') n' o2'' o3'' _ _ e2'' e3'' (by rw [flat_take _ _ hi];exact (hmv.imp fun _ _ q=>rRoad.mono hK7 q).app hmv')) S7
  clear S5 hmv hi hilt e2' e3' hT' hrow
  have rx5:=rInt.mono hK5 rx
  have gs:∀{K' h'} {led'} {i':Nat} {p:Pos},Sub K5 K'→St O K' (enS qn L cd).locals (loc stN [x0,x1,x2,x3,some rv,some (.ref M)]) led' h'→led'[6]?=some (((L+1:Nat):Addr),o1)→Gv prog w A s h' K' (enS qn L cd) (.Name "symbol" p) rInt x:=fun hK S hi=>gv_c (S.at 6 hi) e1 (rInt.mono hK rx5)
  refine if_g (ts_gt (gv_c (S6.at 6 rfl) e1 rx5) gv_i) (fun hx tk7=>?_) fun hx tk7=>if_g (ts_or (ts_eq (gv_c (S6.at 6 rfl) e1 rx5) gv_i) (ts_eq (gv_c (S6.at 6 rfl) e1 rx5) gv_i)) (fun h2 tk8=>?_) fun h2 tk8=>?_
  ·refine ext_x (R:=rRoad) S6 5 1 stN_nd rfl (gx_reach B hb5 hA S6 (mem_of_getElem? (i:=6) rfl) (mem_of_getElem? (i:=7) rfl) (mem_of_getElem? (i:=8) rfl) e1 e2'' e3'' rx5 rst rrow (nT hrl (by decide)) (of_decide_eq_true hx)) (by have:=stepRoad_length x (st,row);exact lp [_,_] [(zA,.mulL 3 (.num 1000)),(zB,.num 3)] (.add zA zB) (.num 8388608) rfl hml this) fun K7 ws h7 tk7 n7 hK7 hws S7=>?_
   exact wpAny_execs_nil (next K7 ws n7 h7 tk7 hK7 hws S7)
  ·refine app_x (R:=rRoad) S6 5 1 stN_nd rfl (gx_tup2 (gx_v S6 (gv_if (x:=if x == 63 then 2 else 0) (ts_eq (gv_c (S6.at 6 rfl) e1 rx5) gv_i) (fun e=>gv_eq gv_i (by rw [if_pos e])) fun e=>gv_eq gv_i (by rw [if_neg e])))
    (fun K' h' hK' S'=>gx_if (x:=if ((x == 4)&&(st == 2))=true then row else row++[4]) (ts_and (ts_eq (gv_c (S'.at 6 rfl) e1 (rInt.mono hK' rx5)) gv_i) fun _=>ts_eq (gv_c (S'.at 7 rfl) e2'' (rInt.mono hK' rst)) gv_i)
     (fun e=>gx_eq (gx_v S' (gv_c (S'.at 8 rfl) e3'' ((rList rInt).mono hK' rrow))) (by rw [if_pos e]))
     fun e=>gx_eq (gx_cat (gx_v S' (gv_c (S'.at 8 rfl) e3'' ((rList rInt).mono hK' rrow))) (fun K'' h'' _ S''=>gx_list (xs:=[4]) (gl_v gv_i (gl_nil S'')) (by simp)) (by simp;exact lp [_] [(zA,.num 500)] zA (.num 16777215) rfl hrl)) (by rw [if_neg e]))) (nT hml (by decide)) fun K7 v h7 tk7 n7 hK7 hv S7=>?_
   exact wpAny_execs_nil (next K7 [v] n7 h7 tk7 hK7 (by rw [step_two (fun q=>hx (decide_eq_true q)) h2];exact .cons hv .nil) S7)
  ·refine app_x (R:=rRoad) S6 5 1 stN_nd rfl (gx_tup2 (gx_v S6 gv_i) (fun K' h' hK' S'=>gx_cat (gx_v S' (gv_c (S'.at 8 rfl) e3'' ((rList rInt).mono hK' rrow)))
    (fun K'' h'' hK'' S''=>gx_list (gl_cons (gx_ifx (x:=if ((([23,52]:List Int).any fun y=>y == x)&&(st != 1))=true then x+200 else x)
     (tx_and (tx_inT (gv_c (S''.at 6 rfl) e1 (rInt.mono (hK'.trans hK'') rx5)) (gx_tup (gl_v gv_i (gl_v gv_i (gl_nil S''))) (by simp))) fun _ K3 h3 hK3 S3=>tx_t S3 (ts_ne (gv_c (S3.at 7 rfl) e2'' (rInt.mono ((hK'.trans hK'').trans hK3) rst)) gv_i))
     (fun e K3 h3 hK3 S3=>gx_v S3 (gv_eq (gv_add (gv_c (S3.at 6 rfl) e1 (rInt.mono ((hK'.trans hK'').trans hK3) rx5)) gv_i) (by rw [if_pos e])))
     fun e K3 h3 hK3 S3=>gx_v S3 (gv_eq (gv_c (S3.at 6 rfl) e1 (rInt.mono ((hK'.trans hK'').trans hK3) rx5)) (by rw [if_neg e]))) fun K3 h3 _ S3=>gl_nil S3) (by simp)) (by simp;exact lp [_] [(zA,.num 500)] zA (.num 16777215) rfl hrl))) (nT hml (by decide)) fun K7 v h7 tk7 n7 hK7 hv S7=>?_
   exact wpAny_execs_nil (next K7 [v] n7 h7 tk7 hK7 (by rw [step_one (fun q=>hx (decide_eq_true q)) h2];exact .cons hv .nil) S7)
 ·intro K5 m5 led5 h5 tk5 hK5 hJ S5
  obtain⟨mvs,n,o2',o3',w2',w3',e2',e3',hmv⟩:=hJ
  rw [take_length] at hmv
  refine as_v (R:=rVal) S5 4 stN_nd (gv_n S5 5 stN_nd rfl) fun v h6 tk6 hv S6=>wpAny_execs_nil ?_
  obtain rfl:v = .ref M:=hv
  obtain⟨K7,hK7,S7,hr⟩:=S6.freezeL hM hmv
  exact c K7 h6 tk6 _ _ o2' o3' w2' w3' (hK5.trans hK7) e2' e3' S7 hr
end
end Mine
namespace Mine
structure StatesOk (rules:List (List Int)):Prop where
 len:rules.length≤100
 row:∀r∈rules,r≠[]∧r.length≤4
section
abbrev cel (L:Addr)(o1 o2 o3:Obj):List (Addr×Obj):=[((L+1:Nat),o1),((L+1+1:Nat),o2),((L+1+1+1:Nat),o3)]
inductive SJ (v:Value)(TA L:Addr)(rules:List (List Int)):Nat→Heap→(Str→Option Value)→List (Addr×Obj)→Prop
 | mk (i:Nat) (K:Heap) (vs:List Value) (n:Nat) (o1 o2 o3:Obj) (w1 w2 w3 x2 x3 x4 x5:Option Value):o1.data = .cell w1→o2.data = .cell w2→o3.data = .cell w3→All2 (rInt.r K) vs (sendsOf (rules.take i))→
  SJ v TA L rules i K (loc stN [some v,some (.ref TA),x2,x3,x4,x5]) ((TA,lo vs.toArray n)::cel L o1 o2 o3)
inductive SJ2 (v rv:Value)(TA L:Addr)(p:Addr×Obj)(sofar:List Int)(f:Int→List Int)(b:Nat)(starts:List Int):Nat→Heap→(Str→Option Value)→List (Addr×Obj)→Prop
 | mk (j:Nat) (K:Heap) (vs:List Value) (n:Nat) (o1 o2 o3:Obj) (w1 w2 w3 x3 x4 x5:Option Value):o1.data = .cell w1→o2.data = .cell w2→o3.data = .cell w3→All2 (rInt.r K) vs (sofar++(starts.take j).flatMap f)→vs.length≤b+135*j→
  SJ2 v rv TA L p sofar f b starts j K (loc stN [some v,some (.ref TA),some rv,x3,x4,x5]) (p::(TA,lo vs.toArray n)::cel L o1 o2 o3)
inductive SJ3 (v rv sv:Value)(TA L:Addr)(p1 p2 p3:Addr×Obj)(st:Int)(tl:List Int):Nat→Heap→(Str→Option Value)→List (Addr×Obj)→Prop
 | mk (j:Nat) (K:Heap) (o1 o2 o3:Obj) (w1 w2 w3 x5:Option Value) (rv':Value):o1.data = .cell w1→o2.data = .cell w2→o3.data = .cell w3→(rList rRoad).r K rv' (roadsOf st (tl.take j))→
  SJ3 v rv sv TA L p1 p2 p3 st tl j K (loc stN [some v,some (.ref TA),some rv,some sv,some rv',x5]) (p1::p2::p3::cel L o1 o2 o3)
inductive SJ4 (v rv sv rv':Value)(x5:Option Value)(TA L:Addr)(p1 p2:Addr×Obj)(o1:Obj)(vs:List Value)(f:Road→List Int)(roads:List Road):Nat→Heap→(Str→Option Value)→List (Addr×Obj)→Prop
 | mk (j:Nat) (K:Heap) (us:List Value) (n:Nat) (o2 o3:Obj) (w2 w3:Option Value):o2.data = .cell w2→o3.data = .cell w3→All2 (rInt.r K) us ((roads.take j).flatMap f)→
  SJ4 v rv sv rv' x5 TA L p1 p2 o1 vs f roads j K (loc stN [some v,some (.ref TA),some rv,some sv,some rv',x5]) (p1::p2::(TA,lo (vs++us).toArray n)::cel L o1 o2 o3)
theorem starts_at (hd:Int):∃nn:Nat,(nn=1∨nn=3)∧startsOf hd=(List.range nn).map Int.ofNat∧(if decide ((256:Int)<hd)=true then (3:Int) else 1)=(nn:Int):=by
 unfold startsOf
 by_cases h256:hd>256
 ·exact⟨3,.inr rfl,by rw [if_pos h256],by rw [decide_eq_true (show (256:Int)<hd from h256)];rfl⟩
 ·exact⟨1,.inl rfl,by rw [if_neg h256],by rw [decide_eq_false (show ¬(256:Int)<hd from h256)];rfl⟩
theorem states_call {k:Nat}{v:Value}{rules:List (List Int)}{Q:Value→Shared→Prop}(B:Mod base)(hb:Sub base K)(hs:Sub K h)(hA:OkA A (k+2))(r:(rList (rList rInt)).r K v rules)(ok:StatesOk rules)
  (c:∀K' h' tk' v,Grow K h K' h'→(rList rInt).r K' v (sendsOf rules)→Q v (sh s h' tk')):wpAny (model prog w) A (call (.ref 145) [v]) Q E (sh s h tk):=by
 refine call_fnX (k:=k+1) (binds:=[("rules",v)]) hA ((B.fns (145,70) (by decide)).sub (hb.trans hs)) (B.nolimit.keeps (hb.trans hs)) (fun _ _ _ _ _=>rfl) (fun x hx=>?_) (fun A' qn L cd s₁ hA' hL x=>?_)
 ·rw [mem_singleton] at hx;subst hx;exact .inl rfl
 subst hL
 obtain⟨o1,ho1,e1⟩:=x.cell "symbol" (h.objs.size+1) rfl
 obtain⟨o2,ho2,e2⟩:=x.cell "state" (h.objs.size+1+1) rfl
 obtain⟨o3,ho3,e3⟩:=x.cell "row" (h.objs.size+1+1+1) rfl
 obtain⟨h₀,tk₀,rfl⟩:=x.toInCall.same
 have S:=St.enterC hs x [((h.objs.size+1:Nat),o1),((h.objs.size+1+1:Nat),o2),((h.objs.size+1+1+1:Nat),o3)] (fun p hp=>by
  simp only [mem_cons,not_mem_nil,or_false] at hp
  rcases hp with rfl|rfl|rfl
  ·exact⟨ho1,by show @LT.lt Nat _ h.objs.size (h.objs.size+1);exact lp [_] [] (su zA) (su zA) rfl⟩
  ·exact⟨ho2,by show @LT.lt Nat _ h.objs.size (h.objs.size+1+1);exact lp [_] [] (su zA) (.add (su zA) (.num 1)) rfl⟩
  ·exact⟨ho3,by show @LT.lt Nat _ h.objs.size (h.objs.size+1+1+1);exact lp [_] [] (su zA) (.add (.add (su zA) (.num 1)) (.num 1)) rfl⟩) (by simp)
 have hm:bindL (en qn (scopeOf (stA 70)) h.objs.size 145 cd (cellsFrom (h.objs.size+1) (scopeOf (stA 70)).names [])).kindOf [("rules",v)] (fun _=>none)=loc stN [some v,none,none,none,none,none]:=by
  have:bindL (en qn (scopeOf (stA 70)) h.objs.size 145 cd (cellsFrom (h.objs.size+1) (scopeOf (stA 70)).names [])).kindOf [("rules",v)] (fun _=>none)=fun y=>if y=("rules" : Str) then some v else none:=by
   have hk:(en qn (scopeOf (stA 70)) h.objs.size 145 cd (cellsFrom (h.objs.size+1) (scopeOf (stA 70)).names [])).kindOf ("rules" : Str)=some .local:=rfl
   unfold bindL
   rw [if_pos hk];rfl
  rw [this]
  funext y
  by_cases hy:y=("rules" : Str) <;> simp [loc,stN,hy]
 rw [hm] at S
 clear hm x
 obtain⟨L,hLL⟩:∃L,L=h.objs.size:=⟨_,rfl⟩
 rw [←hLL] at S e1 e2 e3 ⊢
 clear hLL
 replace S:St ⟨h,K⟩ K (enS qn L cd).locals (loc stN [some v,none,none,none,none,none]) (cel L o1 o2 o3) h₀:=S
 refine hide fun Q0 fin0=>?_
 replace c:∀K' h' tk' v,Grow K h K' h'→(rList rInt).r K' v (sendsOf rules)→Q0 (.ret v) (sh s h' tk'):=fun K' h' tk' v g r=>fin0 _ _ (c K' h' tk' v g r)
 clear fin0
 show wpAny (model prog w) A' _ Q0 _ (sh s h₀ tk₀)
 refine as_newl (env:=enS qn L cd) S 1 stN_nd fun TA h1 tk1 hTA S1=>?_
 clear S
 refine for_x (gi_list hA' (gx_v S1 (gv_n S1 0 stN_nd r))) (SJ v TA L rules) (fun K' _=>.mk 0 K' [] 0 o1 o2 o3 _ _ _ none none none none e1 e2 e3 .nil) ?_ ?_
 ·clear S1 c e1 e2 e3
  intro i rl rv K5 m5 led5 h5 tk5 I ob5 E5 Q5 hi hrl hK5 hJ S5 next
  obtain⟨vs,n,o1,o2,o3,w1,w2,w3,x2,x3,x4,x5,e1,e2,e3,hvs⟩:=hJ
  have okr:=ok.row rl (mem_of_getElem? hi)
  have hilt:=(List.getElem?_eq_some_iff.mp hi).1
  have hb5:=hb.trans hK5
  have hvl:vs.length≤405*i:=by
   rw [hvs.length]
   have:=sum_flat sendRule 405 (rules.take i) (fun r hr=>sendRule_length r (ok.row r (mem_of_mem_take hr)).2)
   rw [length_take] at this
   unfold sendsOf
   exact nT this (Nat.mul_le_mul_left _ (Nat.min_le_left _ _))
  have hi100:i<100:=Nat.lt_of_lt_of_le hilt ok.len
  obtain⟨hd,tl,rfl⟩:∃hd tl,rl=hd::tl:=by
   cases rl with
   | nil=>exact absurd rfl okr.1
   | cons a b=>exact⟨a,b,rfl⟩
  have htl:tl.length≤3:=Nat.le_of_succ_le_succ okr.2
  have estep:sendsOf (rules.take (i+1))=sendsOf (rules.take i)++sendRule (hd::tl):=flat_take sendRule rules hi
  have erule:sendRule (hd::tl)=(startsOf hd).flatMap fun st=>(roadsOf st tl).flatMap (sendRow hd st):=rfl
  rw [erule] at estep
  clear erule
  replace next:∀K' vs' n' o1 o2 o3 w1 w2 w3 x2 x3 x4 x5 h' tk',Sub K5 K'→o1.data = .cell w1→o2.data = .cell w2→o3.data = .cell w3→All2 (rInt.r K') vs' (sendsOf (rules.take i)++(startsOf hd).flatMap fun st=>(roadsOf st tl).flatMap (sendRow hd st))→
    St ⟨h,K⟩ K' (enS qn L cd).locals (loc stN [some v,some (.ref TA),x2,x3,x4,x5]) ((I,ob5)::(TA,lo vs'.toArray n')::cel L o1 o2 o3) h'→Q5 .next (sh s h' tk'):=
   fun K' vs' n' o1 o2 o3 w1 w2 w3 x2 x3 x4 x5 h' tk' b1 b2 b3 b4 b5 b6=>next K' _ _ h' tk' b1 (.mk (i+1) K' vs' n' o1 o2 o3 w1 w2 w3 x2 x3 x4 x5 b2 b3 b4 (by rw [estep];exact b5)) b6
  clear estep hi hilt
  obtain⟨sofar,hsf⟩:∃sofar,sofar=sendsOf (rules.take i):=⟨_,rfl⟩
  rw [←hsf] at hvs next
  clear hsf
  refine as_n S5 2 stN_nd fun h6 tk6 S6=>?_
  clear S5
  obtain⟨nn,hnn,hst,hif⟩:=starts_at hd
  have hsl:(startsOf hd).length≤3:=by rw [hst,length_map,length_range];exact hnn.elim (fun hr=>lp [_] [(zA,.num 1)] zA (.num 3) rfl (eqL hr)) (fun hr=>(eqL hr))
  have g0:∀{K' h' led'} {x3 x4 x5:Option Value} {p1 p2 p3:Pos} {k:Nat},Sub K5 K'→St ⟨h,K⟩ K' (enS qn L cd).locals (loc stN [some v,some (.ref TA),some rv,x3,x4,x5]) led' h'→Gv prog w A' s h' K' (enS qn L cd) (.Subscript (.Name "rule" p1) (.Constant (.int 0) k p2) p3) rInt hd:=
   fun hK' S'=>gv_lst S'.stays (gv_n S' 2 stN_nd ((rList rInt).mono hK' hrl)) gv_i (by decide) (by decide) rfl
  refine for_x (gi_range (n:=nn) B hb5 hA' S6 (gv_if (ts_gt (g0 (Sub.refl _) S6) gv_i) (fun e=>gv_eq gv_i (by rw [←hif,if_pos e])) fun e=>gv_eq gv_i (by rw [←hif,if_neg e])) (hnn.imp id .inl))
   (SJ2 v rv TA L (I,ob5) sofar (fun st=>(roadsOf st tl).flatMap (sendRow hd st)) (405*i) ((List.range nn).map Int.ofNat)) (fun K' hK'=>.mk 0 K' vs n o1 o2 o3 w1 w2 w3 x3 x4 x5 e1 e2 e3 (by simpa using hvs.imp fun _ _ q=>rInt.mono hK' q) hvl) ?_ ?_
  ·rw [←hst]
   clear S6 next e1 e2 e3 hvs hif hst hvl
   intro j st sv K8 m8 led8 h8 tk8 I2 ob8 E8 Q8 hj rst hK8 hJ S8 next
   obtain⟨vs,n,o1,o2,o3,w1,w2,w3,x3,x4,x5,e1,e2,e3,hvs,hvl⟩:=hJ
   have hb8:=hb5.trans hK8
   have hjlt:=(List.getElem?_eq_some_iff.mp hj).1
   have hjn:j<3:=Nat.lt_of_lt_of_le hjlt hsl
   replace next:∀K' us n' o1 o2 o3 w1 w2 w3 x3 x4 x5 h' tk',Sub K8 K'→o1.data = .cell w1→o2.data = .cell w2→o3.data = .cell w3→All2 (rInt.r K') us ((roadsOf st tl).flatMap (sendRow hd st))→
     St ⟨h,K⟩ K' (enS qn L cd).locals (loc stN [some v,some (.ref TA),some rv,x3,x4,x5]) ((I2,ob8)::(I,ob5)::(TA,lo (vs++us).toArray n')::cel L o1 o2 o3) h'→Q8 .next (sh s h' tk'):=
    fun K' us n' o1 o2 o3 w1 w2 w3 x3 x4 x5 h' tk' b1 b2 b3 b4 b5 b6=>next K' _ _ h' tk' b1 (.mk (j+1) K' (vs++us) n' o1 o2 o3 w1 w2 w3 x3 x4 x5 b2 b3 b4 (by
     rw [flat_take _ _ hj,←append_assoc]
     exact (hvs.imp fun _ _ q=>rInt.mono b1 q).app b5) (by
     have:=sendRoads_length hd st tl htl
     rw [length_append,b5.length]
     exact lp [_,_,_,_] [(zA,.add (.mulL 405 zB) (.mulL 135 zC)),(zD,.mulL 5 (.num 27))] (.add zA zD) (.add (.mulL 405 zB) (.mulL 135 (su zC))) rfl hvl this)) b6
   clear hj hjlt hvs
   refine as_n S8 3 stN_nd fun h9 tk9 S9=>?_
   clear S8
   refine as_x (R:=rList rRoad) 4 stN_nd (gx_list (xs:=[(st,[])]) (gl_cons (gx_tup2 (gx_v S9 (gv_n S9 3 stN_nd rst)) fun K' h' _ S'=>gx_list (xs:=[]) (gl_nil S') (by simp)) fun K' h' _ S'=>gl_nil S') (by simp)) fun K12 v12 h13 tk13 hK13 hv12 S13=>?_
   clear S9
   refine for_x (gi_list hA' (gx_tail S13 (gv_n S13 2 stN_nd ((rList rInt).mono (hK8.trans hK13) hrl)) (by have:=okr.2;exact lp [_] [(zA,.num 4)] zA (.num 16777216) rfl this))) (SJ3 v rv sv TA L (I2,ob8) (I,ob5) (TA,lo vs.toArray n) st tl) (fun K' hK'=>.mk 0 K' o1 o2 o3 w1 w2 w3 x5 v12 e1 e2 e3 ((rList rRoad).mono hK' hv12)) ?_ ?_
   ·clear S13 next e1 e2 e3 hv12 hvl
    intro jj x xv K16 m16 led16 h16 tk16 I3 ob16 E16 Q16 hjj rx hK16 hJ S16 next
    obtain⟨o1,o2,o3,w1,w2,w3,x5,rv',e1,e2,e3,hrd⟩:=hJ
    have hbd:=roadsOf_bound st (tl.take jj) (by rw [length_take];exact nT (Nat.min_le_right ..) htl)
    refine wpAny_assign_Name (stc S16 (i:=4) rfl e1 fun o1' h17 e1' S17=>?_)
    refine states_symbol B (hb8.trans (hK13.trans hK16)) (OkA.less hA' (Nat.le_refl _)) S17 e1' rx e2 e3 hrd (lp [_] [(zA,.num 27)] zA (.num 1000) rfl hbd.1) (fun r hr=>nT (hbd.2 r hr) (by decide)) fun K18 h18 tk18 rv18 x5' o2' o3' w2' w3' hK18 e2' e3' S18 hrd18=>?_
    exact next K18 _ _ h18 tk18 hK18 (.mk (jj+1) K18 o1' o2' o3' _ w2' w3' x5' rv18 e1' e2' e3' (by rw [roadsOf_step (show tl[jj]?=some x from hjj)];exact hrd18)) S18
   ·clear S13 e1 e2 e3 hv12
    intro K16 m16 led16 h16 tk16 hK16 hJ S16
    obtain⟨o1,o2,o3,w1,w2,w3,x5,rv',e1,e2,e3,hrd⟩:=hJ
    rw [List.drop_one,List.tail_cons,take_length] at hrd
    have hbd:=roadsOf_bound st tl htl
    have rst16:=rInt.mono (hK13.trans hK16) rst
    refine for_t (gi_list hA' (gx_v S16 (gv_n S16 4 stN_nd hrd))) (SJ4 v rv sv rv' x5 TA L (I2,ob8) (I,ob5) o1 vs (sendRow hd st) (roadsOf st tl)) (fun K' _=>by have h:=SJ4.mk (v:=v) (rv:=rv) (sv:=sv) (rv':=rv') (x5:=x5) (TA:=TA) (L:=L) (p1:=(I2,ob8)) (p2:=(I,ob5)) (o1:=o1) (vs:=vs) (f:=sendRow hd st) (roads:=roadsOf st tl) 0 K' [] n o2 o3 _ _ e2 e3 .nil;rw [append_nil] at h;exact h) (fun K v a=>tup2_ex) ?_ ?_
    ·clear S16 next e2 e3 hrd
     intro jj a T b c' K18 m18 led18 h18 tk18 I4 ob18 E18 Q18 hjj hr hT hK18 hJ S18 next
     obtain⟨sto,row⟩:=a
     obtain⟨us,n',o2,o3,w2,w3,e2,e3,hus⟩:=hJ
     obtain⟨T',b',c'',eT,hT',rsto,rrow⟩:=hr
     cases eT
     rw [hT'] at hT;cases hT
     have hrowl:row.length≤3:=hbd.2 _ (mem_of_getElem? hjj)
     have hul:us.length≤135:=by
      rw [hus.length]
      have:=sum_flat (sendRow hd st) 5 ((roadsOf st tl).take jj) (fun r hr=>by
       have:=hbd.2 r (mem_of_mem_take hr)
       unfold sendRow;simp;exact this)
      rw [length_take] at this
      have:=hbd.1
      exact lq [_,_,_] [(1,zA,.mulL 5 zB),(5,zC,.num 27),(5,zB,zC)] 1 zA (.num 135) rfl (by assumption) this (Nat.min_le_right _ _)
     refine assign2c hA' S18 hT' (i:=5) (j:=6) rfl e2 rfl e3 (by decide) fun o2' o3' h19 tk19 e2' e3' S19=>?_
     have hKr:=hK8.trans (hK13.trans (hK16.trans hK18))
     have rst19:=rInt.mono hK18 rst16
     refine ext_x (R:=rInt) (ys:=sendRow hd st (sto,row)) S19 1 3 stN_nd rfl (gx_cat (gx_cat (gx_list (xs:=[256+9*(hd - 256)+3*st+sto]) (gl_v (gv_add (gv_add (gv_add gv_i (gv_mul gv_i (gv_sub (g0 hKr S19) gv_i) (small9 _))) (gv_mul gv_i (gv_n S19 3 stN_nd rst19) (small3 _))) (gv_c (S19.at 5 rfl) e2' rsto)) (gl_nil S19)) (by simp))
      (fun K' h' hK' S'=>gx_v S' (gv_c (S'.at 6 rfl) e3' ((rList rInt).mono hK' rrow))) (by simp;exact lp [_] [(zA,.num 3)] (.add (.num 1) zA) (.num 16777216) rfl hrowl)) (fun K' h' _ S'=>gx_list (xs:=[0]) (gl_v gv_i (gl_nil S')) (by simp)) (by simp;exact lp [_] [(zA,.num 3)] zA (.num 16777214) rfl hrowl)) (by
      have:(sendRow hd st (sto,row)).length≤5:=by unfold sendRow;simp;exact hrowl
      rw [length_append];exact lq [_,_,_,_,_] [(405,su zA,.num 100),(1,zB,.add (.mulL 405 zA) (.mulL 135 zC)),(135,su zC,.num 3),(1,zD,.num 135),(1,zE,.num 5)] 1 (.add (.add zB zD) zE) (.num 8388608) rfl hi100 hvl hjn hul this) fun K24 ws h25 tk25 n25 hK24 hws S25=>?_
     refine wpAny_execs_nil (next K24 _ _ h25 tk25 hK24 ?_ S25)
     rw [append_assoc]
     exact .mk (jj+1) K24 (us++ws) n25 o2' o3' _ _ e2' e3' (by rw [flat_take _ _ hjj];exact (hus.imp fun _ _ q=>rInt.mono hK24 q).app hws)
    ·intro K18 m18 led18 h18 tk18 hK18 hJ S18
     obtain⟨us,n',o2,o3,w2,w3,e2,e3,hus⟩:=hJ
     rw [take_length] at hus
     exact wpAny_execs_nil (next K18 us n' o1 o2 o3 _ _ _ _ _ _ h18 tk18 (hK13.trans (hK16.trans hK18)) e1 e2 e3 hus S18)
  ·rw [←hst]
   intro K8 m8 led8 h8 tk8 hK8 hJ S8
   obtain⟨vs,n,o1,o2,o3,w1,w2,w3,x3,x4,x5,e1,e2,e3,hvs,hvl⟩:=hJ
   rw [take_length] at hvs
   exact wpAny_execs_nil (next K8 vs n o1 o2 o3 _ _ _ _ _ _ _ h8 tk8 hK8 e1 e2 e3 hvs S8)
 ·intro K5 m5 led5 h5 tk5 hK5 hJ S5
  obtain⟨vs,n,o1,o2,o3,w1,w2,w3,x2,x3,x4,x5,e1,e2,e3,hvs⟩:=hJ
  rw [take_length] at hvs
  refine ret_st (ld S5 1 stN_nd ?_)
  obtain⟨K',hK',S6,hr⟩:=S5.freezeL hTA hvs
  exact c K' h5 tk5 _ (S6.drop (nil_sublist _)).toGrow hr
end
end Mine
namespace Mine
abbrev FT:=List (Int×(Str×Int))
noncomputable def symTxt (sp:List (Int×Str))(F:FT)(x:Int):Str:=if x>255 then ((lookD F x).getD (⟨#[]⟩,0)).1 else (lookD sp x).getD ⟨#[]⟩
noncomputable def catS (xs:List Str):Str:=⟨(xs.flatMap (·.cps.toList)).toArray⟩
noncomputable def lacks (F:FT)(x:Int):Bool:=decide (x>255)&&(lookD F x).isNone
noncomputable def newOf (sp:List (Int×Str))(F:FT)(tl:List Int):Str×Int:=(catS (tl.map (symTxt sp F)),((catS (tl.map (symTxt sp F))).length:Int))
noncomputable def firstStep (sp:List (Int×Str))(w0 w1:Int)(F:FT)(r:List Int):FT:=
 if (r.drop 1).filter (lacks F)=[] then
  putD F (r.headD 0) (if told w0 w1 (newOf sp F (r.drop 1)) ((lookD F (r.headD 0)).getD (newOf sp F (r.drop 1)))<0 then newOf sp F (r.drop 1) else (lookD F (r.headD 0)).getD (newOf sp F (r.drop 1)))
 else F
noncomputable def firstOf (sp:List (Int×Str))(w0 w1:Int)(rules:List (List Int)):FT:=rules.foldl (firstStep sp w0 w1) []
structure FirstOk (sp:List (Int×Str))(w0 w1:Int)(rules:List (List Int)):Prop where
 len:rules.length≤2 ^ 20
 row:∀r∈rules,r≠[]∧r.length≤2 ^ 10
 spells:∀r∈rules,∀x∈r.drop 1,¬x>255→∃y,lookD sp x=some y
 size:∀i r,rules[i]?=some r→∀x∈r.drop 1,(symTxt sp (firstOf sp w0 w1 (rules.take i)) x).length≤2 ^ 10
theorem first_step {sp:List (Int×Str)}{w0 w1:Int}{rules:List (List Int)}{i:Nat}{r:List Int}(h:rules[i]?=some r):firstOf sp w0 w1 (rules.take (i+1))=firstStep sp w0 w1 (firstOf sp w0 w1 (rules.take i)) r:=by
 unfold firstOf
 rw [take_add_one,h]
 simp [foldl_append]
theorem first_length (sp:List (Int×Str))(w0 w1:Int):∀(rs:List (List Int))(T:FT),(rs.foldl (firstStep sp w0 w1) T).length≤T.length+rs.length
 | [],T=>by simp
 | a::b,T=>by
  have h1:=first_length sp w0 w1 b (firstStep sp w0 w1 T a)
  have h2:(firstStep sp w0 w1 T a).length≤T.length+1:=by
   unfold firstStep
   split
   ·exact putD_length _ _ _
   ·exact lp [_] [] zA (su zA) rfl
  rw [foldl_cons,length_cons]
  exact lp [_,_,_,_] [(zA,.add zB zC),(zB,su zD)] zA (.add zD (su zC)) rfl h1 h2
theorem join_cat (ys:List Str):Txt.join (Str.ofString "") ys=catS ys:=by
 have e:(Str.ofString "")=(⟨(#[]:Array Nat).extract 0 0⟩:Str):=by rfl
 rw [e,join_flat];rfl
noncomputable def fiN:List Str:=["rules","judge","ways","faults","rule","text","size","old","due","told"]
theorem fiN_nd:fiN.Nodup:=by decide
abbrev enF (q:Str)(L:Addr)(cd:Value):Env:=en q (scopeOf (stA 71)) L 150 cd (cellsFrom (L+1) (scopeOf (stA 71)).names [])
noncomputable def body71:List Stmt:=bodyOf ((bodyOf (stA 71)).getD 1 (.Pass ⟨0,0,0,0⟩))
noncomputable def then71:List Stmt:=bodyOf (body71.getD 0 (.Pass ⟨0,0,0,0⟩))
noncomputable def compA:Expr:=kid (valOf (body71.getD 0 (.Pass ⟨0,0,0,0⟩))) 0
noncomputable def compB:Expr:=kid (valOf (then71.getD 0 (.Pass ⟨0,0,0,0⟩))) 1
section
theorem eq_nil {α:Type}{R:Rel α}{b:Value}{xs:List α}{pos:Pos}{Q:Value→Shared→Prop}{k:Nat}(hA:OkA A (k+1))(S:St O K L m led h)(r:(rList R).r K b xs)
  (c:∀h',St O K L m led h'→Q (.bool (decide (xs=[]))) (sh s h' tk)):wpAny (model prog w) A (eval (.List [] pos) env) (fun v s₁=>wpAny (model prog w) A (compareOp .Eq b v) Q E s₁) E (sh s h tk):=by
 obtain⟨a,vs,n,rfl,ha,hx⟩:=r
 refine list_new S fun h1 S1=>?_
 by_cases hnil:xs=[]
 ·subst hnil
  cases hx
  refine P.eq_list (s:=sh s h1 tk) (e:=fun _=>true) (S1.stays _ _ ha) (S1.at 0 rfl) rfl (fun j h1=>absurd h1 (by simp)) hA.cu ?_
  exact c h1 S1.tail
 ·refine P.eq_list_lengths (s:=sh s h1 tk) (S1.stays _ _ ha) (S1.at 0 rfl) ?_ hA.cu ?_
  ·rw [size_toArray,size_toArray,hx.length]
   cases xs with
   | nil=>exact absurd rfl hnil
   | cons _ _=>rfl
  ·have:=c h1 S1.tail
   rw [decide_eq_false hnil] at this
   exact this
end
section
variable {κ:Type}[DecidableEq κ]{R:Rel α}{R':Rel β}{e e1 e2 l r test:Expr}{pos:Pos}{a b:Int}{ns:List Str}{vs:List (Option Value)}{rest:List Stmt}{Q:Flow→Shared→Prop}
theorem ts_cast {b b':Bool}(t:Tst prog w A s h env e b)(q:b=b'):Tst prog w A s h env e b':=q▸t
theorem ts_notin {knd:PySem.KeyKind prog w κ}{RK:Rel κ}{D:Addr}{ob:Obj}{kvs:List (κ×Value)}{k:κ}(x:Gv prog w A s h K env l RK k)(d:Gv prog w A s h K env r rVal (.ref D))(hd:h.get? D=some ob)(hdo:dictO knd ob kvs)(hsys:(D == sysModules)=false)
  (hkey:∀v,RK.r K v k→knd.is k v=true)(hm:behindInMarks .NotIn r=false:=by with_unfolding_all rfl):Tst prog w A s h env (.Compare l [.NotIn] [r] pos) (!(valueAt kvs k).isSome):=fun _ _ _ c=>wpAny_isTrue_Compare1 (x _ _ _ fun v tk' hv=>d _ _ _ fun u tk2 hu=>by
 obtain rfl:u = .ref D:=hu
 exact wpAny_notIn_of (s:=sh s h tk2) (hkey _ hv) hsys (dictOf_of hd hdo).mapOf (wpAny_truthy_bool (c _))) hm
theorem ts_gts {x y:Str}(p:Gv prog w A s h K env l rStr x)(q:Gv prog w A s h K env r rStr y)(hm:behindInMarks .Gt r=false:=by with_unfolding_all rfl):Tst prog w A s h env (.Compare l [.Gt] [r] pos) (decide (y.cps.toList<x.cps.toList)):=fun _ _ _ c=>wpAny_isTrue_Compare1 (p _ _ _ fun v _ hv=>q _ _ _ fun u _ hu=>by
 obtain⟨t,rfl⟩:=hv;obtain⟨t',rfl⟩:=hu;exact P.gt_str (wpAny_truthy_bool (c _))) hm
theorem ts_lts {x y:Str}(p:Gv prog w A s h K env l rStr x)(q:Gv prog w A s h K env r rStr y)(hm:behindInMarks .Lt r=false:=by with_unfolding_all rfl):Tst prog w A s h env (.Compare l [.Lt] [r] pos) (decide (x.cps.toList<y.cps.toList)):=fun _ _ _ c=>wpAny_isTrue_Compare1 (p _ _ _ fun v _ hv=>q _ _ _ fun u _ hu=>by
 obtain⟨t,rfl⟩:=hv;obtain⟨t',rfl⟩:=hu;exact PyProof.Rows.lt_str (wpAny_truthy_bool (c _))) hm
theorem tx_nil {k:Nat}{xs:List α}{p:Pos}(hA:OkA A (k+1))(g:Gx prog w A s O K h L m led env l (rList R) xs)(hm:behindInMarks .Eq (.List [] p)=false:=by with_unfolding_all rfl):Tx prog w A s O K h L m led env (.Compare l [.Eq] [.List [] p] pos) (decide (xs=[])):=fun _ _ _ c=>
 wpAny_isTrue_Compare1 (g _ _ _ fun K1 _ tk1 v hK1 S1 hv=>eq_nil hA S1 hv fun h2 S2=>wpAny_truthy_bool (c K1 h2 _ hK1 S2)) hm
theorem gv_fst {k:Nat}{p:Pos}{x:α×β}(S:Sub K h)(g:Gv prog w A s h K env l (rTup2 R R') x)
  (hs:∀D key,subscripted (.Constant (.int 0) k p) false (.ref D) key=operate [.ref D,key] (getItem (.ref D) key):=by intro _ _;with_unfolding_all rfl):Gv prog w A s h K env (.Subscript l (.Constant (.int 0) k p) pos) R x.1:=fun _ _ _ c=>Subscript_ (g _ _ _ fun u _ hu=>c_int (by
 obtain⟨T,u1,u2,rfl,hT,r1,r2⟩:=hu
 exact item_tupleT ⟨_,S _ _ hT,rfl,0,rfl⟩ (by decide) (by decide) (show seqIndex? 0 ([u1,u2]:List Value).length=some 0 from rfl) rfl (c _ _ r1) (hs _ _)))
theorem gv_snd {k:Nat}{p:Pos}{x:α×β}(S:Sub K h)(g:Gv prog w A s h K env l (rTup2 R R') x)
  (hs:∀D key,subscripted (.Constant (.int 1) k p) false (.ref D) key=operate [.ref D,key] (getItem (.ref D) key):=by intro _ _;with_unfolding_all rfl):Gv prog w A s h K env (.Subscript l (.Constant (.int 1) k p) pos) R' x.2:=fun _ _ _ c=>Subscript_ (g _ _ _ fun u _ hu=>c_int (by
 obtain⟨T,u1,u2,rfl,hT,r1,r2⟩:=hu
 exact item_tupleT ⟨_,S _ _ hT,rfl,0,rfl⟩ (by decide) (by decide) (show seqIndex? 1 ([u1,u2]:List Value).length=some 1 from rfl) rfl (c _ _ r2) (hs _ _)))
theorem gv_len {p:Pos}{x:Str}(B:Mod base)(hb:Sub base h)(g:Gv prog w A s h K env e rStr x)(hlen:x.length≤2 ^ 24)(hg:env.globals=mainGlobals:=by rfl)(hgb:env.builtins=builtinsNs:=by rfl)
  (hl:env.kindOf "len" = some .globalImplicit:=by rfl)(hk:env.scope.kind = .function:=by rfl)
  (hcall:eval (.Call (.Name "len" p) [e] [] pos) env=(do callWith pos (←eval (.Name "len" p) env) [] (backTo pos (starEach [e] env)) (backToKw pos (keywordEach [] env))):=by rfl)
  (he:starEach [e] env=(false,eval e env)::starEach [] env:=by rfl):Gv prog w A s h K env (.Call (.Name "len" p) [e] [] pos) rInt (x.length:Int):=fun _ _ _ c=>
 Call_ (gl_blt (v:=.builtin "len") B hb (cw_blt (args_cons (g _ _ _ fun v tk' hv=>args_nil (by
  obtain⟨t,rfl⟩:=hv
  exact PyProof.Rows.len_str (s:=sh s h tk') (Int.not_le.2 (lw [_] [(iA,.num 16777216)] (si iA) (.num 9223372036854775808) rfl (cnL hlen))) (c _ _ ⟨_,rfl⟩))) he) he) (by simp [gBlt]) hg hgb hl hk) hcall
theorem gx_join {apos p:Pos}{k:Nat}{xs:List Str}(g:Gx prog w A s O K h L m led env e (rList rStr) xs)(hlen:(xs.map (·.length)).sum≤2 ^ 20)
  (hbase:attributeBase (.Constant (.str "") k p) "join" env (eval (.Constant (.str "") k p) env)=eval (.Constant (.str "") k p) env:=by rfl)
  (hfew:((backTo pos (starEach [e] env)).all (fun x=>!x.1)&&(backToKw pos (keywordEach [] env)).all (fun x=>x.1.isSome)&&decide ([e].length+([]:List Keyword).length+(if ([]:List Keyword).isEmpty then 0 else 1)<30))=true:=by rfl)
  (hline:(apos.endLine == pos.line)=true:=by rfl)(he:backTo pos (starEach [e] env)=[(false,eval e env)]:=by rfl):Gx prog w A s O K h L m led env (.Call (.Attribute (.Constant (.str "") k p) "join" apos) [e] [] pos) rStr (catS xs):=fun _ _ _ c=>by
 refine wpAny_Call_method hbase hfew hline PySem.F.plainAttrs_str PySem.F.slot_str_join PySem.F.type_str_join (c_str ⟨typeIs_str _ _ _,(by intro a e;cases e),?_⟩)
 rw [he]
 refine Calls.callWith_builtin rfl (Calls.evalArgs_plain ?_)
 refine Calls.spliced_cons (g _ _ _ fun K1 h1 tk1 v hK1 S1 hv=>Calls.spliced_nil ?_)
 obtain⟨la,lvs,ln,rfl,hla,hlx⟩:=hv
 refine PyProof.Rows.join_list ⟨_,S1.stays _ _ hla,rfl,ln,rfl⟩ (strsAre_of hlx) ?_ fun t9 n9=>?_
 ·have e0:(Str.ofString "").length=0:=rfl
  rw [e0];exact lp [_,_] [(zA,.num 1048576)] (.add zA (.mulR zB 0)) (.num 16777216) rfl hlen
 ·rw [join_cat];exact c K1 h1 n9 _ hK1 S1 ⟨_,rfl⟩
theorem sw2_x {k:Nat}{x1 x2:Str}{p1 p2 tp vp:Pos}{n1 n2:Nat}{y:α}{z:β}(i j:Nat)(hd:ns.Nodup)(hA:OkA A k)(g:Gx prog w A s O K h env.locals (loc ns vs) led env e1 R y)
  (g2:∀K' h',Sub K K'→St O K' env.locals (loc ns vs) led h'→Gx prog w A s O K' h' env.locals (loc ns vs) led env e2 R' z)
  (c:∀K' v u h' tk',Sub K K'→R.r K' v y→R'.r K' u z→St O K' env.locals (loc ns ((vs.set j (some u)).set i (some v))) led h'→wpAny (model prog w) A (execs rest env) Q E (sh s h' tk'))
  (hi:(vs[i]?).isSome=true:=by rfl)(hj:(vs[j]?).isSome=true:=by rfl)(hxi:ns[i]?=some x1:=by rfl)(hxj:ns[j]?=some x2:=by rfl)
  (hx1:env.kindOf x1=some .local:=by rfl)(hx2:env.kindOf x2=some .local:=by rfl)(hk:env.scope.kind = .function:=by rfl)
  (he1:starEach [e1,e2] env=(false,eval e1 env)::starEach [e2] env:=by rfl)(he2:starEach [e2] env=(false,eval e2 env)::starEach [] env:=by rfl)
  (hs:swapsWithSole [.Tuple [.Name x1 p1,.Name x2 p2] n1 tp] (.Tuple [e1,e2] n2 vp) pos.line env=pure false:=by rfl)
  (hw:swappedStores [.Tuple [.Name x1 p1,.Name x2 p2] n1 tp] (.Tuple [e1,e2] n2 vp) env=pure (some [x1,x2]):=by rfl) :
  wpAny (model prog w) A (execs (.Assign [.Tuple [.Name x1 p1,.Name x2 p2] n1 tp] (.Tuple [e1,e2] n2 vp) pos::rest) env) Q E (sh s h tk):=
 wpAny_execs_cons (assign_sw2 hA (g _ _ _ fun K1 h1 tk1 v hK S1 hv=>g2 K1 h1 hK S1 _ _ _ fun K2 h2 tk2 u hK2 S2 hu=>⟨O,K2,_,_,h2,tk2,rfl,S2,fun h3 tk3 S3=>c K2 v u h3 tk3 (hK.trans hK2) (R.mono hK2 hv) hu (by
  rw [loc_set2 j i hxj hxi hd (lt_of_isSome hj) (lt_of_isSome hi)] at S3;exact S3)⟩) hx1 hx2 hk he1 he2 hs hw)
theorem if_no {bd:List Stmt}(t:Tst prog w A s h env test false)(k:∀tk',wpAny (model prog w) A (execs rest env) Q E (sh s h tk')):wpAny (model prog w) A (execs (.If test bd [] pos::rest) env) Q E (sh s h tk):=
 wpAny_execs_cons (wpAny_If (t _ _ _ fun tk'=>ifn (by simp) (wpAny_execs_nil (k tk'))))
theorem if_x {b:Bool}{bd ob:List Stmt}(t:Tx prog w A s O K h L m led env test b)(h1:b=true→∀K' h' tk',Sub K K'→St O K' L m led h'→wpAny (model prog w) A (execs bd env) Q E (sh s h' tk'))(h2:¬b=true→∀K' h' tk',Sub K K'→St O K' L m led h'→wpAny (model prog w) A (execs ob env) Q E (sh s h' tk')) :
  wpAny (model prog w) A (execs [.If test bd ob pos] env) Q E (sh s h tk):=if_end (t _ _ _ fun K' h' tk' hK S=>if2 (fun e=>h1 e K' h' tk' hK S) fun e=>h2 e K' h' tk' hK S)
theorem gx_compare {k:Nat}{x:Str}{xp apos:Pos}{j:Value}{w0 w1:Int}{y z:Str×Int}(B:Mod base)(C:Cls base)(hb:Sub base K)(hA:OkA A (k+1))(S:St O K L m led h)(rj:rJudge.r K j [(1,w0),(0,w1)])
  (ho:∀E tk Q',Q' j (sh s h tk)→wpAny (model prog w) A (eval (.Name x xp) env) Q' E (sh s h tk))
  (g1:Gx prog w A s O K h L m led env e1 (rTup2 rStr rInt) y)(g2:∀K' h',Sub K K'→St O K' L m led h'→Gx prog w A s O K' h' L m led env e2 (rTup2 rStr rInt) z)
  (hbase:attributeBase (.Name x xp) "compare" env (eval (.Name x xp) env)=eval (.Name x xp) env:=by rfl)
  (hfew:((backTo pos (starEach [e1,e2] env)).all (fun x=>!x.1)&&(backToKw pos (keywordEach [] env)).all (fun x=>x.1.isSome)&&decide ([e1,e2].length+([]:List Keyword).length+(if ([]:List Keyword).isEmpty then 0 else 1)<30))=true:=by rfl)
  (hline:(apos.endLine == pos.line)=true:=by rfl)(he:starEach (e1::[e2]) env=(false,eval e1 env)::starEach [e2] env:=by rfl)(he2:starEach (e2::[]) env=(false,eval e2 env)::starEach [] env:=by rfl)(hplain:(backTo pos (starEach [e2] env)).any (·.1)=false:=by rfl) :
  Gx prog w A s O K h L m led env (.Call (.Attribute (.Name x xp) "compare" apos) [e1,e2] [] pos) rInt (told w0 w1 y z):=fun _ _ _ c=>
 call_compare C (hb.trans S.stays) S rj (fun Q' q=>ho _ _ Q' q) (g1 _ _ _ fun K1 h1 tk1 v1 hK1 S1 r1=>g2 K1 h1 hK1 S1 _ _ _ fun K2 h2 tk2 v2 hK2 S2 r2=>⟨((hb.trans hK1).trans hK2).trans S2.stays,
  compare_call (k:=k) B C ((hb.trans hK1).trans hK2) S2.stays hA (rJudge.mono (hK1.trans hK2) rj) ((rTup2 rStr rInt).mono hK2 r1) r2 fun K3 h3 tk3 v3 G hv=>c K3 h3 tk3 v3 ((hK1.trans hK2).trans G.kk) (S2.grow G) hv⟩) hbase hfew hline he he2 hplain
theorem gx_compA {k:Nat}{qn:Str}{cd:Value}{x0 x1 x2 x3 x5 x6 x7 x8 x9:Option Value}{rv:Value}{hd:Int}{tl:List Int}{F:FT}{kvs:List (Int×Value)}{D:Addr}{o o2:Obj}(hA:OkA A (k+1))
  (S:St O K (enF qn L cd).locals (loc fiN [x0,x1,x2,x3,some rv,x5,x6,x7,x8,x9]) led h)(hrl:(rList rInt).r K rv (hd::tl))(htl:tl.length≤2 ^ 10)
  (hD:(D,o)∈led)(hdo:dictO (intKind prog w) o kvs)(hsys:(D == sysModules)=false)(hx:All2 (PR ((rTup2 rStr rInt).r K)) kvs F)(h2:(((L+1+1:Nat):Addr),o2)∈led)(e2:o2.data = .cell (some (.ref D))) :
  Gx prog w A s O K h (enF qn L cd).locals (loc fiN [x0,x1,x2,x3,some rv,x5,x6,x7,x8,x9]) led (enF qn L cd) compA (rList rInt) (tl.filter (lacks F)):=
 gx_eq (gx_comp1 (lacks F) (fun y=>y) rfl (gi_list hA (gx_tail S (gv_n S 4 fiN_nd hrl) (by simp;exact lp [_] [(zA,.num 1024)] zA (.num 16777215) rfl htl))) (by simp;exact lp [_] [(zA,.num 1024)] zA (.num 16777216) rfl htl)
  (fun B0 a v K1 C led1 h1 _ ra hK hold S1=>tx_t S1 (ts_cast (ts_and (ts_gt (gv_n (env:=compEnvC _ _ C (enF qn L cd)) S1 0 (by simp) ra) gv_i) fun _=>ts_notin (gv_n (env:=compEnvC _ _ C (enF qn L cd)) S1 0 (by simp) ra) (gv_c (S1.keepB _ _ (hold _ h2)) e2 rfl) (S1.keepB _ _ (hold _ hD)) hdo hsys int_key) (by
   unfold lacks
   rcases pr_look hx a with ⟨q1,q2⟩|⟨v,b,q1,q2,_⟩ <;> rw [q1,q2] <;> rfl)))
  (fun B0 a v K1 C led1 h1 _ _ ra _ _ S1=>gx_v S1 (gv_n (env:=compEnvC _ _ C (enF qn L cd)) S1 0 (by simp) ra))) (map_id' _)
theorem gx_compB {k:Nat}{qn:Str}{cd:Value}{x0 x1 x2 x3 x5 x6 x7 x8 x9:Option Value}{rv vsp:Value}{hd:Int}{tl:List Int}{sp:List (Int×Str)}{F:FT}{kvs:List (Int×Value)}{D:Addr}{o o1 o2:Obj}(hA:OkA A (k+1))
  (S:St O K (enF qn L cd).locals (loc fiN [x0,x1,x2,x3,some rv,x5,x6,x7,x8,x9]) led h)(hrl:(rList rInt).r K rv (hd::tl))(htl:tl.length≤2 ^ 10)
  (hD:(D,o)∈led)(hdo:dictO (intKind prog w) o kvs)(hx:All2 (PR ((rTup2 rStr rInt).r K)) kvs F)(h2:(((L+1+1:Nat):Addr),o2)∈led)(e2:o2.data = .cell (some (.ref D)))
  (rsp:(rDict (intKind prog w) rStr).r K vsp sp)(h1:(((L+1:Nat):Addr),o1)∈led)(e1:o1.data = .cell (some vsp))
  (hno:tl.filter (lacks F)=[])(hspell:∀x∈tl,¬x>255→∃y,lookD sp x=some y) :
  Gx prog w A s O K h (enF qn L cd).locals (loc fiN [x0,x1,x2,x3,some rv,x5,x6,x7,x8,x9]) led (enF qn L cd) compB (rList rStr) (tl.map (symTxt sp F)):=
 gx_comp0 (symTxt sp F) rfl (gi_list hA (gx_tail S (gv_n S 4 fiN_nd hrl) (by simp;exact lp [_] [(zA,.num 1024)] zA (.num 16777215) rfl htl))) (by simp;exact lp [_] [(zA,.num 1024)] zA (.num 16777216) rfl htl)
  fun B0 a v K1 C led1 h6 ha ra hK hold S1=>gx_v S1 (gv_if (ts_gt (gv_n (env:=compEnvC _ _ C (enF qn L cd)) S1 0 (by simp) ra) gv_i) (fun gt=>by
   have hgt:=of_decide_eq_true gt
   have hs:(lookD F a).isNone=false:=by
    cases hq:(lookD F a).isNone with
    | false=>rfl
    | true=>
     have:a∈tl.filter (lacks F):=mem_filter.mpr ⟨ha,by unfold lacks;rw [hq,decide_eq_true hgt];rfl⟩
     rw [hno] at this;cases this
   obtain⟨v1,b,hv1,hb1,hr1⟩:=(pr_look hx a).resolve_left fun q=>by rw [q.2] at hs;cases hs
   exact gv_eq (gv_fst S1.stays (gv_dct (gv_c (S1.keepB _ _ (hold _ h2)) e2 rfl) (gv_n (env:=compEnvC _ _ C (enF qn L cd)) S1 0 (by simp) ra) (S1.keepB _ _ (hold _ hD)) hdo int_key hv1 ((rTup2 rStr rInt).mono hK hr1))) (by unfold symTxt;rw [if_pos hgt,hb1];rfl)) fun gt=>by
   obtain⟨y,hy⟩:=hspell a ha fun q=>gt (decide_eq_true q)
   exact gv_eq (gv_at S1.stays (gv_c (S1.keepB _ _ (hold _ h1)) e1 ((rDict (intKind prog w) rStr).mono hK rsp)) (gv_n (env:=compEnvC _ _ C (enF qn L cd)) S1 0 (by simp) ra) int_key (find_look hy)) (by unfold symTxt;rw [if_neg fun q=>gt (decide_eq_true q),hy];rfl))
end
end Mine
namespace Mine
section
theorem due_eq (w0 w1:Int)(x y:Str×Int):told w0 w1 x y=(if y.2<x.2 then w0 else if x.2<y.2 then -w0 else if y.1.cps.toList<x.1.cps.toList then w1 else if x.1.cps.toList<y.1.cps.toList then -w1 else 0):=by
 unfold told
 by_cases h1:x.2<y.2
 ·rw [if_pos h1,if_neg (by exact Int.not_lt.2 (lw [_,_] [(si iA,iB)] iA iB rfl h1)),if_pos h1]
 ·rw [if_neg h1]
  by_cases h2:y.2<x.2
  ·rw [if_pos h2,if_pos h2]
  ·rw [if_neg h2,if_neg h2,if_neg h1]
   by_cases h3:x.1.cps.toList<y.1.cps.toList
   ·have:¬y.1.cps.toList<x.1.cps.toList:=fun q=>lt_asymm h3 q
    rw [if_pos h3,if_neg this,if_pos h3]
   ·rw [if_neg h3]
    by_cases h4:y.1.cps.toList<x.1.cps.toList
    ·rw [if_pos h4,if_pos h4]
    ·rw [if_neg h4,if_neg h4,if_neg h3]
theorem first_rest {k:Nat}{qn:Str}{cd:Value}{O:Org}{L I D:Addr}{ob o o1 o2:Obj}{v j wv fv rv ov tv sv:Value}{x8 x9:Option Value}{hd:Int}{tl:List Int}{cat:Str}{old:Str×Int}{FF:FT}{kvs:List (Int×Value)}{w0 w1:Int}{Q:Flow→Shared→Prop}(B:Mod base)(C:Cls base)(hb:Sub base K)(hA:OkA A (k+1))
  (S:St O K (enF qn L cd).locals (loc fiN [some v,some j,some wv,some fv,some rv,some tv,some sv,some ov,x8,x9]) [(I,ob),(D,o),((L+1:Nat),o1),((L+1+1:Nat),o2)] h)
  (hrl:(rList rInt).r K rv (hd::tl))(rj:rJudge.r K j [(1,w0),(0,w1)])(rw_:(rList rInt).r K wv [w0,w1])(rt:rStr.r K tv cat)(rs:rInt.r K sv (cat.length:Int))(rov:(rTup2 rStr rInt).r K ov old)
  (hdo:dictO (intKind prog w) o kvs)(hx:All2 (PR ((rTup2 rStr rInt).r K)) kvs FF)(hlen:kvs.length≤sizeLine)(e2:o2.data = .cell (some (.ref D)))
  (c:∀K' h' tk' o' kvs' x8 x9,Sub K K'→St O K' (enF qn L cd).locals (loc fiN [some v,some j,some wv,some fv,some rv,some tv,some sv,some ov,x8,x9]) [(I,ob),(D,o'),((L+1:Nat),o1),((L+1+1:Nat),o2)] h'→
   dictO (intKind prog w) o' kvs'→All2 (PR ((rTup2 rStr rInt).r K')) kvs' (putD FF hd (if told w0 w1 (cat,(cat.length:Int)) old<0 then (cat,(cat.length:Int)) else old))→Q .next (sh s h' tk')) :
  wpAny (model prog w) A (execs (then71.drop 2) (enF qn L cd)) Q E (sh s h tk):=by
 have hteq:=due_eq w0 w1 (cat,(cat.length:Int)) old
 dsimp only at hteq
 have way:∀{n:Int} {u:Int} {K' h' led'} {x8 x9:Option Value} {q1 q2 q3:Pos} {kk:Nat},Sub K K'→St O K' (enF qn L cd).locals (loc fiN [some v,some j,some wv,some fv,some rv,some tv,some sv,some ov,x8,x9]) led' h'→0≤n→n<2 ^ 63→([w0,w1]:List Int)[n.toNat]?=some u→
   Gv prog w A s h' K' (enF qn L cd) (.Subscript (.Name "ways" q1) (.Constant (.int n) kk q2) q3) rInt u:=fun hK S' h0 h1 hu=>gv_lst S'.stays (gv_n S' 2 fiN_nd ((rList rInt).mono hK rw_)) gv_i h0 h1 hu
 have old0:∀{K' h' led'} {x8 x9:Option Value} {q1 q2 q3:Pos} {kk:Nat},Sub K K'→St O K' (enF qn L cd).locals (loc fiN [some v,some j,some wv,some fv,some rv,some tv,some sv,some ov,x8,x9]) led' h'→
   Gv prog w A s h' K' (enF qn L cd) (.Subscript (.Name "old" q1) (.Constant (.int 0) kk q2) q3) rStr old.1:=fun hK S'=>gv_fst S'.stays (gv_n S' 7 fiN_nd ((rTup2 rStr rInt).mono hK rov))
 have old1:∀{K' h' led'} {x8 x9:Option Value} {q1 q2 q3:Pos} {kk:Nat},Sub K K'→St O K' (enF qn L cd).locals (loc fiN [some v,some j,some wv,some fv,some rv,some tv,some sv,some ov,x8,x9]) led' h'→
   Gv prog w A s h' K' (enF qn L cd) (.Subscript (.Name "old" q1) (.Constant (.int 1) kk q2) q3) rInt old.2:=fun hK S'=>gv_snd S'.stays (gv_n S' 7 fiN_nd ((rTup2 rStr rInt).mono hK rov))
 have two:(1:Int)<2 ^ 63:=by decide
 refine as_v S 8 fiN_nd (gv_if (x:=if old.1.cps.toList<cat.cps.toList then w1 else if cat.cps.toList<old.1.cps.toList then -w1 else 0) (ts_gts (gv_n S 5 fiN_nd rt) (old0 (Sub.refl _) S)) (fun e=>gv_eq (way (Sub.refl _) S (by decide) two rfl) (by rw [if_pos (of_decide_eq_true e)]))
  fun e=>gv_if (ts_lts (gv_n S 5 fiN_nd rt) (old0 (Sub.refl _) S)) (fun e2=>gv_eq (gv_neg (way (Sub.refl _) S (by decide) two rfl)) (by rw [if_neg fun q=>e (decide_eq_true q),if_pos (of_decide_eq_true e2)]))
   fun e2=>gv_eq gv_i (by rw [if_neg fun q=>e (decide_eq_true q),if_neg fun q=>e2 (decide_eq_true q)])) fun dv h1 tk1 rd S1=>?_
 clear S
 refine as_x 9 fiN_nd (gx_compare (k:=k) B C hb hA S1 rj (fun E tk Q' q=>ld S1 1 fiN_nd q) (gx_tup2 (gx_v S1 (gv_n S1 5 fiN_nd rt)) fun K' h' hK' S'=>gx_v S' (gv_n S' 6 fiN_nd (rInt.mono hK' rs))) fun K' h' hK' S'=>gx_v S' (gv_n S' 7 fiN_nd ((rTup2 rStr rInt).mono hK' rov))) fun K3 uv h4 tk4 hK3 ru S4=>?_
 clear S1
 refine if_no (ts_cast (ts_ne (gv_n S4 9 fiN_nd ru) (gv_if (x:=told w0 w1 (cat,(cat.length:Int)) old) (ts_gt (gv_n S4 6 fiN_nd (rInt.mono hK3 rs)) (old1 hK3 S4)) (fun e=>gv_eq (way hK3 S4 (by decide) (by decide) rfl) (by rw [hteq,if_pos (of_decide_eq_true e)]))
  fun e=>gv_if (ts_lt (gv_n S4 6 fiN_nd (rInt.mono hK3 rs)) (old1 hK3 S4)) (fun e2=>gv_eq (gv_neg (way hK3 S4 (by decide) (by decide) rfl)) (by rw [hteq,if_neg fun q=>e (decide_eq_true q),if_pos (of_decide_eq_true e2)]))
   fun e2=>gv_eq (gv_n S4 8 fiN_nd (rInt.mono hK3 rd)) (by rw [hteq,if_neg fun q=>e (decide_eq_true q),if_neg fun q=>e2 (decide_eq_true q)]))) (bne_self_eq_false _)) fun tk5=>?_
 refine set_x (R:=rTup2 rStr rInt) 1 rfl hdo hlen (gx_if (x:=if told w0 w1 (cat,(cat.length:Int)) old<0 then (cat,(cat.length:Int)) else old) (ts_lt (gv_n S4 9 fiN_nd ru) gv_i)
  (fun e=>gx_eq (gx_tup2 (gx_v S4 (gv_n S4 5 fiN_nd (rStr.mono hK3 rt))) fun K' h' hK' S'=>gx_v S' (gv_n S' 6 fiN_nd (rInt.mono (hK3.trans hK') rs))) (by rw [if_pos (of_decide_eq_true e)]))
  fun e=>gx_eq (gx_v S4 (gv_n S4 7 fiN_nd ((rTup2 rStr rInt).mono hK3 rov))) (by rw [if_neg fun q=>e (decide_eq_true q)]))
  (fun K' h' _ S'=>gv_c (S'.at 3 rfl) e2 rfl) (fun K' h' hK' S'=>gv_lst S'.stays (gv_n S' 4 fiN_nd ((rList rInt).mono (hK3.trans hK') hrl)) gv_i (by decide) (by decide) rfl) (fun _=>int_key) fun K5 o' v' h7 tk7 hK5 rv' hdo' S7=>?_
 exact wpAny_execs_nil (c K5 h7 tk7 o' _ _ _ (hK3.trans hK5) S7 hdo' (pr_put (hx.imp fun _ _ q=>⟨q.1,(rTup2 rStr rInt).mono (hK3.trans hK5) q.2⟩) hd rv'))
inductive FiJ (prog:Program)(w:World)(v j wv fv:Value)(D L:Addr)(o1 o2:Obj)(sp:List (Int×Str))(w0 w1:Int)(rules:List (List Int)):Nat→Heap→(Str→Option Value)→List (Addr×Obj)→Prop
 | mk (i:Nat) (K:Heap) (o:Obj) (kvs:List (Int×Value)) (x4 x5 x6 x7 x8 x9:Option Value):dictO (intKind prog w) o kvs→All2 (PR ((rTup2 rStr rInt).r K)) kvs (firstOf sp w0 w1 (rules.take i))→
  FiJ prog w v j wv fv D L o1 o2 sp w0 w1 rules i K (loc fiN [some v,some j,some wv,some fv,x4,x5,x6,x7,x8,x9]) [(D,o),((L+1:Nat),o1),((L+1+1:Nat),o2)]
theorem cat_room {sp:List (Int×Str)}{F:FT}{tl:List Int}(htl:tl.length≤2 ^ 10)(hsz:∀x∈tl,(symTxt sp F x).length≤2 ^ 10):(catS (tl.map (symTxt sp F))).length≤2 ^ 20∧((tl.map (symTxt sp F)).map (·.length)).sum≤2 ^ 20:=by
 have h1:((tl.map (symTxt sp F)).map (·.length)).sum≤(tl.map (symTxt sp F)).length*2 ^ 10:=StrLaws.sumLen_le _ fun y hy=>by
  obtain⟨x,hx,rfl⟩:=mem_map.mp hy
  exact hsz x hx
 have h2:(catS (tl.map (symTxt sp F))).length=((tl.map (symTxt sp F)).map (·.length)).sum:=by
  rw [←length_flat]
  show (List.flatMap _ _).toArray.size=_
  rw [size_toArray]
 rw [length_map] at h1
 have h3:tl.length*2 ^ 10≤2 ^ 10*2 ^ 10:=Nat.mul_le_mul_right _ htl
 exact⟨h2▸nT h1 h3,nT h1 h3⟩
theorem first_call {k:Nat}{v vsp j wv fv:Value}{rules:List (List Int)}{sp:List (Int×Str)}{w0 w1:Int}{Q:Value→Shared→Prop}(B:Mod base)(C:Cls base)(hb:Sub base K)(hs:Sub K h)(hA:OkA A (k+2))
  (r:(rList (rList rInt)).r K v rules)(rsp:(rDict (intKind prog w) rStr).r K vsp sp)(rj:rJudge.r K j [(1,w0),(0,w1)])(rw_:(rList rInt).r K wv [w0,w1])(ok:FirstOk sp w0 w1 rules)
  (c:∀K' h' tk' v,Grow K h K' h'→(rDict (intKind prog w) (rTup2 rStr rInt)).r K' v (firstOf sp w0 w1 rules)→Q v (sh s h' tk')):wpAny (model prog w) A (call (.ref 150) [v,vsp,j,wv,fv]) Q E (sh s h tk):=by
 refine call_fnX (k:=k+1) (binds:=[("rules",v),("spelled",vsp),("judge",j),("ways",wv),("faults",fv)]) hA ((B.fns (150,71) (by decide)).sub (hb.trans hs)) (B.nolimit.keeps (hb.trans hs)) (fun _ _ _ _ _=>rfl) (fun x hx=>?_) (fun A' qn L cd s₁ hA' hL x=>?_)
 ·simp -iota only [mem_cons,not_mem_nil,or_false] at hx
  rcases hx with rfl|rfl|rfl|rfl|rfl
  ·exact .inl rfl
  ·exact .inr ⟨rfl,rfl⟩
  ·exact .inl rfl
  ·exact .inl rfl
  ·exact .inl rfl
 subst hL
 obtain⟨o1,ho1,e1⟩:=x.cell "spelled" (h.objs.size+1) rfl
 obtain⟨o2,ho2,e2⟩:=x.cell "first" (h.objs.size+1+1) rfl
 obtain⟨h₀,tk₀,rfl⟩:=x.toInCall.same
 have S:=St.enterC hs x [((h.objs.size+1:Nat),o1),((h.objs.size+1+1:Nat),o2)] (fun p hp=>by
  simp -iota only [mem_cons,not_mem_nil,or_false] at hp
  rcases hp with rfl|rfl
  ·exact⟨ho1,by show @LT.lt Nat _ h.objs.size (h.objs.size+1);exact lp [_] [] (su zA) (su zA) rfl⟩
  ·exact⟨ho2,by show @LT.lt Nat _ h.objs.size (h.objs.size+1+1);exact lp [_] [] (su zA) (.add (su zA) (.num 1)) rfl⟩) (by simp -iota)
 have k1:(enF qn h.objs.size cd).kindOf ("rules" : Str)=some .local:=rfl
 have k2:¬(enF qn h.objs.size cd).kindOf ("spelled" : Str)=some .local:=by
  have:(enF qn h.objs.size cd).kindOf ("spelled" : Str)=some .cell:=rfl
  rw [this];simp -iota
 have k3:(enF qn h.objs.size cd).kindOf ("judge" : Str)=some .local:=rfl
 have k4:(enF qn h.objs.size cd).kindOf ("ways" : Str)=some .local:=rfl
 have k5:(enF qn h.objs.size cd).kindOf ("faults" : Str)=some .local:=rfl
 have hm:bindL (enF qn h.objs.size cd).kindOf [("rules",v),("spelled",vsp),("judge",j),("ways",wv),("faults",fv)] (fun _=>none)=loc fiN [some v,some j,some wv,some fv,none,none,none,none,none,none]:=by
  simp -iota only [bindL]
  rw [if_pos k1,if_neg k2,if_pos k3,if_pos k4,if_pos k5]
  funext y
  by_cases h1:y=("rules" : Str)
  ·subst h1;rfl
  by_cases h2:y=("judge" : Str)
  ·subst h2;rfl
  by_cases h3:y=("ways" : Str)
  ·subst h3;rfl
  by_cases h4:y=("faults" : Str)
  ·subst h4;rfl
  simp -iota [loc,fiN,h1,h2,h3,h4]
 have hc1:bindC (enF qn h.objs.size cd).kindOf [("rules",v),("spelled",vsp),("judge",j),("ways",wv),("faults",fv)] (fun _=>none) ("spelled" : Str)=some vsp:=by
  simp -iota only [bindC]
  rw [if_pos k1,if_neg k2,if_pos k3,if_pos k4,if_pos k5]
  rfl
 replace e1:o1.data = .cell (some vsp):=hc1▸e1
 replace S:St ⟨h,K⟩ K h.objs.size (bindL (enF qn h.objs.size cd).kindOf [("rules",v),("spelled",vsp),("judge",j),("ways",wv),("faults",fv)] (fun _=>none)) [((h.objs.size+1:Nat),o1),((h.objs.size+1+1:Nat),o2)] h₀:=S
 rw [hm] at S
 clear hm x k1 k2 k3 k4 k5 hc1
 show wpAny _ _ (execs (bodyOf (stA 71)) (enF qn h.objs.size cd)) _ _ _
 obtain⟨L,hLL⟩:∃L,L=h.objs.size:=⟨_,rfl⟩
 rw [←hLL] at S e2 ⊢
 clear hLL
 replace S:St ⟨h,K⟩ K (enF qn L cd).locals (loc fiN [some v,some j,some wv,some fv,none,none,none,none,none,none]) [((L+1:Nat),o1),((L+1+1:Nat),o2)] h₀:=S
 refine hide fun Q0 fin0=>?_
 replace c:∀K' h' tk' v,Grow K h K' h'→(rDict (intKind prog w) (rTup2 rStr rInt)).r K' v (firstOf sp w0 w1 rules)→Q0 (.ret v) (sh s h' tk'):=fun K' h' tk' v g r=>fin0 _ _ (c K' h' tk' v g r)
 clear fin0
 show wpAny (model prog w) A' _ Q0 _ (sh s h₀ tk₀)
 refine as_st (dict_new B (hb.trans S.stays) S fun D hD hlow hsys SD=>stc SD (i:=2) rfl e2 fun o2' h2 e2' S2=>?_)
 clear S SD e2
 refine for_x (gi_list hA' (gx_v S2 (gv_n S2 0 fiN_nd r))) (FiJ prog w v j wv fv D L o1 o2' sp w0 w1 rules) (fun K' _=>.mk 0 K' emptyD [] none none none none none none (dictO_empty _) .nil) ?_ ?_
 ·clear S2 c
  intro i rl rv K5 m5 led5 h5 tk5 I ob5 E5 Q5 hi hrl hK5 hJ S5 next
  obtain⟨o,kvs,x4,x5,x6,x7,x8,x9,hdo,hx⟩:=hJ
  have okr:=ok.row rl (mem_of_getElem? hi)
  have estep:=first_step (sp:=sp) (w0:=w0) (w1:=w1) hi
  have hsz:=ok.size i rl hi
  have hspell:=ok.spells rl (mem_of_getElem? hi)
  have hlen:kvs.length≤sizeLine:=by
   have h0:=hx.length
   have h1:=first_length sp w0 w1 (rules.take i) []
   rw [length_take,length_nil] at h1
   have h4:=ok.len
   show kvs.length≤2 ^ 24
   unfold firstOf at h0
   exact lp [_,_,_,_] [(zA,zB),(zB,.add (.num 0) zC),(zD,.num 1048576),(zC,zD)] zA (.num 16777216) rfl (eqL h0) h1 h4 (Nat.min_le_right _ _)
  replace next:∀K' o' kvs' x4 x5 x6 x7 x8 x9 h' tk',Sub K5 K'→dictO (intKind prog w) o' kvs'→All2 (PR ((rTup2 rStr rInt).r K')) kvs' (firstStep sp w0 w1 (firstOf sp w0 w1 (rules.take i)) rl)→
    St ⟨h,K⟩ K' (enF qn L cd).locals (loc fiN [some v,some j,some wv,some fv,x4,x5,x6,x7,x8,x9]) [(I,ob5),(D,o'),((L+1:Nat),o1),((L+1+1:Nat),o2')] h'→Q5 .next (sh s h' tk'):=
   fun K' o' kvs' x4 x5 x6 x7 x8 x9 h' tk' b1 b2 b3 b4=>next K' _ _ h' tk' b1 (.mk (i+1) K' o' kvs' x4 x5 x6 x7 x8 x9 b2 (by rw [estep];exact b3)) b4
  clear estep hi
  obtain⟨F,hF⟩:∃F,F=firstOf sp w0 w1 (rules.take i):=⟨_,rfl⟩
  rw [←hF] at hx hsz next
  clear hF
  obtain⟨hd,tl,rfl⟩:∃hd tl,rl=hd::tl:=by
   cases rl with
   | nil=>exact absurd rfl okr.1
   | cons a b=>exact⟨a,b,rfl⟩
  have htl:tl.length≤2 ^ 10:=nT (Nat.le_succ _) okr.2
  have hb5:=hb.trans hK5
  refine as_n S5 4 fiN_nd fun h6 tk6 S6=>?_
  clear S5
  have m1:(D,o)∈[(I,ob5),(D,o),((L+1:Nat),o1),((L+1+1:Nat),o2')]:=mem_of_getElem? (i:=1) rfl
  have m2:(((L+1:Nat):Addr),o1)∈[(I,ob5),(D,o),((L+1:Nat),o1),((L+1+1:Nat),o2')]:=mem_of_getElem? (i:=2) rfl
  have m3:(((L+1+1:Nat):Addr),o2')∈[(I,ob5),(D,o),((L+1:Nat),o1),((L+1+1:Nat),o2')]:=mem_of_getElem? (i:=3) rfl
  refine if_x (tx_nil hA' (gx_compA (k:=k) hA' S6 hrl htl m1 hdo hsys hx m3 e2')) (fun e K7 h8 tk8 hK7 S8=>?_) fun e K7 h8 tk8 hK7 S8=>?_
  ·have hno:=of_decide_eq_true e
   have hK:=hK5.trans hK7
   have hb7:=hb5.trans hK7
   have hrl7:=(rList rInt).mono hK7 hrl
   have hx7:All2 (PR ((rTup2 rStr rInt).r K7)) kvs F:=hx.imp fun _ _ q=>⟨q.1,(rTup2 rStr rInt).mono hK7 q.2⟩
   have hcl:=cat_room (sp:=sp) (F:=F) htl hsz
   have hnew:newOf sp F tl=(catS (tl.map (symTxt sp F)),((catS (tl.map (symTxt sp F))).length:Int)):=rfl
   replace next:∀K' o' kvs' x4 x5 x6 x7 x8 x9 h' tk',Sub K7 K'→dictO (intKind prog w) o' kvs'→All2 (PR ((rTup2 rStr rInt).r K')) kvs' (putD F hd (if told w0 w1 (newOf sp F tl) ((lookD F hd).getD (newOf sp F tl))<0 then newOf sp F tl else (lookD F hd).getD (newOf sp F tl)))→
     St ⟨h,K⟩ K' (enF qn L cd).locals (loc fiN [some v,some j,some wv,some fv,x4,x5,x6,x7,x8,x9]) [(I,ob5),(D,o'),((L+1:Nat),o1),((L+1+1:Nat),o2')] h'→Q5 .next (sh s h' tk'):=
    fun K' o' kvs' x4 x5 x6 x7 x8 x9 h' tk' b1 b2 b3 b4=>next K' o' kvs' x4 x5 x6 x7 x8 x9 h' tk' (hK7.trans b1) b2 (by rw [show firstStep sp w0 w1 F (hd::tl)=_ from if_pos hno];exact b3) b4
   refine as_x 5 fiN_nd (gx_join (gx_compB (k:=k) hA' S8 hrl7 htl m1 hdo hx7 m3 e2' ((rDict (intKind prog w) rStr).mono hK rsp) m2 e1 hno hspell) hcl.2) fun K9 tv h10 tk10 hK9 rt S10=>?_
   clear S6 S8 hspell hsz hrl hx
   rw [hnew] at next
   clear hnew
   obtain⟨cat,hcat⟩:∃cat,cat=catS (tl.map (symTxt sp F)):=⟨_,rfl⟩
   rw [←hcat] at next hcl rt
   clear hcat hno e
   have hb9:=hb7.trans hK9
   have hrl9:=(rList rInt).mono hK9 hrl7
   have hx9:All2 (PR ((rTup2 rStr rInt).r K9)) kvs F:=hx7.imp fun _ _ q=>⟨q.1,(rTup2 rStr rInt).mono hK9 q.2⟩
   have hc24:cat.length≤2 ^ 24:=nT hcl.1 (by decide)
   clear hrl7 hx7 hcl
   have g0:∀{K' h'} {p1 p2 p3:Pos} {k:Nat},Sub K9 K'→St ⟨h,K⟩ K' (enF qn L cd).locals (loc fiN [some v,some j,some wv,some fv,some rv,some tv,x6,x7,x8,x9]) [(I,ob5),(D,o),((L+1:Nat),o1),((L+1+1:Nat),o2')] h'→Gv prog w A' s h' K' (enF qn L cd) (.Subscript (.Name "rule" p1) (.Constant (.int 0) k p2) p3) rInt hd:=
    fun hK' S'=>gv_lst S'.stays (gv_n S' 4 fiN_nd ((rList rInt).mono hK' hrl9)) gv_i (by decide) (by decide) rfl
   refine sw2_x (R':=rTup2 rStr rInt) 6 7 fiN_nd hA' (gx_v S10 (gv_len B (hb9.trans S10.stays) (gv_n S10 5 fiN_nd rt) hc24)) (fun K' h' hK' S'=>gx_if (x:=(lookD F hd).getD (cat,(cat.length:Int))) (ts_in (g0 hK' S') (gv_c (S'.at 3 rfl) e2' rfl) (S'.at 1 rfl) hdo hsys int_key) (fun e=>?_) fun e=>?_) fun K12 sv ov h13 tk13 hK12 rs rov S13=>?_
   ·rcases pr_look hx9 hd with ⟨hv0,hf⟩|⟨fv,fd,hv0,hf,hfv0⟩
    ·rw [hv0] at e;cases e
    ·exact gx_v S' (gv_eq (gv_dct (gv_c (S'.at 3 rfl) e2' rfl) (g0 hK' S') (S'.at 1 rfl) hdo int_key hv0 ((rTup2 rStr rInt).mono hK' hfv0)) (by rw [hf];rfl))
   ·rcases pr_look hx9 hd with ⟨hv0,hf⟩|⟨fv,fd,hv0,hf,hfv0⟩
    ·exact gx_eq (gx_tup2 (gx_v S' (gv_n S' 5 fiN_nd (rStr.mono hK' rt))) fun K'' h'' hK'' S''=>gx_v S'' (gv_len B ((hb9.trans (hK'.trans hK'')).trans S''.stays) (gv_n S'' 5 fiN_nd (rStr.mono (hK'.trans hK'') rt)) hc24)) (by rw [hf];rfl)
    ·rw [hv0] at e;exact absurd rfl e
   ·refine first_rest (k:=k) B C (hb9.trans hK12) hA' S13 ((rList rInt).mono hK12 hrl9) (rJudge.mono ((hK.trans hK9).trans hK12) rj) ((rList rInt).mono ((hK.trans hK9).trans hK12) rw_) (rStr.mono hK12 rt) rs rov hdo (hx9.imp fun _ _ q=>⟨q.1,(rTup2 rStr rInt).mono hK12 q.2⟩) hlen e2' fun K14 h14 tk14 o14 kvs14 x8' x9' hK14 S14 hdo14 hx14=>?_
    exact next K14 o14 kvs14 _ _ _ _ x8' x9' h14 tk14 ((hK9.trans hK12).trans hK14) hdo14 hx14 S14
  ·refine wpAny_execs_nil (next K7 o kvs _ _ _ _ _ _ h8 tk8 hK7 hdo ?_ S8)
   rw [show firstStep sp w0 w1 F (hd::tl)=F from if_neg fun q=>e (decide_eq_true q)]
   exact hx.imp fun _ _ q=>⟨q.1,(rTup2 rStr rInt).mono hK7 q.2⟩
 ·intro K5 m5 led5 h5 tk5 hK5 hJ S5
  obtain⟨o,kvs,x4,x5,x6,x7,x8,x9,hdo,hx⟩:=hJ
  rw [take_length] at hx
  refine ret_st (ldc S5 (i:=2) rfl e2' ?_)
  obtain⟨K',hK',S6,hfr⟩:=S5.freeze [] (nil_sublist _)
  exact c K' h5 tk5 _ S6.toGrow ⟨D,o,kvs,rfl,hsys,hfr D o (S5.at 0 rfl) hlow (S5.ledg _ mem_cons_self).2.1 (by simp -iota),hdo,hx.imp fun _ _ q=>⟨q.1,(rTup2 rStr rInt).mono hK' q.2⟩⟩
end
end Mine
namespace Mine
section
variable (prog:Program)(w:World)(A:Around)(s:Shared)(h:Heap)
noncomputable def T {α:Type}(m:StateT SortSt Sem α)(Q:α→SortSt→Prop)(st:SortSt):Prop:=
 ∀E tk,wpAny (model prog w) A (m.run st) (fun r s'=>(∃tk',s'=sh s h tk')∧Q r.1 r.2) E (sh s h tk)
end
section
theorem T.pure {a:α}{Q:α→SortSt→Prop}{st:SortSt}(q:Q a st):T prog w A s h (Pure.pure a) Q st:=fun E tk=>by
 rw [StateT.run_pure];exact wpAny_pure ⟨⟨tk,rfl⟩,q⟩
theorem T.bind {m:StateT SortSt Sem α}{f:α→StateT SortSt Sem β}{Q:β→SortSt→Prop}{st:SortSt}(q:T prog w A s h m (fun a st'=>T prog w A s h (f a) Q st') st):T prog w A s h (m >>= f) Q st:=fun E tk=>by
 rw [StateT.run_bind]
 refine wpAny_bind (wpAny_mono (q E tk) (fun r s' h'=>?_) fun _ _ e=>e)
 obtain⟨⟨tk',rfl⟩,hq⟩:=h'
 exact hq E tk'
theorem T.mono {m:StateT SortSt Sem α}{Q Q':α→SortSt→Prop}{st:SortSt}(q:T prog w A s h m Q st)(hq:∀a st',Q a st'→Q' a st'):T prog w A s h m Q' st:=fun E tk=>
 wpAny_mono (q E tk) (fun r s' h'=>⟨h'.1,hq _ _ h'.2⟩) fun _ _ e=>e
theorem T.get {Q:SortSt→SortSt→Prop}{st:SortSt}(q:Q st st):T prog w A s h (MonadState.get:StateT SortSt Sem SortSt) Q st:=fun E tk=>by
 show wpAny _ _ (Pure.pure (st,st)) _ _ _
 exact wpAny_pure ⟨⟨tk,rfl⟩,q⟩
theorem T.set {x:SortSt}{Q:PUnit→SortSt→Prop}{st:SortSt}(q:Q ⟨⟩ x):T prog w A s h (MonadStateOf.set x:StateT SortSt Sem PUnit) Q st:=fun E tk=>by
 show wpAny _ _ (Pure.pure (PUnit.unit,x)) _ _ _
 exact wpAny_pure ⟨⟨tk,rfl⟩,q⟩
theorem T.modify {f:SortSt→SortSt}{Q:PUnit→SortSt→Prop}{st:SortSt}(q:Q ⟨⟩ (f st)):T prog w A s h (_root_.modify f:StateT SortSt Sem PUnit) Q st:=fun E tk=>by
 show wpAny _ _ (Pure.pure (PUnit.unit,f st)) _ _ _
 exact wpAny_pure ⟨⟨tk,rfl⟩,q⟩
theorem T.rule {tag:String}{Q:Unit→SortSt→Prop}{st:SortSt}(q:Q () st):T prog w A s h (liftM (PySem.rule tag):StateT SortSt Sem Unit) Q st:=fun E tk=>by
 show wpAny _ _ ((StateT.lift (PySem.rule tag):StateT SortSt Sem Unit).run st) _ _ _
 rw [StateT.run_lift]
 refine wpAny_bind (wpAny_rule ?_)
 exact wpAny_pure ⟨⟨tk,rfl⟩,q⟩
theorem T.list {γ:Type}{f:γ→β→StateT SortSt Sem (ForInStep β)}{Q:β→SortSt→Prop}(I:Nat→β→SortSt→Prop) :
  ∀(l:List γ) (n:Nat) (b:β) (st:SortSt),I n b st→(∀x k b st,n≤k→k<n+l.length→I k b st→T prog w A s h (f x b) (fun r st'=>match r with | .done b'=>Q b' st' | .yield b'=>I (k+1) b' st') st)→
   (∀b st,I (n+l.length) b st→Q b st)→T prog w A s h (forIn l b f) Q st
 | [],n,b,st,h0,_,he=>by rw [forIn_nil];exact T.pure (he b st h0)
 | x::l,n,b,st,h0,hs,he=>by
  rw [forIn_cons]
  refine T.bind ((hs x n b st (Nat.le_refl _) (by simp) h0).mono fun r st' hr=>?_)
  cases r with
  | done b'=>exact T.pure hr
  | yield b'=>
   refine T.list I l (n+1) b' st' hr (fun x k b st h1 h2=>hs x k b st (lp [_,_] [(su zA,zB)] zA zB rfl h1) (by rw [length_cons];exact lp [_,_,_] [(su zA,.add (su zB) zC)] (su zA) (.add zB (su zC)) rfl h2)) fun b st hb=>he b st ?_
   rw [length_cons,show n+(l.length+1)=n+1+l.length by exact nA (lp [_,_] [] (.add zA (su zB)) (.add (su zA) zB) rfl) (lp [_,_] [] (.add (su zA) zB) (.add zA (su zB)) rfl)]
   exact hb
theorem T.range {a b:Nat}{c:β}{f:Nat→β→StateT SortSt Sem (ForInStep β)}{Q:β→SortSt→Prop}{st:SortSt}(I:Nat→β→SortSt→Prop)(h0:I 0 c st)
  (hs:∀x k c st,k<b - a→I k c st→T prog w A s h (f x c) (fun r st'=>match r with | .done c'=>Q c' st' | .yield c'=>I (k+1) c' st') st)(he:∀c st,I (b - a) c st→Q c st) :
  T prog w A s h (forIn [a:b] c f) Q st:=by
 rw [Std.Legacy.Range.forIn_eq_forIn_range']
 have hsz:([a:b]:Std.Legacy.Range).size=b - a:=by simp [Std.Legacy.Range.size]
 show T prog w A s h (forIn (List.range' a ([a:b]:Std.Legacy.Range).size 1) c f) Q st
 rw [hsz]
 have hl:(List.range' a (b - a)).length=b - a:=List.length_range' ..
 exact T.list I _ 0 c st h0 (fun x k c st _ h2=>hs x k c st (by rw [hl] at h2;exact lp [_,_] [(su zA,.add (.num 0) zB)] (su zA) zB rfl h2)) fun c st hc=>he c st (by rw [hl,Nat.zero_add] at hc;exact hc)
theorem T.bindP {m:StateT SortSt Sem α}{f:α→StateT SortSt Sem β}{Q:β→SortSt→Prop}{st:SortSt}(P:α→SortSt→Prop)(hm:T prog w A s h m P st)(hf:∀a st',P a st'→T prog w A s h (f a) Q st'):T prog w A s h (m >>= f) Q st:=
 T.bind (hm.mono hf)
theorem T.ite {c:Prop}[Decidable c]{m m':StateT SortSt Sem α}{Q:α→SortSt→Prop}{st:SortSt}(h1:c→T prog w A s h m Q st)(h2:¬c→T prog w A s h m' Q st):T prog w A s h (if c then m else m') Q st:=by
 by_cases hc:c
 ·rw [if_pos hc];exact h1 hc
 ·rw [if_neg hc];exact h2 hc
theorem T.range2 {a b:Nat}{c:β}{f:Nat→β→StateT SortSt Sem (ForInStep β)}{Q:β→SortSt→Prop}{st:SortSt}(I:Nat→β→SortSt→Prop)(h0:I 0 c st)
  (hs:∀x k c st (Q':ForInStep β→SortSt→Prop),k<b - a→I k c st→(∀c st',Q c st'→Q' (.done c) st')→(∀c st',I (k+1) c st'→Q' (.yield c) st')→T prog w A s h (f x c) Q' st)(he:∀c st,I (b - a) c st→Q c st) :
  T prog w A s h (forIn [a:b] c f) Q st:=
 T.range I h0 (fun x k c st hk hi=>hs x k c st _ hk hi (fun _ _ q=>q) fun _ _ q=>q) he
theorem share {X:Type}{G:Prop}(P:X→Prop){code:X}(use:P code→G)(spec:P code):G:=use spec
end
structure Ord where
 lt:Keyed→Keyed→Bool
 as:∀a b,lt a b=true→lt b a=false
 tr:∀a b c,lt b a=false→lt c b=false→lt c a=false
section
variable (prog:Program)(w:World)(A:Around)(s:Shared)(h:Heap)
noncomputable def Asks (κ:SortKind)(R:Ord)(a₀:Array Keyed):Prop:=∀p q,p∈a₀.toList→q∈a₀.toList→∀E tk (Q:Bool→Shared→Prop),(∀tk',Q (R.lt p q) (sh s h tk'))→wpAny (model prog w) A (keyLt' κ p.1 q.1) Q E (sh s h tk)
end
section
variable {κ:SortKind}{R:Ord}{a₀:Array Keyed}{st:SortSt}
theorem T.lt {p q:Keyed}{Q:Option Bool→SortSt→Prop}(hA:Asks prog w A s h κ R a₀)(hk:kindOf st=κ)(hp:p∈a₀.toList)(hq:q∈a₀.toList)(k:Q (some (R.lt p q)) st):T prog w A s h (lt' p q) Q st:=by
 rw [lt'_eq]
 refine T.bind (T.get ?_)
 rw [hk]
 refine T.bind (fun E tk=>?_)
 show wpAny _ _ ((StateT.lift (keyLt' κ p.1 q.1).attempt:StateT SortSt Sem _).run st) _ _ _
 rw [StateT.run_lift]
 refine wpAny_bind (wpAny_attempt (hA p q hp hq _ tk _ fun tk'=>wpAny_pure ⟨⟨tk',rfl⟩,?_⟩))
 exact T.pure k
theorem T.elem {arr:Array Keyed}{i:Nat}{p:Keyed}{Q:Keyed→SortSt→Prop}(hp:arr[i]?=some p)(k:Q p st):T prog w A s h (elem' arr i) Q st:=by
 rw [elem'_eq,hp];exact T.pure k
theorem T.eb {arr:Array Keyed}{i:Nat}{p:Keyed}{f:Keyed→StateT SortSt Sem α}{Q:α→SortSt→Prop}(hp:arr[i]?=some p)(k:T prog w A s h (f p) Q st):T prog w A s h (elem' arr i >>= f) Q st:=T.bind (T.elem hp k)
end
end Mine
namespace Mine
noncomputable def gallop':Bool→Keyed→Array Keyed→Nat→Nat→Nat→StateT SortSt Sem (Option Nat):=sortPriv% PySem.Builtin.gallop
theorem at_r {α:Type}(A B:List α)(i:Nat):(A++B)[A.length+i]?=B[i]?:=by rw [getElem?_append_right (Nat.le_add_right ..),Nat.add_sub_cancel_left]
theorem half_l {n k lo hi m:Nat}(g:hi - lo≤n - k)(h1:lo≤m)(h2:m<hi):m - lo≤n - (k+1):=Nat.le_sub_one_of_lt (Nat.lt_of_lt_of_le (Nat.sub_lt_sub_right h1 h2) g)
theorem half_r {n k lo hi m:Nat}(g:hi - lo≤n - k)(h1:lo≤m):hi - (m+1)≤n - (k+1):=Nat.sub_le_sub_right (nT (Nat.sub_le_sub_left h1 hi) g) 1
theorem half_lt {lo hi:Nat}(h:¬lo≥hi):lo+(hi - lo) / 2<hi:=Nat.add_lt_of_lt_sub' (Nat.div_lt_self (Nat.sub_pos_of_lt (Nat.lt_of_not_le h)) (by decide))
theorem mid_ge {l r:Nat}(h:l≤r):l≤(l+r) / 2:=(Nat.le_div_iff_mul_le (by decide)).2 (by rw [Nat.mul_two];exact Nat.add_le_add_left h l)
theorem mid_lt {l r:Nat}(h:¬l≥r):(l+r) / 2<r:=Nat.div_lt_of_lt_mul (by rw [Nat.two_mul];exact Nat.add_lt_add_right (Nat.lt_of_not_le h) r)
theorem none_left {n lo hi:Nat}(h:lo≤hi)(g:hi - lo≤n - (n - 0)):lo=hi:=nA h (Nat.le_of_sub_eq_zero (Nat.le_zero.1 (nT g (Nat.le_of_eq (Nat.sub_self n)))))
structure Cut (b:Nat→Bool)(n lo hi:Nat):Prop where
 le:lo≤hi
 hn:hi≤n
 lows:∀i,i<lo→b i=true
 highs:∀i,hi≤i→i<n→b i=false
theorem Cut.up {b:Nat→Bool}{n lo hi m:Nat}(C:Cut b n lo hi)(mono:∀i j,i≤j→j<n→b j=true→b i=true)(hm:m<hi)(hb:b m=true):Cut b n (m+1) hi:=
 ⟨hm,C.hn,fun i q=>mono i m (Nat.le_of_lt_succ q) (Nat.lt_of_lt_of_le hm C.hn) hb,C.highs⟩
theorem Cut.down {b:Nat→Bool}{n lo hi m:Nat}(C:Cut b n lo hi)(mono:∀i j,i≤j→j<n→b i=false→b j=false)(hl:lo≤m)(hm:m<hi)(hb:b m=false):Cut b n lo m:=
 ⟨hl,nT (Nat.le_of_lt hm) C.hn,C.lows,fun i h1 h2=>mono m i h1 h2 hb⟩
inductive LstI (b:Nat→Bool)(n:Nat)(st:SortSt)(k:Nat):Option (Option Nat)×Nat×Nat→SortSt→Prop
 | mk (lo hi:Nat):Cut b n lo hi→hi - lo≤n - k→LstI b n st k (none,lo,hi) st
inductive LstE (b:Nat→Bool)(n:Nat)(st:SortSt):Option (Option Nat)×Nat×Nat→SortSt→Prop
 | mk (k:Nat):Cut b n k k→LstE b n st (none,k,k) st
inductive GalI (P:Nat→Prop)(st:SortSt)(k:Nat):Option (Option Nat)×Nat×Nat→SortSt→Prop
 | mk (la of:Nat):P la→la<of→k+1≤of→GalI P st k (none,la,of) st
inductive GalE (P F:Nat→Prop)(st:SortSt):Option (Option Nat)×Nat×Nat→SortSt→Prop
 | mk (la of:Nat):P la→la<of→F of→GalE P F st (none,la,of) st
theorem up_cut {b:Nat→Bool}{n hint la of:Nat}(hh:hint<n)(mono:∀i j,i≤j→j<n→b j=true→b i=true)(hfalse:∀i j,i≤j→j<n→b i=false→b j=false)(g1:hint+la<n∧b (hint+la)=true)(g3:la<of)(g4:of<n - hint→b (hint+of)=false) :
  Cut b n (hint+la+1) (hint+min of (n - hint)):=by
 refine⟨?_,nT (Nat.add_le_add_left (Nat.min_le_right ..) _) (Nat.le_of_eq (Nat.add_sub_cancel' (Nat.le_of_lt hh))),fun i q=>mono i _ (Nat.le_of_lt_succ q) g1.1 g1.2,fun i h1 h2=>?_⟩
 ·rw [Nat.add_assoc];exact Nat.add_le_add_left (Nat.le_min.2 ⟨g3,Nat.le_sub_of_add_le (by rw [Nat.add_comm];exact g1.1)⟩) _
 ·by_cases c:of<n - hint
  ·rw [Nat.min_eq_left (Nat.le_of_lt c)] at h1
   exact hfalse _ i h1 h2 (g4 c)
  ·rw [Nat.min_eq_right (nN c),Nat.add_sub_cancel' (Nat.le_of_lt hh)] at h1
   exact absurd h2 (Nat.not_lt.mpr h1)
theorem down_cut {b:Nat→Bool}{n hint la of:Nat}(hh:hint<n)(mono:∀i j,i≤j→j<n→b j=true→b i=true)(hfalse:∀i j,i≤j→j<n→b i=false→b j=false)(g1:la≤hint∧b (hint - la)=false)(g3:la<of)(g4:of<hint+1→b (hint - of)=true) :
  Cut b n (hint+1 - min of (hint+1)) (hint - la):=by
 refine⟨nT (Nat.sub_le_sub_left (Nat.le_min.2 ⟨g3,Nat.succ_le_succ g1.1⟩) _) (Nat.le_of_eq (Nat.add_sub_add_right hint 1 la)),nT (Nat.sub_le ..) (Nat.le_of_lt hh),fun i q=>?_,fun i h1 h2=>hfalse _ i h1 h2 g1.2⟩
 by_cases c:of<hint+1
 ·rw [Nat.min_eq_left (Nat.le_of_lt c),Nat.succ_sub (Nat.le_of_lt_succ c)] at q
  exact mono i _ (Nat.le_of_lt_succ q) (Nat.lt_of_le_of_lt (Nat.sub_le ..) hh) (g4 c)
 ·rw [Nat.min_eq_right (nN c),Nat.sub_self] at q
  exact absurd q (Nat.not_lt_zero _)
section
variable {κ:SortKind}{R:Ord}{a₀:Array Keyed}{st:SortSt}
noncomputable def bey (R:Ord)(left:Bool)(key x:Keyed):Bool:=if left=true then R.lt x key else !R.lt key x
theorem T_bey {left:Bool}{key x:Keyed}{arr:Array Keyed}{i:Nat}{Q:Option Bool→SortSt→Prop}(hA:Asks prog w A s h κ R a₀)(hk:kindOf st=κ)(hx:arr[i]?=some x)(m1:x∈a₀.toList)(m2:key∈a₀.toList)
  (q:Q (some (bey R left key x)) st):T prog w A s h (do
   let x ←elem' arr i
   if left=true then lt' x key else do
    let r ←lt' key x
    Pure.pure (Option.map (fun x=>!x) r)) Q st:=by
 refine T.bind (T.elem hx ?_)
 unfold Mine.bey at q
 by_cases hl:left=true
 ·rw [if_pos hl] at q ⊢
  exact T.lt hA hk m1 m2 q
 ·rw [if_neg hl] at q ⊢
  exact T.bind (T.lt hA hk m2 m1 (T.pure q))
theorem T_gallop {left:Bool}{key:Keyed}{arr:Array Keyed}{base n hint:Nat}{x:Nat→Keyed}{Q:Option Nat→SortSt→Prop}(hA:Asks prog w A s h κ R a₀)(hk:kindOf st=κ)(hkey:key∈a₀.toList)
  (hx:∀i,i<n→arr[base+i]?=some (x i)∧x i∈a₀.toList)(hh:hint<n)(hmono:∀i j,i≤j→j<n→bey R left key (x j)=true→bey R left key (x i)=true)
  (q:∀k,k≤n→(∀i,i<k→bey R left key (x i)=true)→(∀i,k≤i→i<n→bey R left key (x i)=false)→Q (some k) st) :
  T prog w A s h (gallop' left key arr base n hint) Q st:=by
 have hfalse:∀i j,i≤j→j<n→bey R left key (x i)=false→bey R left key (x j)=false:=fun i j hij hj hf=>by
  cases hb:bey R left key (x j) with
  | false=>rfl
  | true=>rw [hmono i j hij hj hb] at hf;cases hf
 have B:∀(i:Nat) (hi:i<n) (Q':Option Bool→SortSt→Prop),Q' (some (bey R left key (x i))) st→T prog w A s h (do
   let x ←elem' arr (base+i)
   if left=true then lt' x key else do
    let r ←lt' key x
    Pure.pure (Option.map (fun x=>!x) r)) Q' st:=fun i hi Q' q'=>T_bey hA hk (hx i hi).1 (hx i hi).2 hkey q'
 obtain⟨b,hbe⟩:∃b:Nat→Bool,b=fun i=>bey R left key (x i):=⟨_,rfl⟩
 have hb':∀i,bey R left key (x i)=b i:=fun i=>by rw [hbe]
 simp only [hb'] at hmono hfalse B q
 clear hbe hb' hx hkey hk hA
 have last:∀(f:Nat→Option (Option Nat)×Nat×Nat→StateT SortSt Sem (ForInStep (Option (Option Nat)×Nat×Nat))) (lo hi:Nat),Cut b n lo hi→
   (∀u lo hi,lo≥hi→T prog w A s h (f u (none,lo,hi)) (fun r st'=>st'=st∧r = .done (none,lo,hi)) st)→
   (∀u lo hi,lo<hi→hi≤n→T prog w A s h (f u (none,lo,hi)) (fun r st'=>st'=st∧r=if b (lo+(hi - lo) / 2)=true then .yield (none,lo+(hi - lo) / 2+1,hi) else .yield (none,lo,lo+(hi - lo) / 2)) st)→
   T prog w A s h (forIn [:n] ((none,lo,hi):Option (Option Nat)×Nat×Nat) f) (LstE b n st) st:=by
  intro f lo hi C f1 f2
  refine T.range (LstI b n st) (.mk lo hi C (nT (Nat.sub_le ..) C.hn)) ?_ ?_
  ·intro u k c st' hkn H
   obtain⟨lo,hi,C,g5⟩:=H
   by_cases hlh:lo≥hi
   ·refine (f1 u lo hi hlh).mono ?_
    rintro r st' ⟨rfl,rfl⟩
    obtain rfl:lo=hi:=nA C.le hlh
    exact .mk lo C
   ·refine (f2 u lo hi (Nat.lt_of_not_le hlh) C.hn).mono ?_
    rintro r st' ⟨rfl,rfl⟩
    cases hb:b (lo+(hi - lo) / 2) with
    | true=>
     rw [if_pos rfl]
     exact .mk _ _ (C.up hmono (half_lt hlh) hb) (half_r g5 (Nat.le_add_right ..))
    | false=>
     rw [if_neg (by simp)]
     exact .mk _ _ (C.down hfalse (Nat.le_add_right ..) (half_lt hlh) hb) (half_l g5 (Nat.le_add_right ..) (half_lt hlh))
  ·intro c st' H
   obtain⟨lo,hi,C,g5⟩:=H
   obtain rfl:=none_left C.le g5
   exact .mk lo C
 refine T.bind (B hint hh _ ?_)
 dsimp only
 cases hb:b hint with
 | true=>
  rw [if_pos rfl]
  refine T.bind (T.mono (Q:=GalE (fun la=>hint+la<n∧b (hint+la)=true) (fun of=>of<n - hint→b (hint+of)=false) st)
   (T.range (GalI (fun la=>hint+la<n∧b (hint+la)=true) st) (.mk 0 1 ⟨hh,hb⟩ (by decide) (Nat.le_refl _)) ?_ ?_) ?_)
  ·intro _ k c st' hkn H
   obtain⟨la,of,g1,g3,g4⟩:=H
   dsimp only
   by_cases hof:of≥n - hint
   ·rw [if_pos hof]
    exact T.pure (.mk la of g1 g3 fun q=>absurd q (Nat.not_lt.mpr hof))
   ·rw [if_neg hof]
    have hn:=Nat.add_lt_of_lt_sub' (Nat.lt_of_not_le hof)
    refine T.bind (B (hint+of) hn _ ?_)
    dsimp only
    cases hb2:b (hint+of) with
    | true=>
     rw [if_neg (by simp)]
     exact T.pure (.mk _ _ ⟨hn,hb2⟩ (lp [_] [] (su zA) (su (.mulL 2 zA)) rfl) (lq [_,_] [(2,su zA,zB)] 1 (.add (su zA) (.num 1)) (su (.mulL 2 zB)) rfl g4))
    | false=>
     rw [if_pos (by rfl)]
     exact T.pure (.mk la of g1 g3 fun _=>hb2)
  ·intro c st' H
   obtain⟨la,of,g1,g3,g4⟩:=H
   exact .mk la of g1 g3 fun q=>absurd (Nat.lt_of_lt_of_le q (Nat.sub_le ..)) (Nat.not_lt.mpr (Nat.le_of_succ_le g4))
  ·intro c st' H
   obtain⟨la,of,g1,g3,g4⟩:=H
   dsimp only
   refine T.bind (T.mono (last _ (hint+la+1) (hint+min of (n - hint)) (up_cut hh hmono hfalse g1 g3 g4) ?_ ?_) ?_)
   ·intro u lo hi hlh
    dsimp only
    rw [if_pos hlh];exact T.pure ⟨rfl,rfl⟩
   ·intro u lo hi hlh hin
    dsimp only
    rw [if_neg (Nat.not_le.mpr hlh)]
    refine T.bind (B (lo+(hi - lo) / 2) (Nat.lt_of_lt_of_le (half_lt (Nat.not_le.mpr hlh)) hin) _ ?_)
    dsimp only
    cases hb:b (lo+(hi - lo) / 2) with
    | true=>rw [if_pos rfl,if_pos rfl];exact T.pure ⟨rfl,rfl⟩
    | false=>rw [if_neg (by simp),if_neg (by simp)];exact T.pure ⟨rfl,rfl⟩
   ·intro c st' H
    obtain⟨k,C⟩:=H
    exact T.pure (q k C.hn C.lows C.highs)
 | false=>
  rw [if_neg (by simp)]
  refine T.bind (T.mono (Q:=GalE (fun la=>la≤hint∧b (hint - la)=false) (fun of=>of<hint+1→b (hint - of)=true) st)
   (T.range (GalI (fun la=>la≤hint∧b (hint - la)=false) st) (.mk 0 1 ⟨Nat.zero_le _,hb⟩ (by decide) (Nat.le_refl _)) ?_ ?_) ?_)
  ·intro _ k c st' hkn H
   obtain⟨la,of,g1,g3,g4⟩:=H
   dsimp only
   by_cases hof:of≥hint+1
   ·rw [if_pos hof]
    exact T.pure (.mk la of g1 g3 fun q=>absurd q (Nat.not_lt.mpr hof))
   ·rw [if_neg hof]
    refine T.bind (B (hint - of) (Nat.lt_of_le_of_lt (Nat.sub_le ..) hh) _ ?_)
    dsimp only
    cases hb2:b (hint - of) with
    | true=>
     rw [if_pos rfl]
     exact T.pure (.mk la of g1 g3 fun _=>hb2)
    | false=>
     rw [if_neg (by simp)]
     exact T.pure (.mk _ _ ⟨Nat.le_of_lt_succ (Nat.lt_of_not_le hof),hb2⟩ (lp [_] [] (su zA) (su (.mulL 2 zA)) rfl) (lq [_,_] [(2,su zA,zB)] 1 (.add (su zA) (.num 1)) (su (.mulL 2 zB)) rfl g4))
  ·intro c st' H
   obtain⟨la,of,g1,g3,g4⟩:=H
   exact .mk la of g1 g3 fun q=>absurd (Nat.lt_of_lt_of_le q hh) (Nat.not_lt.mpr (Nat.le_of_succ_le g4))
  ·intro c st' H
   obtain⟨la,of,g1,g3,g4⟩:=H
   dsimp only
   refine T.bind (T.mono (last _ (hint+1 - min of (hint+1)) (hint - la) (down_cut hh hmono hfalse g1 g3 g4) ?_ ?_) ?_)
   ·intro u lo hi hlh
    dsimp only
    rw [if_pos hlh];exact T.pure ⟨rfl,rfl⟩
   ·intro u lo hi hlh hin
    dsimp only
    rw [if_neg (Nat.not_le.mpr hlh)]
    refine T.bind (B (lo+(hi - lo) / 2) (Nat.lt_of_lt_of_le (half_lt (Nat.not_le.mpr hlh)) hin) _ ?_)
    dsimp only
    cases hb:b (lo+(hi - lo) / 2) with
    | true=>rw [if_pos rfl,if_pos rfl];exact T.pure ⟨rfl,rfl⟩
    | false=>rw [if_neg (by simp),if_neg (by simp)];exact T.pure ⟨rfl,rfl⟩
   ·intro c st' H
    obtain⟨k,C⟩:=H
    exact T.pure (q k C.hn C.lows C.highs)
end
end Mine
namespace Mine
abbrev le (R:Ord)(x y:Keyed):Prop:=R.lt y x=false
theorem le_trans' {R:Ord}{x y z:Keyed}(h1:le R x y)(h2:le R y z):le R x z:=R.tr x y z h1 h2
theorem le_of_lt {R:Ord}{x y:Keyed}(h:R.lt x y=true):le R x y:=R.as x y h
structure Mg (R:Ord)(al bl:List Keyed)(out:List Keyed)(ia ib:Nat):Prop where
 perm:out.Perm (al.take ia++bl.take ib)
 sorted:out.Pairwise (le R)
 below:∀o∈out,∀y∈al.drop ia++bl.drop ib,le R o y
 ha:ia≤al.length
 hb:ib≤bl.length
section
variable {R:Ord}{al bl out:List Keyed}{ia ib:Nat}
theorem Mg.swap (M:Mg R al bl out ia ib):Mg R bl al out ib ia:=
 ⟨M.perm.trans perm_append_comm,M.sorted,fun o ho y hy=>M.below o ho y (by rw [mem_append] at hy ⊢;exact hy.symm),M.hb,M.ha⟩
theorem Mg.app (M:Mg R al bl out ia ib)(sa:al.Pairwise (le R))(k:Nat)(hk:ia+k≤al.length)(hy:∀x∈(al.drop ia).take k,∀y∈bl.drop ib,le R x y) :
  Mg R al bl (out++(al.drop ia).take k) (ia+k) ib:=by
 have e1:al.take (ia+k)=al.take ia++(al.drop ia).take k:=by rw [List.take_add]
 have e2:al.drop ia=(al.drop ia).take k++al.drop (ia+k):=by rw [←drop_drop,take_append_drop]
 have hsub:((al.drop ia).take k++al.drop (ia+k)).Pairwise (le R):=e2▸sa.sublist (drop_sublist ..)
 refine⟨?_,?_,?_,hk,M.hb⟩
 ·rw [e1]
  have h1:(out++(al.drop ia).take k).Perm ((al.take ia++bl.take ib)++(al.drop ia).take k):=M.perm.append_right _
  refine h1.trans ?_
  rw [append_assoc,append_assoc]
  exact List.Perm.append_left _ perm_append_comm
 ·rw [pairwise_append]
  refine⟨M.sorted,(pairwise_append.mp hsub).1,fun o ho x hx=>M.below o ho x ?_⟩
  rw [e2];simp [hx]
 ·intro o ho y hy'
  rw [mem_append] at ho hy'
  rcases ho with ho|ho
  ·refine M.below o ho y ?_
   rw [e2,mem_append,mem_append]
   rcases hy' with h|h
   ·exact .inl (.inr h)
   ·exact .inr h
  ·rcases hy' with h|h
   ·exact (pairwise_append.mp hsub).2.2 o ho y h
   ·exact hy o ho y h
theorem take1 (l:List Keyed)(i:Nat)(x:Keyed)(h:l[i]?=some x):(l.drop i).take 1=[x]:=by
 have hi:=(List.getElem?_eq_some_iff.mp h).1
 rw [drop_eq_getElem_cons hi,take_succ_cons,take_zero]
 rw [getElem?_eq_getElem hi] at h
 rw [Option.some.inj h]
theorem Mg.push (M:Mg R al bl out ia ib)(sa:al.Pairwise (le R)){x:Keyed}(hx:al[ia]?=some x)(hy:∀y∈bl.drop ib,le R x y):Mg R al bl (out++[x]) (ia+1) ib:=by
 have hi:=(List.getElem?_eq_some_iff.mp hx).1
 have:=M.app sa 1 (hi) (by rw [take1 _ _ _ hx];intro z hz;rw [mem_singleton] at hz;subst hz;exact hy)
 rwa [take1 _ _ _ hx] at this
theorem Mg.doneB (M:Mg R al bl out ia ib)(sa:al.Pairwise (le R))(hb:ib=bl.length):(out++al.drop ia++bl.drop ib).Perm (al++bl)∧(out++al.drop ia++bl.drop ib).Pairwise (le R):=by
 subst hb
 rw [drop_length,append_nil]
 refine⟨?_,?_⟩
 ·refine (M.perm.append_right _).trans ?_
  rw [take_length,append_assoc]
  refine (List.Perm.append_left _ perm_append_comm).trans ?_
  rw [←append_assoc,take_append_drop]
 ·rw [pairwise_append]
  exact⟨M.sorted,sa.sublist (drop_sublist ..),fun o ho y hy=>M.below o ho y (by simp [hy])⟩
theorem Mg.doneA (M:Mg R al bl out ia ib)(sb:bl.Pairwise (le R))(ha:ia=al.length):(out++al.drop ia++bl.drop ib).Perm (al++bl)∧(out++al.drop ia++bl.drop ib).Pairwise (le R):=by
 subst ha
 rw [drop_length,append_nil]
 refine⟨?_,?_⟩
 ·refine (M.perm.append_right _).trans ?_
  rw [take_length,append_assoc,take_append_drop]
 ·rw [pairwise_append]
  exact⟨M.sorted,sb.sublist (drop_sublist ..),fun o ho y hy=>M.below o ho y (by simp [hy])⟩
theorem Mg.last (M:Mg R al bl out ia ib)(sb:bl.Pairwise (le R))(ha:ia+1=al.length)(hl:∀x∈al.drop ia,∀y∈bl,le R y x):(out++bl.drop ib++al.drop ia).Perm (al++bl)∧(out++bl.drop ib++al.drop ia).Pairwise (le R):=by
 refine⟨?_,?_⟩
 ·refine ((M.perm.append_right _).append_right _).trans ?_
  rw [append_assoc (al.take ia),take_append_drop,append_assoc]
  refine (List.Perm.append_left _ perm_append_comm).trans ?_
  rw [←append_assoc,take_append_drop]
 ·rw [pairwise_append,pairwise_append]
  refine⟨⟨M.sorted,sb.sublist (drop_sublist ..),fun o ho y hy=>M.below o ho y (by simp [hy])⟩,?_,?_⟩
  ·have:(al.drop ia).length=1:=by rw [length_drop];exact nA (lp [_,_,_] [(zA,su zB),(.add zC zB,zA)] zC (.num 1) rfl (eqR ha) (sbB _ _ (lp [_,_] [(su zA,zB)] zA zB rfl (eqL ha)))) (lp [_,_,_] [(su zA,zB),(zB,.add zC zA)] (.num 1) zC rfl (eqL ha) (sbA _ _))
   obtain⟨z,hz⟩:=List.length_eq_one_iff.mp this
   rw [hz];exact pairwise_singleton ..
  ·intro o ho x hx
   rw [mem_append] at ho
   rcases ho with ho|ho
   ·exact M.below o ho x (by simp [hx])
   ·exact hl x hx o (mem_of_mem_drop ho)
end
theorem ext_list (a:Array Keyed)(i j:Nat):(a.extract i j).toList=(a.toList.drop i).take (j - i):=by
 rw [Array.toList_extract,extract_eq_take_drop]
theorem ext_all (a:Array Keyed)(i:Nat):(a.extract i a.size).toList=a.toList.drop i:=by
 rw [ext_list,take_of_length_le (by simp)]
end Mine
namespace Mine
noncomputable def mergeLo':Array Keyed→Array Keyed→StateT SortSt Sem (Array Keyed):=sortPriv% PySem.Builtin.mergeLo
structure Same (st st':SortSt):Prop where
 arr:arrOf st'=arrOf st
 kind:kindOf st'=kindOf st
 pend:pendingOf st'=pendingOf st
 failed:failedOf st'=failedOf st
theorem Same.refl (st:SortSt):Same st st:=⟨rfl,rfl,rfl,rfl⟩
theorem Same.trans {st st1 st2:SortSt}(x:Same st st1)(y:Same st1 st2):Same st st2:=⟨y.arr.trans x.arr,y.kind.trans x.kind,y.pend.trans x.pend,y.failed.trans x.failed⟩
theorem T.modS {prog:Program}{w:World}{A:Around}{s:Shared}{h:Heap}{α:Type}{st:SortSt}{g:SortSt→SortSt}{f:PUnit→StateT SortSt Sem α}{Q:α→SortSt→Prop}(hf:Same st (g st))(q:∀st2,Same st st2→T prog w A s h (f ⟨⟩) Q st2) :
  T prog w A s h ((_root_.modify g:StateT SortSt Sem PUnit) >>= f) Q st:=T.bind (T.modify (q _ hf))
theorem le_self {R:Ord}(x:Keyed):le R x x:=by
 cases h:R.lt x x with
 | false=>exact h
 | true=>exact R.as x x h
theorem le_drop {R:Ord}{l:List Keyed}(s:l.Pairwise (le R)){i:Nat}{z x:Keyed}(hz:l[i]?=some z)(hx:x∈l.drop i):le R z x:=by
 have hi:=(List.getElem?_eq_some_iff.mp hz).1
 rw [drop_eq_getElem_cons hi] at hx
 rw [getElem?_eq_getElem hi] at hz
 have hp:(l[i]::l.drop (i+1)).Pairwise (le R):=by rw [←drop_eq_getElem_cons hi];exact s.sublist (drop_sublist ..)
 rw [Option.some.inj hz] at hx hp
 rcases mem_cons.mp hx with rfl|hx
 ·exact le_self _
 ·exact (pairwise_cons.mp hp).1 x hx
section
variable {κ:SortKind}{R:Ord}{a₀:Array Keyed}{st:SortSt}
theorem T_gal {left:Bool}{key:Keyed}{arr:Array Keyed}{base n hint:Nat}{xs:List Keyed}{Q:Option Nat→SortSt→Prop}(hA:Asks prog w A s h κ R a₀)(hk:kindOf st=κ)(hkey:key∈a₀.toList)
  (hxs:xs=(arr.toList.drop base).take n)(hn:base+n≤arr.size)(hm:∀x∈xs,x∈a₀.toList)(hs:xs.Pairwise (le R))(hh:hint<n)
  (q:∀k,k≤n→(∀z∈xs.take k,bey R left key z=true)→(∀z∈xs.drop k,bey R left key z=false)→Q (some k) st) :
  T prog w A s h (gallop' left key arr base n hint) Q st:=by
 have hlen:xs.length=n:=by rw [hxs,length_take,length_drop,Array.length_toList];exact nA (Nat.min_le_left _ _) ((eqR (Nat.min_eq_left (lp [_,_,_,_] [(.add zA zB,zC),(zC,.add zD zA)] zB zD rfl hn (sbA _ _)))))
 have hget:∀i,i<n→arr[base+i]?=xs[i]?:=fun i hi=>by
  rw [hxs,getElem?_take,if_pos hi,getElem?_drop,Array.getElem?_toList]
 refine T_gallop (x:=fun i=>xs[i]?.getD key) hA hk hkey (fun i hi=>?_) hh (fun i j hij hj hb=>?_) fun k hk' h1 h2=>?_
 ·rw [hget i hi,getElem?_eq_getElem (nT hi (eqR hlen))]
  exact⟨rfl,hm _ (getElem_mem _)⟩
 ·rw [getElem?_eq_getElem (by (first|exact nT hj (eqR hlen)|exact lp [_,_,_,_] [(zA,zB),(zC,zD),(su zD,zA)] (su zC) zB rfl (eqR hlen) hij hj))] at hb ⊢
  have hle:le R xs[i] xs[j]:=by
   rcases Nat.lt_or_eq_of_le hij with h|rfl
   ·exact pairwise_iff_getElem.mp hs i j (lp [_,_,_,_] [(zA,zB),(su zC,zA),(su zD,zC)] (su zD) zB rfl (eqR hlen) hj h) (nT hj (eqR hlen)) h
   ·exact le_self _
  dsimp only [Option.getD_some] at hb ⊢
  unfold bey at hb ⊢
  cases left with
  | true=>
   rw [if_pos rfl] at hb ⊢
   cases hc:R.lt xs[i] key with
   | true=>rfl
   | false=>
    have:le R key xs[j]:=R.tr _ _ _ hc hle
    rw [show R.lt xs[j] key=false from this] at hb;cases hb
  | false=>
   rw [if_neg (by simp)] at hb ⊢
   rw [Bool.not_eq_true'] at hb ⊢
   exact R.tr _ _ _ hle hb
 ·refine q k hk' (fun z hz=>?_) fun z hz=>?_
  ·obtain⟨i,hi⟩:=mem_iff_getElem?.mp hz
   rw [getElem?_take] at hi
   split at hi
   ·rename_i hik
    have:=h1 i hik
    rw [hi] at this;exact this
   ·cases hi
  ·obtain⟨i,hi⟩:=mem_iff_getElem?.mp hz
   rw [getElem?_drop] at hi
   have hlt:=(List.getElem?_eq_some_iff.mp hi).1
   have:=h2 (k+i) (lp [_,_] [] zA (.add zA zB) rfl) (nT hlt (eqL hlen))
   rw [hi] at this;exact this
structure LoI (R:Ord)(a b:Array Keyed)(st:SortSt)(k:Nat)(out:Array Keyed)(ia ib:Nat)(st':SortSt):Prop where
 same:Same st st'
 mg:Mg R a.toList b.toList out.toList ia ib
 pa:ia+1<a.size
 pb:ib<b.size
 pk:k≤ia+ib
noncomputable def LoG (R:Ord)(a b r:Array Keyed):Prop:=r.toList.Perm (a.toList++b.toList)∧r.toList.Pairwise (le R)
inductive LoP {γ:Type}(I:Array Keyed→Nat→Nat→SortSt→Prop)(G:Array Keyed→SortSt→Prop):Option (Array Keyed)×Array Keyed×Nat×Nat×γ→SortSt→Prop
 | go (out:Array Keyed) (ia ib:Nat) (g:γ) (st':SortSt):I out ia ib st'→LoP I G (none,out,ia,ib,g) st'
 | fin (r:Array Keyed) (x:Array Keyed×Nat×Nat×γ) (st':SortSt):G r st'→LoP I G (some r,x) st'
abbrev NoG:Array Keyed→SortSt→Prop:=fun _ _=>False
abbrev LoD (R:Ord)(a b:Array Keyed)(st:SortSt):Array Keyed→SortSt→Prop:=fun r st'=>LoG R a b r∧Same st st'
structure LoX (R:Ord)(a₀ a b:Array Keyed):Prop where
 ma:∀x∈a.toList,x∈a₀.toList
 mb:∀x∈b.toList,x∈a₀.toList
 sa:a.toList.Pairwise (le R)
 sb:b.toList.Pairwise (le R)
 last:∀x∈a.toList.drop (a.size - 1),∀y∈b.toList,le R y x
theorem at_mem {a a₀:Array Keyed}(ma:∀x∈a.toList,x∈a₀.toList){i:Nat}(hi:i<a.size):∃x,a[i]?=some x∧a.toList[i]?=some x∧x∈a₀.toList:=
 ⟨a[i],Array.getElem?_eq_getElem hi,by rw [Array.getElem?_toList];exact Array.getElem?_eq_getElem hi,ma _ (by simp)⟩
section
variable {a b out:Array Keyed}{ia ib k:Nat}{st':SortSt}
theorem LoX.endB (X:LoX R a₀ a b)(M:Mg R a.toList b.toList out.toList ia ib)(hb:(ib == b.size)=true):LoG R a b (out++a.extract ia a.size++b.extract ib b.size):=by
 unfold LoG
 rw [Array.toList_append,Array.toList_append,ext_all,ext_all]
 exact M.doneB X.sa ((beq_iff_eq.mp hb).trans Array.length_toList.symm)
theorem LoX.endA (X:LoX R a₀ a b)(M:Mg R a.toList b.toList out.toList ia ib)(hb:(ia == a.size)=true):LoG R a b (out++a.extract ia a.size++b.extract ib b.size):=by
 unfold LoG
 rw [Array.toList_append,Array.toList_append,ext_all,ext_all]
 exact M.doneA X.sb ((beq_iff_eq.mp hb).trans Array.length_toList.symm)
theorem LoX.endL (X:LoX R a₀ a b)(M:Mg R a.toList b.toList out.toList ia ib)(hb:(ia+1 == a.size)=true):LoG R a b (out++b.extract ib b.size++a.extract ia a.size):=by
 unfold LoG
 have h:=beq_iff_eq.mp hb
 rw [Array.toList_append,Array.toList_append,ext_all,ext_all]
 exact M.last X.sb (h.trans Array.length_toList.symm) (by rw [show ia=a.size - 1 by exact nA (lp [_,_,_] [(su zA,zB),(zB,su zC)] zA zC rfl (eqL h) (sbA _ _)) (lp [_,_,_] [(zA,su zB),(su zC,zA)] zC zB rfl (eqR h) (sbB _ _ (lp [_,_] [(su zA,zB)] (.num 1) zB rfl (eqL h))))];exact X.last)
theorem LoX.pushA (X:LoX R a₀ a b){x:Keyed}(M:Mg R a.toList b.toList out.toList ia ib)(hx:a.toList[ia]?=some x)(hy:∀y∈b.toList.drop ib,le R x y):Mg R a.toList b.toList (out.push x).toList (ia+1) ib:=by
 rw [Array.toList_push];exact M.push X.sa hx hy
theorem LoX.pushB (X:LoX R a₀ a b){x:Keyed}(M:Mg R a.toList b.toList out.toList ia ib)(hx:b.toList[ib]?=some x)(hy:∀y∈a.toList.drop ia,le R x y):Mg R a.toList b.toList (out.push x).toList ia (ib+1):=by
 rw [Array.toList_push];exact (M.swap.push X.sb hx hy).swap
theorem LoX.appA (X:LoX R a₀ a b){y:Keyed}(M:Mg R a.toList b.toList out.toList ia ib)(hy:b.toList[ib]?=some y)(hk:ia+k≤a.size)(h1:∀z∈(a.toList.drop ia).take k,le R z y):Mg R a.toList b.toList (out++a.extract ia (ia+k)).toList (ia+k) ib:=by
 have:=M.app X.sa k (by rw [Array.length_toList];exact hk) (fun z hz z2 hz2=>le_trans' (h1 z hz) (le_drop X.sb hy hz2))
 rw [Array.toList_append,ext_list,Nat.add_sub_cancel_left];exact this
theorem LoX.appB (X:LoX R a₀ a b){x:Keyed}(M:Mg R a.toList b.toList out.toList ia ib)(hx:a.toList[ia]?=some x)(hk:ib+k≤b.size)(h1:∀z∈(b.toList.drop ib).take k,le R z x):Mg R a.toList b.toList (out++b.extract ib (ib+k)).toList ia (ib+k):=by
 have:=(M.swap.app X.sb k (by rw [Array.length_toList];exact hk) (fun z hz z2 hz2=>le_trans' (h1 z hz) (le_drop X.sa hx hz2))).swap
 rw [Array.toList_append,ext_list,Nat.add_sub_cancel_left];exact this
theorem LoX.galA (X:LoX R a₀ a b){y:Keyed}{Q:Option Nat→SortSt→Prop}(hA:Asks prog w A s h κ R a₀)(hk:kindOf st'=κ)(my:y∈a₀.toList)(hi:ia<a.size)
  (q:∀k,ia+k≤a.size→(∀z∈(a.toList.drop ia).take k,le R z y)→(∀z∈a.toList.drop (ia+k),R.lt y z=true)→Q (some k) st'):T prog w A s h (gallop' false y a ia (a.size - ia) 0) Q st':=by
 refine T_gal (xs:=a.toList.drop ia) hA hk my (by rw [take_of_length_le (by rw [length_drop,Array.length_toList];exact Nat.le_refl _)]) (lp [_,_,_] [(.add zA zB,zC)] (.add zB zA) zC rfl (sbB _ _ (lp [_,_] [(su zA,zB)] zA zB rfl hi))) (fun z hz=>X.ma z (mem_of_mem_drop hz)) (X.sa.sublist (drop_sublist ..)) (lp [_,_,_] [(su zA,zB),(zB,.add zC zA)] (.add (.num 0) (.num 1)) zC rfl hi (sbA _ _)) fun k1 hk1 h1 h2=>q k1 (lp [_,_,_,_] [(zA,zB),(.add zB zC,zD)] (.add zC zA) zD rfl hk1 (sbB _ _ (lp [_,_] [(su zA,zB)] zA zB rfl hi))) (fun z hz=>?_) fun z hz=>?_
 ·have:=h1 z hz;unfold bey at this;rwa [if_neg (by simp),Bool.not_eq_true'] at this
 ·have:=h2 z (by rw [drop_drop];exact hz)
  unfold bey at this;rwa [if_neg (by simp),Bool.not_eq_false'] at this
theorem LoX.galB (X:LoX R a₀ a b){x:Keyed}{Q:Option Nat→SortSt→Prop}(hA:Asks prog w A s h κ R a₀)(hk:kindOf st'=κ)(mx:x∈a₀.toList)(hi:ib<b.size)
  (q:∀k,ib+k≤b.size→(∀z∈(b.toList.drop ib).take k,R.lt z x=true)→(∀z∈b.toList.drop (ib+k),le R x z)→Q (some k) st'):T prog w A s h (gallop' true x b ib (b.size - ib) 0) Q st':=by
 refine T_gal (xs:=b.toList.drop ib) hA hk mx (by rw [take_of_length_le (by rw [length_drop,Array.length_toList];exact Nat.le_refl _)]) (lp [_,_,_] [(.add zA zB,zC)] (.add zB zA) zC rfl (sbB _ _ (lp [_,_] [(su zA,zB)] zA zB rfl hi))) (fun z hz=>X.mb z (mem_of_mem_drop hz)) (X.sb.sublist (drop_sublist ..)) (lp [_,_,_] [(su zA,zB),(zB,.add zC zA)] (.add (.num 0) (.num 1)) zC rfl hi (sbA _ _)) fun k1 hk1 h1 h2=>q k1 (lp [_,_,_,_] [(zA,zB),(.add zB zC,zD)] (.add zC zA) zD rfl hk1 (sbB _ _ (lp [_,_] [(su zA,zB)] zA zB rfl hi))) (fun z hz=>?_) fun z hz=>?_
 ·have:=h1 z hz;unfold bey at this;rwa [if_pos rfl] at this
 ·have:=h2 z (by rw [drop_drop];exact hz)
  unfold bey at this;rwa [if_pos rfl] at this
end
theorem T_mergeLo {a b:Array Keyed}{Q:Array Keyed→SortSt→Prop}(hA:Asks prog w A s h κ R a₀)(hk:kindOf st=κ)(ma:∀x∈a.toList,x∈a₀.toList)(mb:∀x∈b.toList,x∈a₀.toList)
  (sa:a.toList.Pairwise (le R))(sb:b.toList.Pairwise (le R))(na:0<a.size)(nb:0<b.size)(hfirst:∀y,b[0]?=some y→∀x∈a.toList,le R y x)(hlast:∀x∈a.toList.drop (a.size - 1),∀y∈b.toList,le R y x)
  (q:∀out st',Same st st'→out.toList.Perm (a.toList++b.toList)→out.toList.Pairwise (le R)→Q out st'):T prog w A s h (mergeLo' a b) Q st:=by
 obtain⟨y0,hy0,hy0',_⟩:=at_mem mb nb
 have M0:Mg R a.toList b.toList (#[y0]:Array Keyed).toList 0 1:=by
  have:Mg R a.toList b.toList [] 0 0:=⟨List.Perm.refl _,List.Pairwise.nil,(fun o ho=>nomatch ho),Nat.zero_le _,Nat.zero_le _⟩
  exact (this.swap.push sb hy0' (fun y hy=>hfirst y0 hy0 y hy)).swap
 have X:LoX R a₀ a b:=⟨ma,mb,sa,sb,hlast⟩
 clear ma mb sa sb hlast hfirst
 replace q:∀r st',LoG R a b r→Same st st'→Q r st':=fun r st' h1 h2=>q r st' h2 h1.1 h1.2
 refine T.bind (T.rule ?_)
 refine T.eb hy0 ?_
 refine T.ite (fun c1=>T.pure (q _ _ (X.endB M0 c1) (Same.refl _))) fun c1=>?_
 refine T.ite (fun c2=>T.pure (q _ _ (X.endL M0 c2) (Same.refl _))) fun c2=>?_
 have c1':b.size≠1:=fun e=>c1 (by rw [e];rfl)
 have c2':a.size≠1:=fun e=>c2 (by rw [e];rfl)
 clear c1 c2
 refine T.bind (T.get ?_)
 refine T.bindP (LoP (fun _ _ _ _=>False) (LoD R a b st)) (T.range2 (fun k=>LoP (LoI R a b st (k+1)) NoG) (.go _ _ _ _ _ ⟨Same.refl _,M0,lp [_] [(.add (.num 1) (.num 1),zA)] (.add (.add (.num 0) (.num 1)) (.num 1)) zA rfl (nE (lp [_] [(.add (.num 0) (.num 1),zA)] (.num 1) zA rfl na) (Ne.symm c2')),nE (lp [_] [(.add (.num 0) (.num 1),zA)] (.num 1) zA rfl nb) (Ne.symm c1'),lp [] [] (.add (.num 0) (.num 1)) (.add (.num 0) (.num 1)) rfl⟩) ?_ ?_) ?_
 ·intro _ k c st1 Q1 hk1 H done yield
  cases H with|fin _ _ _ H=>exact H.elim|go out ia ib g _ I1
  refine T.bindP (LoP (LoI R a b st (k+2)) (LoD R a b st)) (T.range2 (fun j=>LoP (LoI R a b st (k+1+j)) NoG) (.go _ _ _ _ _ I1) ?_ ?_) ?_
  ·intro _ j c st2 Q2 hj H done yield
   cases H with|fin _ _ _ H=>exact H.elim|go out ia ib g _ I2
   obtain⟨ac,bc⟩:=g
   obtain⟨y,hy,hy',my⟩:=at_mem X.mb I2.pb
   obtain⟨x,hx,hx',mx⟩:=at_mem X.ma (Nat.lt_of_succ_lt I2.pa)
   have p1:=I2.pa;have p2:=I2.pb;have p3:=I2.pk
   dsimp only
   refine T.eb hy (T.eb hx (T.bind (T.lt hA (I2.same.kind.trans hk) my mx ?_)))
   refine T.ite (fun hlt=>T.eb hy ?_) fun hlt=>T.eb hx ?_
   ·have M3:=X.pushB I2.mg hy' (fun z hz=>le_trans' (le_of_lt hlt) (le_drop X.sa hx' hz))
    refine T.ite (fun e1=>T.pure (done _ _ (.fin _ _ _ ⟨X.endB M3 e1,I2.same⟩))) fun e1=>?_
    have e1':ib+1≠b.size:=fun e=>e1 (beq_iff_eq.mpr e)
    exact T.ite (fun _=>T.pure (done _ _ (.go _ _ _ _ _ ⟨I2.same,M3,p1,nE ‹_› ‹_›,lp [_,_,_,_] [(.add (su zA) zB,.add zC zD)] (.add zA (.num 2)) (.add zC (su zD)) rfl p3⟩))) fun _=>T.pure (yield _ _ (.go _ _ _ _ _ ⟨I2.same,M3,p1,nE ‹_› ‹_›,lp [_,_,_,_] [(.add (su zA) zB,.add zC zD)] (.add (su zA) (su zB)) (.add zC (su zD)) rfl p3⟩))
   ·have M3:=X.pushA I2.mg hx' (fun z hz=>le_trans' (show le R x y from Bool.eq_false_iff.mpr hlt) (le_drop X.sb hy' hz))
    refine T.ite (fun e1=>T.pure (done _ _ (.fin _ _ _ ⟨X.endL M3 e1,I2.same⟩))) fun e1=>?_
    have e1':ia+1+1≠a.size:=fun e=>e1 (beq_iff_eq.mpr e)
    exact T.ite (fun _=>T.pure (done _ _ (.go _ _ _ _ _ ⟨I2.same,M3,nE ‹_› ‹_›,p2,lp [_,_,_,_] [(.add (su zA) zB,.add zC zD)] (.add zA (.num 2)) (.add (su zC) zD) rfl p3⟩))) fun _=>T.pure (yield _ _ (.go _ _ _ _ _ ⟨I2.same,M3,nE ‹_› ‹_›,p2,lp [_,_,_,_] [(.add (su zA) zB,.add zC zD)] (.add (su zA) (su zB)) (.add (su zC) zD) rfl p3⟩))
  ·intro c st2 H
   cases H with|fin _ _ _ H=>exact H.elim|go out ia ib g _ I2
   exact .go _ _ _ _ _ ⟨I2.same,I2.mg,I2.pa,I2.pb,by have:=I2.pk;have:=I2.pa;have:=I2.pb;exact lp [_,_,_,_,_,_] [(.add (su zA) zB,.add zC zD),(su zD,zE),(.add zF zE,.add zB (.num 0))] (.add zA (.num 2)) (.add zC zD) rfl (by assumption) this (sbA _ _)⟩
  intro c st2 H
  cases H with|fin r x _ H=>exact T.pure (done _ _ (.fin _ _ _ H))|go out ia ib g2 _ I2
  obtain⟨ac,bc⟩:=g2
  refine T.bind (T.rule ?_)
  refine T.bindP (LoP (LoI R a b st (k+2)) (LoD R a b st)) (T.range2 (fun j=>LoP (LoI R a b st (k+2)) NoG) (.go _ _ _ _ _ I2) ?_ fun c st3 H=>?_) ?_
  ·clear I2 I1 done yield out ia ib ac bc g
   apply share (fun code:Array Keyed→Nat→Nat→Nat→Nat→Nat→StateT SortSt Sem (ForInStep (Option (Array Keyed)×Array Keyed×Nat×Nat×Nat×Nat×Nat))=>∀out ia ib g ac bc st3 (Q3:ForInStep (Option (Array Keyed)×Array Keyed×Nat×Nat×Nat×Nat×Nat)→SortSt→Prop),LoI R a b st (k+2) out ia ib st3→
    (∀c st',LoP (LoI R a b st (k+2)) (LoD R a b st) c st'→Q3 (.done c) st')→(∀c st',LoP (LoI R a b st (k+2)) NoG c st'→Q3 (.yield c) st')→T prog w A s h (code out ia ib g ac bc) Q3 st3)
   ·intro J _ j c st3 Q3 hj H done yield
    cases H with|fin _ _ _ H=>exact H.elim|go out ia ib g _ I3
    obtain⟨g,ac,bc⟩:=g
    refine T.ite (fun hg=>?_) fun hg=>?_
    rotate_left
    ·dsimp -zeta -zetaHave only
     exact J out ia ib g ac bc st3 Q3 I3 done yield
    ·exact J out ia ib (g - 1) ac bc st3 Q3 I3 done yield
   apply share (fun code:Array Keyed→Nat→Nat→Nat→Nat→Nat→StateT SortSt Sem (ForInStep (Option (Array Keyed)×Array Keyed×Nat×Nat×Nat×Nat×Nat))=>∀out ia ib g k1 bc st3 (Q3:ForInStep (Option (Array Keyed)×Array Keyed×Nat×Nat×Nat×Nat×Nat)→SortSt→Prop) y,Same st st3→Mg R a.toList b.toList out.toList ia ib→ia<a.size→ia+1≠a.size→ib<b.size→k+2≤ia+ib→b[ib]?=some y→b.toList[ib]?=some y→(∀z∈a.toList.drop ia,R.lt y z=true)→
    (∀c st',LoP (LoI R a b st (k+2)) (LoD R a b st) c st'→Q3 (.done c) st')→(∀c st',LoP (LoI R a b st (k+2)) NoG c st'→Q3 (.yield c) st')→T prog w A s h (code out ia ib g k1 bc) Q3 st3)
   ·intro J out ia ib g ac bc st3 Q3 I3 done yield
    obtain⟨y,hy,hy',my⟩:=at_mem X.mb I3.pb
    have p1:=I3.pa;have p2:=I3.pb;have p3:=I3.pk
    refine T.modS (⟨rfl,rfl,rfl,rfl⟩) fun st4 S4=>?_
    have hS:=I3.same.trans S4
    refine T.eb hy (T.bind (X.galA hA (hS.kind.trans hk) my (lp [_,_] [(.add (su zA) (.num 1),zB)] (su zA) zB rfl p1) fun k1 hk1 h1 h2=>?_))
    refine T.ite (fun h0=>?_) fun h0=>?_
    rotate_left
    ·have h0':k1=0:=nA (Int.ofNat_le.1 ((cnL (nN h0)))) (Int.ofNat_le.1 (cn0 _))
     refine J out ia ib g k1 bc _ Q3 y hS I3.mg (lp [_,_] [(.add (su zA) (.num 1),zB)] (su zA) zB rfl p1) (Nat.ne_of_lt p1) p2 p3 hy hy' ?_ done yield
     rw [h0'] at h2;exact h2
    ·have M3:=X.appA I3.mg hy' hk1 h1
     refine T.ite (fun e1=>T.pure (done _ _ (.fin _ _ _ ⟨X.endL M3 e1,hS⟩))) fun e1=>?_
     refine T.ite (fun e2=>T.pure (done _ _ (.fin _ _ _ ⟨X.endA M3 e2,hS⟩))) fun e2=>?_
     have e1':ia+k1+1≠a.size:=fun e=>e1 (beq_iff_eq.mpr e)
     have e2':ia+k1≠a.size:=fun e=>e2 (beq_iff_eq.mpr e)
     exact J _ _ ib g k1 bc _ Q3 y hS M3 (nE ‹_› ‹_›) e1' p2 (lp [_,_,_,_] [(.add zA (.num 2),.add zB zC)] (.add zA (.num 2)) (.add (.add zB zD) zC) rfl p3) hy hy' h2 done yield
   apply share (fun code:Array Keyed→Nat→Nat→Nat→Nat→Nat→StateT SortSt Sem (ForInStep (Option (Array Keyed)×Array Keyed×Nat×Nat×Nat×Nat×Nat))=>∀out ia ib g k1 k2 st3 (Q3:ForInStep (Option (Array Keyed)×Array Keyed×Nat×Nat×Nat×Nat×Nat)→SortSt→Prop) x,Same st st3→Mg R a.toList b.toList out.toList ia ib→ia<a.size→ia+1≠a.size→ib<b.size→k+2≤ia+ib→a[ia]?=some x→a.toList[ia]?=some x→(∀z∈b.toList.drop ib,le R x z)→
    (∀c st',LoP (LoI R a b st (k+2)) (LoD R a b st) c st'→Q3 (.done c) st')→(∀c st',LoP (LoI R a b st (k+2)) NoG c st'→Q3 (.yield c) st')→T prog w A s h (code out ia ib g k1 k2) Q3 st3)
   ·intro J out ia ib g k1 bc st3 Q3 y S3 M3 p1 p1' p2 p3 hy hy' hlt done yield
    refine T.eb hy ?_
    have M4:=X.pushB M3 hy' (fun z hz=>le_of_lt (hlt z hz))
    refine T.ite (fun e1=>T.pure (done _ _ (.fin _ _ _ ⟨X.endB M4 e1,S3⟩))) fun e1=>?_
    have e1':ib+1≠b.size:=fun e=>e1 (beq_iff_eq.mpr e)
    obtain⟨x,hx,hx',mx⟩:=at_mem X.ma p1
    refine T.eb hx (T.bind (X.galB hA (S3.kind.trans hk) mx (nE ‹_› ‹_›) fun k2 hk2 h1 h2=>?_))
    generalize out.push y=out2 at M4
    generalize hib:ib+1=ib2 at M4 hk2 h1 h2 e1' ⊢
    refine T.ite (fun h0=>?_) fun h0=>?_
    rotate_left
    ·have h0':k2=0:=nA (Int.ofNat_le.1 ((cnL (nN h0)))) (Int.ofNat_le.1 (cn0 _))
     refine J out2 ia ib2 g k1 k2 st3 Q3 x S3 M4 p1 p1' (nE (lp [_,_,_] [(.add zA zB,zC)] zA zC rfl hk2) e1') (lp [_,_,_,_] [(.add zA (.num 2),.add zB zC),(su zC,zD)] (.add zA (.num 2)) (.add zB zD) rfl p3 (eqL hib)) hx hx' ?_ done yield
     rw [h0'] at h2;exact h2
    ·have M5:=X.appB M4 hx' hk2 (fun z hz=>le_of_lt (h1 z hz))
     refine T.ite (fun e1=>T.pure (done _ _ (.fin _ _ _ ⟨X.endB M5 e1,S3⟩))) fun e1=>?_
     have e1':ib2+k2≠b.size:=fun e=>e1 (beq_iff_eq.mpr e)
     exact J _ ia _ g k1 k2 st3 Q3 x S3 M5 p1 p1' (nE ‹_› ‹_›) (lp [_,_,_,_,_] [(.add zA (.num 2),.add zB zC),(su zC,zD)] (.add zA (.num 2)) (.add zB (.add zD zE)) rfl p3 (eqL hib)) hx hx' h2 done yield
   intro out ia ib g k1 k2 st3 Q3 x S3 M3 p1 p1' p2 p3 hx hx' hle done yield
   refine T.eb hx ?_
   have M4:=X.pushA M3 hx' hle
   refine T.ite (fun e1=>T.pure (done _ _ (.fin _ _ _ ⟨X.endL M4 e1,S3⟩))) fun e1=>?_
   have e1':ia+1+1≠a.size:=fun e=>e1 (beq_iff_eq.mpr e)
   exact T.ite (fun _=>T.pure (done _ _ (.go _ _ _ _ _ ⟨S3,M4,nE (nE p1 p1') e1',p2,lp [_,_,_] [(.add zA (.num 2),.add zB zC)] (.add zA (.num 2)) (.add (su zB) zC) rfl p3⟩))) fun _=>T.pure (yield _ _ (.go _ _ _ _ _ ⟨S3,M4,nE (nE p1 p1') e1',p2,lp [_,_,_] [(.add zA (.num 2),.add zB zC)] (.add zA (.num 2)) (.add (su zB) zC) rfl p3⟩))
  ·cases H with|fin _ _ _ H=>exact H.elim|go out ia ib g _ I3
   exact .go _ _ _ _ _ I3
  intro c st3 H
  cases H with|fin r x _ H=>exact T.pure (done _ _ (.fin _ _ _ H))|go out ia ib g3 _ I3
  obtain⟨g3,ac,bc⟩:=g3
  refine T.modS (⟨rfl,rfl,rfl,rfl⟩) fun st4 S4=>?_
  exact T.pure (yield _ _ (.go _ _ _ _ _ ⟨I3.same.trans S4,I3.mg,I3.pa,I3.pb,by have:=I3.pk;exact lp [_,_,_] [(.add zA (.num 2),.add zB zC)] (.add (su zA) (.num 1)) (.add zB zC) rfl this⟩))
 ·intro c st1 H
  cases H with|fin _ _ _ H=>exact H.elim|go out ia ib g _ I1
  have p1:=I1.pa;have p2:=I1.pb;have p3:=I1.pk
  lia
 ·intro c st1 H
  cases H with|go _ _ _ _ _ H=>exact H.elim|fin r x _ H
  exact T.pure (q r st1 H.1 H.2)
end
end Mine
namespace Mine
noncomputable def mergeHi':Array Keyed→Array Keyed→StateT SortSt Sem (Array Keyed):=sortPriv% PySem.Builtin.mergeHi
noncomputable def Ord.rev (R:Ord):Ord:=⟨fun x y=>R.lt y x,fun a b h=>R.as b a h,fun a b c h1 h2=>R.tr c b a h2 h1⟩
structure Mh (R:Ord)(al bl:List Keyed)(out:List Keyed)(na nb:Nat):Prop where
 mg:Mg R.rev al.reverse bl.reverse out (al.length - na) (bl.length - nb)
 ha:na≤al.length
 hb:nb≤bl.length
theorem rev_sorted {R:Ord}{l:List Keyed}(s:l.Pairwise (le R)):l.reverse.Pairwise (le R.rev):=pairwise_reverse.mpr (s.imp fun h=>h)
theorem rev_drop {l:List Keyed}{n:Nat}(h:n≤l.length):l.reverse.drop (l.length - n)=(l.take n).reverse:=by
 rw [List.drop_reverse,show l.length - (l.length - n)=n by exact nA (lp [_,_,_,_] [(zA,.add zB zC),(.add zD zB,zA)] zD zC rfl (sbA _ _) (sbB _ _ (Nat.sub_le _ _))) (lp [_,_,_,_] [(zA,.add zB zC),(.add zC zD,zA)] zD zB rfl (sbA _ _) (sbB _ _ h))]
section
variable {R:Ord}{al bl out:List Keyed}{na nb:Nat}
theorem Mh.app (M:Mh R al bl out na nb)(sa:al.Pairwise (le R))(t:Nat)(ht:t≤na)(hy:∀x∈(al.take na).drop t,∀y∈bl.take nb,le R y x):Mh R al bl (out++((al.take na).drop t).reverse) t nb:=by
 have ha:=M.ha
 have e:(al.reverse.drop (al.length - na)).take (na - t)=((al.take na).drop t).reverse:=by
  rw [rev_drop M.ha,List.take_reverse,length_take,Nat.min_eq_left M.ha,show na - (na - t)=t by exact nA (lp [_,_,_,_] [(zA,.add zB zC),(.add zD zB,zA)] zD zC rfl (sbA _ _) (sbB _ _ (Nat.sub_le _ _))) (lp [_,_,_,_] [(zA,.add zB zC),(.add zC zD,zA)] zD zB rfl (sbA _ _) (sbB _ _ ht))]
 have:=M.mg.app (rev_sorted sa) (na - t) (by rw [length_reverse];exact lp [_,_,_,_,_] [(.add zA zB,zC),(.add zD zE,zB)] (.add zA zD) zC rfl (sbB _ _ ha) (sbB _ _ ht)) (fun x hx y hy'=>by
  rw [e,mem_reverse] at hx
  rw [rev_drop M.hb,mem_reverse] at hy'
  exact hy x hx y hy')
 rw [e,show al.length - na+(na - t)=al.length - t by exact nA (lp [_,_,_,_,_,_] [(zA,.add zB zC),(.add zD zE,zA),(.add zF zC,zE)] (.add zD zF) zB rfl (sbA _ _) (sbB _ _ ha) (sbB _ _ ht)) (lp [_,_,_,_,_,_] [(zA,.add zB zC),(zC,.add zD zE),(.add zF zE,zA)] zF (.add zB zD) rfl (sbA _ _) (sbA _ _) (sbB _ _ (lp [_,_,_,_,_] [(.add zA zB,zC),(.add zD zE,zB)] zE zC rfl (sbB _ _ ha) (sbB _ _ ht))))] at this
 exact⟨this,nT ht ha,M.hb⟩
theorem Mh.swap (M:Mh R al bl out na nb):Mh R bl al out nb na:=⟨M.mg.swap,M.hb,M.ha⟩
theorem take_last {l:List Keyed}{n:Nat}{x:Keyed}(hx:l[n]?=some x):(l.take (n+1)).drop n=[x]:=by
 rw [take_add_one,hx]
 have hn:=(List.getElem?_eq_some_iff.mp hx).1
 rw [drop_append_of_le_length (by rw [length_take];exact eqR (Nat.min_eq_left (lp [_,_] [(su zA,zB)] zA zB rfl hn))),drop_eq_nil_of_le (by rw [length_take];exact Nat.min_le_left _ _)]
 rfl
theorem Mh.push (M:Mh R al bl out (na+1) nb)(sa:al.Pairwise (le R)){x:Keyed}(hx:al[na]?=some x)(hy:∀y∈bl.take nb,le R y x):Mh R al bl (out++[x]) na nb:=by
 have:=M.app sa na (lp [_] [] zA (su zA) rfl) (by rw [take_last hx];intro z hz;rw [mem_singleton] at hz;subst hz;exact hy)
 rw [take_last hx] at this
 exact this
theorem Mh.done (M:Mh R al bl out na nb)(sb:bl.Pairwise (le R))(hn:na=0):(al.take na++bl.take nb++out.reverse).Perm (al++bl)∧(al.take na++bl.take nb++out.reverse).Pairwise (le R):=by
 have h:=M.mg.swap.doneB (rev_sorted sb) (by rw [hn,length_reverse];exact nA (lp [_,_] [(.add zA (.num 0),zB)] zA zB rfl (sbB _ _ (lp [_] [] (.num 0) zA rfl))) (lp [_,_] [(zA,.add zB (.num 0))] zA zB rfl (sbA _ _)))
 rw [rev_drop M.ha,rev_drop M.hb] at h
 have e:al.take na++bl.take nb++out.reverse=(out++(bl.take nb).reverse++(al.take na).reverse).reverse:=by
  simp [List.reverse_append,append_assoc]
 rw [e]
 refine⟨(reverse_perm _).trans (h.1.trans ?_),pairwise_reverse.mpr (h.2.imp fun q=>q)⟩
 exact ((reverse_perm bl).append (reverse_perm al)).trans perm_append_comm
theorem Mh.first (M:Mh R al bl out na nb)(sa:al.Pairwise (le R))(hn:nb=1)(hl:∀x∈bl.take nb,∀y∈al,le R x y)(hb1:1≤bl.length):(bl.take nb++al.take na++out.reverse).Perm (al++bl)∧(bl.take nb++al.take na++out.reverse).Pairwise (le R):=by
 have h:=M.mg.swap.last (rev_sorted sa) (by rw [hn,length_reverse];exact nA (sbB _ _ hb1) (sbA _ _)) (fun x hx y hy=>by
  rw [rev_drop M.hb,mem_reverse] at hx
  rw [mem_reverse] at hy
  exact hl x hx y hy)
 rw [rev_drop M.ha,rev_drop M.hb] at h
 have e:bl.take nb++al.take na++out.reverse=(out++(al.take na).reverse++(bl.take nb).reverse).reverse:=by
  simp [List.reverse_append,append_assoc]
 rw [e]
 refine⟨(reverse_perm _).trans (h.1.trans ?_),pairwise_reverse.mpr (h.2.imp fun q=>q)⟩
 exact ((reverse_perm bl).append (reverse_perm al)).trans perm_append_comm
end
theorem ext_take (a:Array Keyed)(n:Nat):(a.extract 0 n).toList=a.toList.take n:=by
 rw [ext_list];simp
theorem ext_mid (a:Array Keyed)(t n:Nat):(a.extract t n).toList=(a.toList.take n).drop t:=by
 rw [ext_list,List.drop_take]
theorem le_take {R:Ord}{l:List Keyed}(s:l.Pairwise (le R)){i:Nat}{z x:Keyed}(hz:l[i]?=some z)(hx:x∈l.take (i+1)):le R x z:=by
 rw [take_add_one,hz,mem_append] at hx
 rcases hx with hx|hx
 ·have hi:=(List.getElem?_eq_some_iff.mp hz).1
  have hp:(l.take i++z::l.drop (i+1)).Pairwise (le R):=by
   have:l=l.take i++z::l.drop (i+1):=by
    rw [←(List.getElem?_eq_some_iff.mp hz).2,←drop_eq_getElem_cons hi,take_append_drop]
   rw [←this];exact s
  exact (pairwise_append.mp hp).2.2 x hx z (by simp)
 ·simp at hx;subst hx;exact le_self _
end Mine
namespace Mine
theorem Mh.push' {R:Ord}{al bl out:List Keyed}{na nb:Nat}(M:Mh R al bl out na nb)(sa:al.Pairwise (le R))(h0:0<na){x:Keyed}(hx:al[na - 1]?=some x)(hy:∀y∈bl.take nb,le R y x):Mh R al bl (out++[x]) (na - 1) nb:=by
 obtain⟨n,rfl⟩:∃n,na=n+1:=⟨na - 1,nA (sbA _ _) ((sbB _ _ (lp [_] [(.add (.num 0) (.num 1),zA)] (.num 1) zA rfl h0)))⟩
 exact M.push sa hx hy
section
variable {κ:SortKind}{R:Ord}{a₀:Array Keyed}{st:SortSt}
structure HiI (R:Ord)(a b:Array Keyed)(st:SortSt)(k:Nat)(na nb:Nat)(out:Array Keyed)(st':SortSt):Prop where
 same:Same st st'
 mg:Mh R a.toList b.toList out.toList na nb
 pa:0<na
 pb:1<nb
 pk:na+nb+k≤a.size+b.size
inductive HiP {γ:Type}(I:Nat→Nat→Array Keyed→SortSt→Prop)(G:Array Keyed→SortSt→Prop):Option (Array Keyed)×Nat×Nat×Array Keyed×γ→SortSt→Prop
 | go (na nb:Nat) (out:Array Keyed) (g:γ) (st':SortSt):I na nb out st'→HiP I G (none,na,nb,out,g) st'
 | fin (r:Array Keyed) (x:Nat×Nat×Array Keyed×γ) (st':SortSt):G r st'→HiP I G (some r,x) st'
structure HiX (R:Ord)(a₀ a b:Array Keyed):Prop where
 ma:∀x∈a.toList,x∈a₀.toList
 mb:∀x∈b.toList,x∈a₀.toList
 sa:a.toList.Pairwise (le R)
 sb:b.toList.Pairwise (le R)
 nb:0<b.size
 first:∀x∈b.toList.take 1,∀y∈a.toList,le R x y
section
variable {a b out:Array Keyed}{na nb k:Nat}{st':SortSt}
theorem HiX.ba (M:Mh R a.toList b.toList out.toList na nb):na≤a.size:=by rw [←Array.length_toList];exact M.ha
theorem HiX.bb (M:Mh R a.toList b.toList out.toList na nb):nb≤b.size:=by rw [←Array.length_toList];exact M.hb
theorem HiX.endD (X:HiX R a₀ a b)(M:Mh R a.toList b.toList out.toList na nb)(hn:(na == 0)=true):LoG R a b (a.extract 0 na++b.extract 0 nb++out.reverse):=by
 unfold LoG
 rw [Array.toList_append,Array.toList_append,ext_take,ext_take,Array.toList_reverse]
 exact M.done X.sb (beq_iff_eq.mp hn)
theorem HiX.endZ (X:HiX R a₀ a b)(M:Mh R a.toList b.toList out.toList na nb)(hn:(nb == 0)=true):LoG R a b (a.extract 0 na++b.extract 0 nb++out.reverse):=by
 unfold LoG
 rw [Array.toList_append,Array.toList_append,ext_take,ext_take,Array.toList_reverse]
 have hn:=beq_iff_eq.mp hn
 have:=M.swap.done X.sa hn
 subst hn
 rw [take_zero,nil_append] at this
 rw [take_zero,append_nil]
 exact⟨this.1.trans perm_append_comm,this.2⟩
theorem HiX.endF (X:HiX R a₀ a b)(M:Mh R a.toList b.toList out.toList na nb)(hn:(nb == 1)=true):LoG R a b (b.extract 0 nb++a.extract 0 na++out.reverse):=by
 unfold LoG
 rw [Array.toList_append,Array.toList_append,ext_take,ext_take,Array.toList_reverse]
 have hn:=beq_iff_eq.mp hn
 exact M.first X.sa hn (by rw [hn];exact X.first) (by rw [Array.length_toList];exact X.nb)
theorem take_up {l:List Keyed}{n:Nat}{y z:Keyed}(s:l.Pairwise (le R))(h0:0<n)(hy:l[n - 1]?=some y)(hz:z∈l.take n):le R z y:=
 le_take s hy (by rw [Nat.sub_add_cancel h0];exact hz)
theorem HiX.pushA (X:HiX R a₀ a b){x:Keyed}(M:Mh R a.toList b.toList out.toList na nb)(h0:0<na)(hx:a.toList[na - 1]?=some x)(hy:∀y∈b.toList.take nb,le R y x):Mh R a.toList b.toList (out.push x).toList (na - 1) nb:=by
 rw [Array.toList_push];exact M.push' X.sa h0 hx hy
theorem HiX.pushB (X:HiX R a₀ a b){x:Keyed}(M:Mh R a.toList b.toList out.toList na nb)(h0:0<nb)(hx:b.toList[nb - 1]?=some x)(hy:∀y∈a.toList.take na,le R y x):Mh R a.toList b.toList (out.push x).toList na (nb - 1):=by
 rw [Array.toList_push];exact (M.swap.push' X.sb h0 hx hy).swap
theorem HiX.appA (X:HiX R a₀ a b){y:Keyed}(M:Mh R a.toList b.toList out.toList na nb)(h0:0<nb)(hy:b.toList[nb - 1]?=some y)(hk:k≤na)(h1:∀z∈(a.toList.take na).drop k,R.lt y z=true):Mh R a.toList b.toList (out++(a.extract k na).reverse).toList k nb:=by
 have:=M.app X.sa k hk (fun z hz z2 hz2=>le_trans' (take_up X.sb h0 hy hz2) (le_of_lt (h1 z hz)))
 rw [Array.toList_append,Array.toList_reverse,ext_mid];exact this
theorem HiX.appB (X:HiX R a₀ a b){x:Keyed}(M:Mh R a.toList b.toList out.toList na nb)(h0:0<na)(hx:a.toList[na - 1]?=some x)(hk:k≤nb)(h1:∀z∈(b.toList.take nb).drop k,le R x z):Mh R a.toList b.toList (out++(b.extract k nb).reverse).toList na k:=by
 have:=(M.swap.app X.sb k hk (fun z hz z2 hz2=>le_trans' (take_up X.sa h0 hx hz2) (h1 z hz))).swap
 rw [Array.toList_append,Array.toList_reverse,ext_mid];exact this
theorem HiX.galA (X:HiX R a₀ a b){y:Keyed}{Q:Option Nat→SortSt→Prop}(hA:Asks prog w A s h κ R a₀)(hk:kindOf st'=κ)(my:y∈a₀.toList)(h0:0<na)(hi:na≤a.size)
  (q:∀k,k≤na→(∀z∈a.toList.take k,le R z y)→(∀z∈(a.toList.take na).drop k,R.lt y z=true)→Q (some k) st'):T prog w A s h (gallop' false y a 0 na (na - 1)) Q st':=by
 refine T_gal (xs:=a.toList.take na) hA hk my (by rw [drop_zero]) (lp [_,_] [(zA,zB)] (.add (.num 0) zA) zB rfl hi) (fun z hz=>X.ma z (mem_of_mem_take hz)) (X.sa.sublist (List.take_sublist ..)) (sbB _ _ (lp [_] [(.add (.num 0) (.num 1),zA)] (.num 1) zA rfl h0)) fun t1 ht1 h1 h2=>q t1 ht1 (fun z hz=>?_) fun z hz=>?_
 ·have:=h1 z (by rw [take_take,Nat.min_eq_left ht1];exact hz)
  unfold bey at this;rwa [if_neg (by simp),Bool.not_eq_true'] at this
 ·have:=h2 z hz;unfold bey at this;rwa [if_neg (by simp),Bool.not_eq_false'] at this
theorem HiX.galB (X:HiX R a₀ a b){x:Keyed}{Q:Option Nat→SortSt→Prop}(hA:Asks prog w A s h κ R a₀)(hk:kindOf st'=κ)(mx:x∈a₀.toList)(h0:0<nb)(hi:nb≤b.size)
  (q:∀k,k≤nb→(∀z∈b.toList.take k,R.lt z x=true)→(∀z∈(b.toList.take nb).drop k,le R x z)→Q (some k) st'):T prog w A s h (gallop' true x b 0 nb (nb - 1)) Q st':=by
 refine T_gal (xs:=b.toList.take nb) hA hk mx (by rw [drop_zero]) (lp [_,_] [(zA,zB)] (.add (.num 0) zA) zB rfl hi) (fun z hz=>X.mb z (mem_of_mem_take hz)) (X.sb.sublist (List.take_sublist ..)) (sbB _ _ (lp [_] [(.add (.num 0) (.num 1),zA)] (.num 1) zA rfl h0)) fun t1 ht1 h1 h2=>q t1 ht1 (fun z hz=>?_) fun z hz=>?_
 ·have:=h1 z (by rw [take_take,Nat.min_eq_left ht1];exact hz)
  unfold bey at this;rwa [if_pos rfl] at this
 ·have:=h2 z hz;unfold bey at this;rwa [if_pos rfl] at this
end
theorem T_mergeHi {a b:Array Keyed}{Q:Array Keyed→SortSt→Prop}(hA:Asks prog w A s h κ R a₀)(hk:kindOf st=κ)(ma:∀x∈a.toList,x∈a₀.toList)(mb:∀x∈b.toList,x∈a₀.toList)
  (sa:a.toList.Pairwise (le R))(sb:b.toList.Pairwise (le R))(na:0<a.size)(nb:0<b.size)(hfirst:∀x∈b.toList.take 1,∀y∈a.toList,le R x y)(hlast:∀x,a.toList[a.size - 1]?=some x→∀y∈b.toList,le R y x)
  (q:∀out st',Same st st'→out.toList.Perm (a.toList++b.toList)→out.toList.Pairwise (le R)→Q out st'):T prog w A s h (mergeHi' a b) Q st:=by
 obtain⟨x0,hx0,hx0',_⟩:=at_mem ma (Nat.sub_lt na Nat.one_pos)
 have M0:Mh R a.toList b.toList (#[x0]:Array Keyed).toList (a.size - 1) b.size:=by
  have:Mh R a.toList b.toList [] a.size b.size:=⟨⟨by rw [Array.length_toList,Array.length_toList];simp,List.Pairwise.nil,(fun o ho=>nomatch ho),by rw [Array.length_toList];exact lp [_,_,_] [(.add zA zB,zB)] zA zC rfl (sbB _ _ (lp [_] [] zA zA rfl)),by rw [Array.length_toList];exact lp [_,_,_] [(.add zA zB,zB)] zA zC rfl (sbB _ _ (lp [_] [] zA zA rfl))⟩,Nat.le_of_eq Array.length_toList.symm,Nat.le_of_eq Array.length_toList.symm⟩
  exact this.push' sa na hx0' (fun y hy=>hlast x0 hx0' y (mem_of_mem_take hy))
 have X:HiX R a₀ a b:=⟨ma,mb,sa,sb,nb,hfirst⟩
 clear ma mb sa sb hlast hfirst
 replace q:∀r st',LoG R a b r→Same st st'→Q r st':=fun r st' h1 h2=>q r st' h2 h1.1 h1.2
 refine T.bind (T.rule ?_)
 refine T.eb hx0 ?_
 refine T.ite (fun c1=>T.pure (q _ _ (X.endD M0 c1) (Same.refl _))) fun c1=>?_
 refine T.ite (fun c2=>T.pure (q _ _ (X.endF M0 c2) (Same.refl _))) fun c2=>?_
 have c1':a.size - 1≠0:=fun e=>c1 (by rw [e];rfl)
 have c2':b.size≠1:=fun e=>c2 (by rw [e];rfl)
 clear c1 c2
 refine T.bind (T.get ?_)
 refine T.bindP (HiP (fun _ _ _ _=>False) (LoD R a b st)) (T.range2 (fun k=>HiP (HiI R a b st (k+1)) NoG) (.go _ _ _ _ _ ⟨Same.refl _,M0,lp [_] [(.num 1,zA)] (.add (.num 0) (.num 1)) zA rfl (nP c1'),nE (lp [_] [(.add (.num 0) (.num 1),zA)] (.num 1) zA rfl nb) (Ne.symm c2'),lp [_,_,_] [(su zA,zB)] (.add (.add zA zC) (.add (.num 0) (.num 1))) (.add zB zC) rfl (sbB _ _ (nT (nP c1') (Nat.sub_le _ _)))⟩) ?_ ?_) ?_
 ·intro _ k c st1 Q1 hk1 H done yield
  cases H with|fin _ _ _ H=>exact H.elim|go na nb out g _ I1
  refine T.bindP (HiP (HiI R a b st (k+2)) (LoD R a b st)) (T.range2 (fun j=>HiP (HiI R a b st (k+1+j)) NoG) (.go _ _ _ _ _ I1) ?_ ?_) ?_
  ·intro _ j c st2 Q2 hj H done yield
   cases H with|fin _ _ _ H=>exact H.elim|go na nb out g _ I2
   obtain⟨ac,bc⟩:=g
   have p1:=I2.pa;have p2:=I2.pb;have p3:=I2.pk;have b1:=HiX.ba I2.mg;have b2:=HiX.bb I2.mg
   have pb0:=Nat.lt_of_succ_lt p2
   obtain⟨y,hy,hy',my⟩:=at_mem X.mb (Nat.lt_of_lt_of_le (Nat.sub_lt pb0 Nat.one_pos) b2)
   obtain⟨x,hx,hx',mx⟩:=at_mem X.ma (Nat.lt_of_lt_of_le (Nat.sub_lt p1 Nat.one_pos) b1)
   dsimp only
   refine T.eb hy (T.eb hx (T.bind (T.lt hA (I2.same.kind.trans hk) my mx ?_)))
   refine T.ite (fun hlt=>T.eb hx ?_) fun hlt=>T.eb hy ?_
   ·have M3:=X.pushA I2.mg p1 hx' (fun z hz=>le_trans' (take_up X.sb pb0 hy' hz) (le_of_lt hlt))
    refine T.ite (fun e1=>T.pure (done _ _ (.fin _ _ _ ⟨X.endD M3 e1,I2.same⟩))) fun e1=>?_
    have e1':na - 1≠0:=fun e=>e1 (beq_iff_eq.mpr e)
    exact T.ite (fun _=>T.pure (done _ _ (.go _ _ _ _ _ ⟨I2.same,M3,lp [_] [(.num 1,zA)] (.add (.num 0) (.num 1)) zA rfl (nP e1'),p2,lp [_,_,_,_,_,_,_] [(.add (.add zA zB) (.add (su zC) zD),.add zE zF),(su zG,zA)] (.add (.add zG zB) (.add zC (.num 2))) (.add zE zF) rfl p3 (sbB _ _ (nT (nP e1') (Nat.sub_le _ _)))⟩))) fun _=>T.pure (yield _ _ (.go _ _ _ _ _ ⟨I2.same,M3,lp [_] [(.num 1,zA)] (.add (.num 0) (.num 1)) zA rfl (nP e1'),p2,lp [_,_,_,_,_,_,_] [(.add (.add zA zB) (.add (su zC) zD),.add zE zF),(su zG,zA)] (.add (.add zG zB) (.add (su zC) (su zD))) (.add zE zF) rfl p3 (sbB _ _ (nT (nP e1') (Nat.sub_le _ _)))⟩))
   ·have M3:=X.pushB I2.mg pb0 hy' (fun z hz=>le_trans' (take_up X.sa p1 hx' hz) (show le R x y from Bool.eq_false_iff.mpr hlt))
    refine T.ite (fun e1=>T.pure (done _ _ (.fin _ _ _ ⟨X.endF M3 e1,I2.same⟩))) fun e1=>?_
    have e1':nb - 1≠1:=fun e=>e1 (beq_iff_eq.mpr e)
    exact T.ite (fun _=>T.pure (done _ _ (.go _ _ _ _ _ ⟨I2.same,M3,p1,nE (lp [_,_] [(.add (.num 1) (.num 1),zA),(zA,su zB)] (.num 1) zB rfl p2 (sbA _ _)) (Ne.symm e1'),lp [_,_,_,_,_,_,_] [(.add (.add zA zB) (.add (su zC) zD),.add zE zF),(su zG,zB)] (.add (.add zA zG) (.add zC (.num 2))) (.add zE zF) rfl p3 (sbB _ _ (lp [_] [(.add (.num 0) (.num 1),zA)] (.num 1) zA rfl pb0))⟩))) fun _=>T.pure (yield _ _ (.go _ _ _ _ _ ⟨I2.same,M3,p1,nE (lp [_,_] [(.add (.num 1) (.num 1),zA),(zA,su zB)] (.num 1) zB rfl p2 (sbA _ _)) (Ne.symm e1'),lp [_,_,_,_,_,_,_] [(.add (.add zA zB) (.add (su zC) zD),.add zE zF),(su zG,zB)] (.add (.add zA zG) (.add (su zC) (su zD))) (.add zE zF) rfl p3 (sbB _ _ (lp [_] [(.add (.num 0) (.num 1),zA)] (.num 1) zA rfl pb0))⟩))
  ·intro c st2 H
   cases H with|fin _ _ _ H=>exact H.elim|go na nb out g _ I2
   exact .go _ _ _ _ _ ⟨I2.same,I2.mg,I2.pa,I2.pb,by have:=I2.pk;have:=I2.pa;have:=I2.pb;exact lq [_,_,_,_,_,_] [(1,.add (.add zA zB) (.add (su zC) zD),.add zE zF),(1,.add zE zF,.add zD (.num 0))] 0 (.add (.add zA zB) (.add zC (.num 2))) (.add zE zF) rfl (by assumption) (sbA _ _)⟩
  intro c st2 H
  cases H with|fin r x _ H=>exact T.pure (done _ _ (.fin _ _ _ H))|go na nb out g2 _ I2
  obtain⟨ac,bc⟩:=g2
  refine T.bind (T.rule ?_)
  refine T.bindP (HiP (HiI R a b st (k+2)) (LoD R a b st)) (T.range2 (fun j=>HiP (HiI R a b st (k+2)) NoG) (.go _ _ _ _ _ I2) ?_ fun c st3 H=>?_) ?_
  ·clear I2 I1 done yield na nb out ac bc g
   apply share (fun code:Nat→Nat→Array Keyed→Nat→Nat→Nat→StateT SortSt Sem (ForInStep (Option (Array Keyed)×Nat×Nat×Array Keyed×Nat×Nat×Nat))=>∀na nb out g ac bc st3 (Q3:ForInStep (Option (Array Keyed)×Nat×Nat×Array Keyed×Nat×Nat×Nat)→SortSt→Prop),HiI R a b st (k+2) na nb out st3→
    (∀c st',HiP (HiI R a b st (k+2)) (LoD R a b st) c st'→Q3 (.done c) st')→(∀c st',HiP (HiI R a b st (k+2)) NoG c st'→Q3 (.yield c) st')→T prog w A s h (code na nb out g ac bc) Q3 st3)
   ·intro J _ j c st3 Q3 hj H done yield
    cases H with|fin _ _ _ H=>exact H.elim|go na nb out g _ I3
    obtain⟨g,ac,bc⟩:=g
    refine T.ite (fun hg=>?_) fun hg=>?_
    rotate_left
    ·dsimp -zeta -zetaHave only
     exact J na nb out g ac bc st3 Q3 I3 done yield
    ·exact J na nb out (g - 1) ac bc st3 Q3 I3 done yield
   apply share (fun code:Nat→Nat→Array Keyed→Nat→Nat→Nat→StateT SortSt Sem (ForInStep (Option (Array Keyed)×Nat×Nat×Array Keyed×Nat×Nat×Nat))=>∀na nb out g k1 bc st3 (Q3:ForInStep (Option (Array Keyed)×Nat×Nat×Array Keyed×Nat×Nat×Nat)→SortSt→Prop) y,HiI R a b st (k+2) na nb out st3→b[nb - 1]?=some y→b.toList[nb - 1]?=some y→(∀z∈a.toList.take na,le R z y)→
    (∀c st',HiP (HiI R a b st (k+2)) (LoD R a b st) c st'→Q3 (.done c) st')→(∀c st',HiP (HiI R a b st (k+2)) NoG c st'→Q3 (.yield c) st')→T prog w A s h (code na nb out g k1 bc) Q3 st3)
   ·intro J na nb out g ac bc st3 Q3 I3 done yield
    have p1:=I3.pa;have p2:=I3.pb;have p3:=I3.pk;have b1:=HiX.ba I3.mg;have b2:=HiX.bb I3.mg
    have pb0:=Nat.lt_of_succ_lt p2
    obtain⟨y,hy,hy',my⟩:=at_mem X.mb (Nat.lt_of_lt_of_le (Nat.sub_lt pb0 Nat.one_pos) b2)
    refine T.modS (⟨rfl,rfl,rfl,rfl⟩) fun st4 S4=>?_
    have hS:=I3.same.trans S4
    refine T.eb hy (T.bind (X.galA hA (hS.kind.trans hk) my p1 b1 fun t1 ht1 h1 h2=>?_))
    dsimp -zeta -zetaHave only
    generalize hk1:na - t1=k1
    refine T.ite (fun h0=>?_) fun h0=>?_
    rotate_left
    ·have h0':t1=na:=by lia
     refine J na nb out g k1 bc _ Q3 y ⟨hS,I3.mg,p1,p2,p3⟩ hy hy' ?_ done yield
     rw [h0'] at h1;exact h1
    ·have M3:=X.appA I3.mg pb0 hy' ht1 h2
     refine T.ite (fun e1=>T.pure (done _ _ (.fin _ _ _ ⟨X.endD M3 e1,hS⟩))) fun e1=>?_
     have e1':t1≠0:=fun e=>e1 (beq_iff_eq.mpr e)
     exact J t1 nb _ g k1 bc _ Q3 y ⟨hS,M3,lp [_] [(.num 1,zA)] (.add (.num 0) (.num 1)) zA rfl (nP e1'),p2,lp [_,_,_,_,_,_,_] [(.add (.add zA zB) (.add zC (.num 2)),.add zD zE),(.add zF zG,zA)] (.add (.add zG zB) (.add zC (.num 2))) (.add zD zE) rfl p3 (sbB _ _ ht1)⟩ hy hy' h1 done yield
   apply share (fun code:Nat→Nat→Array Keyed→Nat→Nat→Nat→StateT SortSt Sem (ForInStep (Option (Array Keyed)×Nat×Nat×Array Keyed×Nat×Nat×Nat))=>∀na nb out g k1 k2 st3 (Q3:ForInStep (Option (Array Keyed)×Nat×Nat×Array Keyed×Nat×Nat×Nat)→SortSt→Prop) x,HiI R a b st (k+3) na nb out st3→a[na - 1]?=some x→a.toList[na - 1]?=some x→(∀z∈b.toList.take nb,le R z x)→
    (∀c st',HiP (HiI R a b st (k+2)) (LoD R a b st) c st'→Q3 (.done c) st')→(∀c st',HiP (HiI R a b st (k+2)) NoG c st'→Q3 (.yield c) st')→T prog w A s h (code na nb out g k1 k2) Q3 st3)
   ·intro J na nb out g k1 bc st3 Q3 y I3 hy hy' hlt done yield
    have p1:=I3.pa;have p2:=I3.pb;have p3:=I3.pk;have b1:=HiX.ba I3.mg;have b2:=HiX.bb I3.mg
    refine T.eb hy ?_
    have M4:=X.pushB I3.mg (Nat.lt_of_succ_lt p2) hy' hlt
    refine T.ite (fun e1=>T.pure (done _ _ (.fin _ _ _ ⟨X.endF M4 e1,I3.same⟩))) fun e1=>?_
    have e1':nb - 1≠1:=fun e=>e1 (beq_iff_eq.mpr e)
    obtain⟨x,hx,hx',mx⟩:=at_mem X.ma (Nat.lt_of_lt_of_le (Nat.sub_lt p1 Nat.one_pos) b1)
    refine T.eb hx (T.bind (X.galB hA (I3.same.kind.trans hk) mx (lp [_,_] [(.add (.num 1) (.num 1),zA),(zA,su zB)] (.add (.num 0) (.num 1)) zB rfl p2 (sbA _ _)) (lp [_,_,_] [(zA,zB),(su zC,zA)] zC zB rfl b2 (sbB _ _ (lp [_] [(.add (.num 1) (.num 1),zA)] (.num 1) zA rfl p2))) fun t2 ht2 h1 h2=>?_))
    dsimp -zeta -zetaHave only
    generalize out.push y=out2 at M4 ⊢
    generalize hib:nb - 1=nb2 at M4 ht2 h1 h2 e1' ⊢
    generalize hk2:nb2 - t2=k2
    refine T.ite (fun h0=>?_) fun h0=>?_
    rotate_left
    ·have h0':t2=nb2:=by lia
     refine J na nb2 out2 g k1 k2 st3 Q3 x ⟨I3.same,M4,p1,nE (lp [_,_,_] [(.add (.num 1) (.num 1),zA),(zB,zC),(zA,su zB)] (.num 1) zC rfl p2 (eqL hib) (sbA _ _)) (Ne.symm e1'),lp [_,_,_,_,_,_,_] [(.add (.add zA zB) (.add zC (.num 2)),.add zD zE),(zF,zG),(su zG,zB)] (.add (.add zA zF) (.add zC (.num 3))) (.add zD zE) rfl p3 (eqR hib) (sbB _ _ (lp [_] [(.add (.num 1) (.num 1),zA)] (.num 1) zA rfl p2))⟩ hx hx' ?_ done yield
     rw [h0'] at h1;exact fun z hz=>le_of_lt (h1 z hz)
    ·have M5:=X.appB M4 p1 hx' ht2 h2
     refine T.ite (fun e1=>T.pure (done _ _ (.fin _ _ _ ⟨X.endF M5 e1,I3.same⟩))) fun e1=>?_
     refine T.ite (fun e2=>T.pure (done _ _ (.fin _ _ _ ⟨X.endZ M5 e2,I3.same⟩))) fun e2=>?_
     have e1':t2≠1:=fun e=>e1 (beq_iff_eq.mpr e)
     have e2':t2≠0:=fun e=>e2 (beq_iff_eq.mpr e)
     exact J na t2 _ g k1 k2 st3 Q3 x ⟨I3.same,M5,p1,nE (nP e2') (Ne.symm e1'),lp [_,_,_,_,_,_,_,_,_] [(.add (.add zA zB) (.add zC (.num 2)),.add zD zE),(zF,zG),(su zG,zB),(.add (.var 7) (.var 8),zF)] (.add (.add zA (.var 8)) (.add zC (.num 3))) (.add zD zE) rfl p3 (eqR hib) (sbB _ _ (lp [_,_,_,_,_] [(zA,zB),(zC,zD),(.add (.num 0) (.num 1),zC),(zB,zE),(zD,zA)] (.num 1) zE rfl (eqR hib) (eqR hk2) h0 (Nat.sub_le _ _) (Nat.sub_le _ _))) (sbB _ _ ht2)⟩ hx hx' (fun z hz=>le_of_lt (h1 z hz)) done yield
   intro na nb out g k1 k2 st3 Q3 x I3 hx hx' hle done yield
   have p1:=I3.pa;have p3:=I3.pk
   refine T.eb hx ?_
   have M4:=X.pushA I3.mg p1 hx' hle
   refine T.ite (fun e1=>T.pure (done _ _ (.fin _ _ _ ⟨X.endD M4 e1,I3.same⟩))) fun e1=>?_
   have e1':na - 1≠0:=fun e=>e1 (beq_iff_eq.mpr e)
   exact T.ite (fun _=>T.pure (done _ _ (.go _ _ _ _ _ ⟨I3.same,M4,lp [_] [(.num 1,zA)] (.add (.num 0) (.num 1)) zA rfl (nP e1'),I3.pb,lp [_,_,_,_,_,_] [(.add (.add zA zB) (.add zC (.num 3)),.add zD zE),(su zF,zA)] (.add (.add zF zB) (.add zC (.num 2))) (.add zD zE) rfl p3 (sbB _ _ (nT (nP e1') (Nat.sub_le _ _)))⟩))) fun _=>T.pure (yield _ _ (.go _ _ _ _ _ ⟨I3.same,M4,lp [_] [(.num 1,zA)] (.add (.num 0) (.num 1)) zA rfl (nP e1'),I3.pb,lp [_,_,_,_,_,_] [(.add (.add zA zB) (.add zC (.num 3)),.add zD zE),(su zF,zA)] (.add (.add zF zB) (.add zC (.num 2))) (.add zD zE) rfl p3 (sbB _ _ (nT (nP e1') (Nat.sub_le _ _)))⟩))
  ·cases H with|fin _ _ _ H=>exact H.elim|go na nb out g _ I3
   exact .go _ _ _ _ _ I3
  intro c st3 H
  cases H with|fin r x _ H=>exact T.pure (done _ _ (.fin _ _ _ H))|go na nb out g3 _ I3
  obtain⟨g3,ac,bc⟩:=g3
  refine T.modS (⟨rfl,rfl,rfl,rfl⟩) fun st4 S4=>?_
  exact T.pure (yield _ _ (.go _ _ _ _ _ ⟨I3.same.trans S4,I3.mg,I3.pa,I3.pb,I3.pk⟩))
 ·intro c st1 H
  cases H with|fin _ _ _ H=>exact H.elim|go na nb out g _ I1
  have p1:=I1.pa;have p2:=I1.pb;have p3:=I1.pk
  lia
 ·intro c st1 H
  cases H with|go _ _ _ _ _ H=>exact H.elim|fin r x _ H
  exact T.pure (q r st1 H.1 H.2)
end
end Mine
namespace Mine
abbrev mergeAtS:Nat→StateT SortSt Sem Bool:=sortPriv% PySem.Builtin.mergeAt
theorem set_all:∀(m:List Keyed)(j:Nat)(P W S:List Keyed)(arr:Array Keyed)(p:Nat),arr.toList=P++(W++S)→P.length=p+j→W.length=m.length→
  ((m.zipIdx j).foldl (fun (a:Array Keyed) (x:Keyed×Nat)=>a.setIfInBounds (p+x.2) x.1) arr).toList=P++(m++S)
 | [],j,P,W,S,arr,p,h,_,hW=>by
  have:W=[]:=length_eq_zero_iff.mp hW
  subst this;simpa using h
 | x::m,j,P,W,S,arr,p,h,hP,hW=>by
  cases W with
  | nil=>simp at hW
  | cons y W=>
   rw [List.zipIdx_cons,foldl_cons]
   have h1:(arr.setIfInBounds (p+j) x).toList=(P++[x])++(W++S):=by
    rw [Array.toList_setIfInBounds,h,←hP]
    simp
   have:=set_all m (j+1) (P++[x]) W S _ p h1 (by simp;exact nA (lp [_,_,_] [(zA,.add zB zC)] (su zA) (.add zB (su zC)) rfl (eqL hP)) (lp [_,_,_] [(.add zA zB,zC)] (.add zA (su zB)) (su zC) rfl (eqR hP))) (by simpa using hW)
   rw [this];simp
section
variable {κ:SortKind}{R:Ord}{a₀:Array Keyed}{st:SortSt}
theorem T_mergeAt {i sa na pw sb nb pw2:Nat}{pre X Y post:List Keyed}{Q:Bool→SortSt→Prop}(hA:Asks prog w A s h κ R a₀)(hk:kindOf st=κ)(hf:failedOf st=none)(hp1:(pendingOf st)[i]?=some (sa,na,pw))(hp2:(pendingOf st)[i+1]?=some (sb,nb,pw2))
  (harr:(arrOf st).toList=pre++(X++(Y++post)))(l1:pre.length=sa)(l2:X.length=na)(l3:sb=sa+na)(l4:Y.length=nb)(p1:0<na)(p2:0<nb)(sX:X.Pairwise (le R))(sY:Y.Pairwise (le R))(hm:∀x∈(arrOf st).toList,x∈a₀.toList)
  (q:∀Z st',Z.Perm (X++Y)→Z.Pairwise (le R)→(arrOf st').toList=pre++(Z++post)→kindOf st'=κ→failedOf st'=none→pendingOf st'=((pendingOf st).setIfInBounds i (sa,na+nb,pw)).eraseIdxIfInBounds (i+1)→Q true st') :
  T prog w A s h (mergeAtS i) Q st:=by
 have hsz:(arrOf st).size=sa+na+nb+post.length:=by
  rw [←Array.length_toList,harr];simp;exact nA (lp [_,_,_,_,_,_,_] [(zA,zB),(zC,zD),(zE,zF)] (.add zA (.add zC (.add zE zG))) (.add (.add (.add zB zD) zF) zG) rfl (eqL l1) (eqL l2) (eqL l4)) (lp [_,_,_,_,_,_,_] [(zA,zB),(zC,zD),(zE,zF)] (.add (.add (.add zA zC) zE) zG) (.add zB (.add zD (.add zF zG))) rfl (eqR l1) (eqR l2) (eqR l4))
 have mX:∀x∈X,x∈a₀.toList:=fun x hx=>hm x (by rw [harr];simp [hx])
 have mY:∀x∈Y,x∈a₀.toList:=fun x hx=>hm x (by rw [harr];simp [hx])
 obtain⟨y0,Y',hY⟩:∃y0 Y',Y=y0::Y':=by
  cases Y with
  | nil=>simp at l4;lia
  | cons a b=>exact⟨a,b,rfl⟩
 have hy0:(arrOf st)[sb]?=some y0:=by
  rw [←Array.getElem?_toList,harr,getElem?_append_right (by exact lp [_,_,_,_] [(zA,zB),(.add zB zC,zD)] zA zD rfl (eqL l1) (eqR l3)),getElem?_append_right (by exact lp [_,_,_,_,_,_] [(zA,zB),(zC,zD),(.add zB zD,zE),(zE,.add zF zA)] zC zF rfl (eqL l1) (eqL l2) (eqR l3) (sbA _ _)),hY]
  rw [show sb - pre.length - X.length=0 by exact nA (lp [_,_,_,_,_,_,_] [(zA,zB),(zC,zD),(zE,.add zA zC),(.add zF zD,zG),(.add zG zB,zE)] zF (.num 0) rfl (eqR l1) (eqR l2) (eqL l3) (sbB _ _ (lp [_,_,_,_,_,_] [(zA,zB),(zC,zD),(.add zB zD,zE),(zE,.add zF zA)] zC zF rfl (eqL l1) (eqL l2) (eqR l3) (sbA _ _))) (sbB _ _ (lp [_,_,_,_] [(zA,zB),(.add zB zC,zD)] zA zD rfl (eqL l1) (eqR l3)))) (lp [_] [] (.num 0) zA rfl)];rfl
 have dX:X=((arrOf st).toList.drop sa).take na:=by
  rw [harr,←l1,drop_left,←l2,take_left]
 have dY:Y=((arrOf st).toList.drop sb).take nb:=by
  rw [harr,l3,←drop_drop,←l1,drop_left,←l2,drop_left,←l4,take_left]
 refine T.bind (T.get ?_)
 rw [hp1,hp2]
 dsimp only
 refine T.bind (T.set ?_)
 refine T.bind (T.elem hy0 (T.bind (T_gal (arr:=arrOf st) (xs:=X) hA hk (mY y0 (by rw [hY];simp)) dX (lp [_,_,_,_,_] [(.add (.add (.add zA zB) zC) zD,zE)] (.add zA zB) zE rfl (eqR hsz)) mX sX p1 fun k hk1 h1 h2=>?_)))
 dsimp only
 have h1':∀z∈X.take k,le R z y0:=fun z hz=>by have:=h1 z hz;unfold bey at this;rw [if_neg (by simp),Bool.not_eq_true'] at this;exact this
 have h2':∀z∈X.drop k,R.lt y0 z=true:=fun z hz=>by have:=h2 z hz;unfold bey at this;rw [if_neg (by simp),Bool.not_eq_false'] at this;exact this
 have y0le:∀y∈Y,le R y0 y:=fun y hy=>by
  rw [hY] at hy sY
  rcases mem_cons.mp hy with rfl|hy
  ·exact le_self _
  ·exact (pairwise_cons.mp sY).1 y hy
 have sXY:X.Pairwise (le R)∧Y.Pairwise (le R):=⟨sX,sY⟩
 have sXk:=sX
 rw [←take_append_drop k X,pairwise_append] at sXk
 by_cases c1:(na - k == 0)=true
 ·rw [if_pos c1]
  have hkn:k=na:=by
   have:na - k=0:=by simpa using c1
   exact nA (lp [_,_,_] [(.add zA zB,zC)] zB zC rfl (sbB _ _ hk1)) (lp [_,_,_] [(zA,.num 0),(zB,.add zA zC)] zB zC rfl (eqL this) (sbA _ _))
  refine T.pure (q (X++Y) _ (List.Perm.refl _) ?_ ?_ hk hf rfl)
  ·rw [pairwise_append]
   refine⟨sX,sY,fun x hx y hy=>le_trans' (h1' x ?_) (y0le y hy)⟩
   rw [take_of_length_le (nT (eqL l2) (eqR hkn))];exact hx
  ·show (arrOf st).toList=_
   rw [harr,append_assoc]
 rw [if_neg c1]
 have c1':na - k≠0:=fun e=>c1 (by rw [e];rfl)
 obtain⟨xl,hxl⟩:∃xl,X[na - 1]?=some xl:=⟨_,getElem?_eq_getElem (nT (sbB _ _ (nT (nP c1') (Nat.sub_le _ _))) (eqR l2))⟩
 have hxl':(arrOf st)[sa+k+(na - k) - 1]?=some xl:=by
  rw [←Array.getElem?_toList,harr,getElem?_append_right (by exact lp [_,_,_,_,_] [(zA,zB),(.num 1,zC),(.add (.add zB zD) zC,su zE)] zA zE rfl (eqL l1) (nP c1') (sbA _ _)),getElem?_append_left (by exact lp [_,_,_,_,_,_,_,_] [(zA,zB),(zC,zD),(.add zE zB,zF),(.add zG (.var 7),zC),(su zF,.add (.add zA (.var 7)) zG)] (su zE) zD rfl (eqR l1) (eqR l2) (sbB _ _ (lp [_,_,_,_,_] [(zA,zB),(.num 1,zC),(.add (.add zB zD) zC,su zE)] zA zE rfl (eqL l1) (nP c1') (sbA _ _))) (sbB _ _ hk1) (sbB _ _ (lp [_,_,_] [(.num 1,zA)] (.num 1) (.add (.add zB zC) zA) rfl (nP c1'))))]
  rw [show sa+k+(na - k) - 1 - pre.length=na - 1 by exact nA (lp [_,_,_,_,_,_,_,_] [(zA,zB),(zC,su zD),(.add zE zB,zF),(.add zG (.var 7),zC),(su zF,.add (.add zA (.var 7)) zG)] zE zD rfl (eqR l1) (sbA _ _) (sbB _ _ (lp [_,_,_,_,_] [(zA,zB),(.num 1,zC),(.add (.add zB zD) zC,su zE)] zA zE rfl (eqL l1) (nP c1') (sbA _ _))) (sbB _ _ hk1) (sbB _ _ (lp [_,_,_,_,_] [(zA,.add zB zC),(su zD,zA)] (.num 1) (.add (.add zE zC) zB) rfl (sbA _ _) (sbB _ _ (nT (nP c1') (Nat.sub_le _ _)))))) (lp [_,_,_,_,_,_,_,_] [(zA,zB),(zC,.add zD zA),(zE,.add zF zG),(.add (.add zB zG) zF,su zC),(.add (.var 7) (.num 1),zE)] (.var 7) zD rfl (eqL l1) (sbA _ _) (sbA _ _) (sbA _ _) (sbB _ _ (nT (nP c1') (Nat.sub_le _ _))))];exact hxl
 have lel:∀x∈X,le R x xl:=fun x hx=>le_take sX hxl (by rw [show na - 1+1=na by exact nA ((sbB _ _ (nT (nP c1') (Nat.sub_le _ _)))) (sbA _ _),take_of_length_le (eqL l2)];exact hx)
 refine T.bind (T.elem hxl' (T.bind (T_gal (arr:=arrOf st) (xs:=Y) hA hk (mX xl (mem_of_getElem? hxl)) dY (lp [_,_,_,_,_,_] [(zA,.add zB zC),(.add (.add (.add zB zC) zD) zE,zF)] (.add zA zD) zF rfl (eqL l3) (eqR hsz)) mY sY (sbB _ _ (lp [_] [(.add (.num 0) (.num 1),zA)] (.num 1) zA rfl p2)) fun k2 hk2 h3 h4=>?_)))
 dsimp only
 have h3':∀z∈Y.take k2,R.lt z xl=true:=fun z hz=>by have:=h3 z hz;unfold bey at this;rwa [if_pos rfl] at this
 have h4':∀z∈Y.drop k2,le R xl z:=fun z hz=>by have:=h4 z hz;unfold bey at this;rwa [if_pos rfl] at this
 by_cases c2:(k2 == 0)=true
 ·rw [if_pos c2]
  have hk0:k2=0:=by simpa using c2
  refine T.pure (q (X++Y) _ (List.Perm.refl _) ?_ ?_ hk hf rfl)
  ·rw [pairwise_append]
   exact⟨sX,sY,fun x hx y hy=>le_trans' (lel x hx) (h4' y (by rw [hk0];exact hy))⟩
  ·show (arrOf st).toList=_
   rw [harr,append_assoc]
 rw [if_neg c2]
 have c2':k2≠0:=fun e=>c2 (by rw [e];rfl)
 have eX:((arrOf st).extract (sa+k) sb).toList=X.drop k:=by
  rw [ext_list,harr,←drop_drop,←l1,drop_left,drop_append_of_le_length (by exact lp [_,_,_,_] [(zA,zB),(.add zC zD,zA)] zD zB rfl (eqR l2) (sbB _ _ hk1)),show sb - (pre.length+k)=(X.drop k).length by rw [length_drop];exact nA (lp [_,_,_,_,_,_,_,_] [(zA,zB),(zC,zD),(zE,.add zA zC),(zD,.add zF zG),(.add (.var 7) (.add zB zG),zE)] (.var 7) zF rfl (eqR l1) (eqR l2) (eqL l3) (sbA _ _) (sbB _ _ (lp [_,_,_,_,_] [(zA,zB),(.add zB zC,zD),(zE,zC)] (.add zA zE) zD rfl (eqL l1) (eqR l3) hk1))) (lp [_,_,_,_,_,_,_,_] [(zA,zB),(zC,zD),(.add zB zD,zE),(zE,.add zF (.add zA zG)),(.add (.var 7) zG,zC)] (.var 7) zF rfl (eqL l1) (eqL l2) (eqR l3) (sbA _ _) (sbB _ _ (nT hk1 (eqR l2)))),take_left]
 have eY:((arrOf st).extract sb (sb+k2)).toList=Y.take k2:=by
  rw [ext_list,show sb+k2 - sb=k2 by exact nA (lp [_,_,_] [(.add zA zB,.add zB zC)] zA zC rfl (sbB _ _ (lp [_,_] [] zA (.add zA zB) rfl))) (lp [_,_,_] [(.add zA zB,.add zC zA)] zB zC rfl (sbA _ _)),harr,l3,←drop_drop,←l1,drop_left,←l2,drop_left,take_append_of_le_length (nT hk2 (eqR l4))]
 have sYk:=sY
 rw [←take_append_drop k2 Y,pairwise_append] at sYk
 have zX:((arrOf st).extract (sa+k) sb).size=na - k:=by rw [←Array.length_toList,eX,length_drop,l2]
 have zY:((arrOf st).extract sb (sb+k2)).size=k2:=by rw [←Array.length_toList,eY,length_take];exact nA (Nat.min_le_left _ _) ((eqR (Nat.min_eq_left (nT hk2 (eqR l4)))))
 have after:∀(merged:Array Keyed) (st':SortSt),arrOf st'=arrOf st→kindOf st'=κ→failedOf st'=none→pendingOf st'=((pendingOf st).setIfInBounds i (sa,na+nb,pw)).eraseIdxIfInBounds (i+1)→
   merged.toList.Perm (X.drop k++Y.take k2)→merged.toList.Pairwise (le R)→
   Q true (PyProof.Rows.SortSt.mk' (kindOf st') (merged.toList.zipIdx.foldl (fun (a:Array Keyed) (x:Keyed×Nat)=>a.setIfInBounds (sa+k+x.2) x.1) (arrOf st')) (pendingOf st') (gallopOf st') (failedOf st')):=by
  intro merged st' a1 a2 a3 a4 m1 m2
  have hz:(merged.toList.zipIdx.foldl (fun (a:Array Keyed) (x:Keyed×Nat)=>a.setIfInBounds (sa+k+x.2) x.1) (arrOf st')).toList=(pre++X.take k)++(merged.toList++(Y.drop k2++post)):=by
   refine set_all merged.toList 0 (pre++X.take k) (X.drop k++Y.take k2) (Y.drop k2++post) (arrOf st') (sa+k) ?_ ?_ m1.length_eq.symm
   ·rw [a1,harr]
    simp only [append_assoc]
    congr 1
    rw [←append_assoc (X.take k),take_append_drop]
    congr 1
    rw [←append_assoc (Y.take k2),take_append_drop]
   ·rw [length_append,l1,length_take];exact nA (lp [_,_,_] [(zA,zB)] (.add zC zA) (.add (.add zC zB) (.num 0)) rfl (Nat.min_le_left _ _)) (lp [_,_,_] [(zA,zB)] (.add (.add zC zA) (.num 0)) (.add zC zB) rfl (eqR (Nat.min_eq_left (nT hk1 (eqR l2)))))
  have hmem:∀z,z∈merged.toList→z∈X.drop k∨z∈Y.take k2:=fun z hz=>by
   have:=m1.mem_iff.mp hz
   rwa [mem_append] at this
  refine q (X.take k++(merged.toList++Y.drop k2)) _ ?_ ?_ ?_ a2 a3 a4
  ·have h1:(X.take k++(merged.toList++Y.drop k2)).Perm (X.take k++((X.drop k++Y.take k2)++Y.drop k2)):=List.Perm.append_left _ (m1.append_right _)
   refine h1.trans ?_
   rw [append_assoc (X.drop k),take_append_drop,←append_assoc,take_append_drop]
  ·rw [pairwise_append,pairwise_append]
   refine⟨sXk.1,⟨m2,sYk.2.1,fun z hz y hy=>?_⟩,fun x hx z hz=>?_⟩
   ·rcases hmem z hz with h|h
    ·exact le_trans' (lel z (mem_of_mem_drop h)) (h4' y hy)
    ·exact sYk.2.2 z h y hy
   ·rw [mem_append] at hz
    rcases hz with hz|hz
    ·rcases hmem z hz with h|h
     ·exact sXk.2.2 x hx z h
     ·exact le_trans' (h1' x hx) (y0le z (mem_of_mem_take h))
    ·exact le_trans' (h1' x hx) (y0le z (mem_of_mem_drop hz))
  ·show (merged.toList.zipIdx.foldl _ (arrOf st')).toList=_
   rw [hz];simp only [append_assoc]
 have fst0:((arrOf st).extract sb (sb+k2))[0]?=some y0:=by
  rw [←Array.getElem?_toList,eY,getElem?_take,if_pos (by exact lp [_] [(.num 1,zA)] (.add (.num 0) (.num 1)) zA rfl (nP c2')),hY];rfl
 by_cases c3:na - k≤k2
 ·rw [if_pos c3]
  refine T.bind (T_mergeLo (κ:=κ) hA hk (fun x hx=>mX x (mem_of_mem_drop (eX▸hx))) (fun x hx=>mY x (mem_of_mem_take (eY▸hx))) (by rw [eX];exact sXk.2.1) (by rw [eY];exact sYk.1) (by show 0<((arrOf st).extract (sa+k) sb).size;rw [zX];exact lp [_] [(.num 1,zA)] (.add (.num 0) (.num 1)) zA rfl (nP c1')) (by show 0<((arrOf st).extract sb (sb+k2)).size;rw [zY];exact lp [_] [(.num 1,zA)] (.add (.num 0) (.num 1)) zA rfl (nP c2'))
   (fun y hy x hx=>?_) (fun x hx y hy=>?_) fun merged st' S1 m1 m2=>?_)
  ·have hy':((arrOf st).extract sb (sb+k2))[0]?=some y:=hy
   rw [fst0] at hy';cases hy'
   exact le_of_lt (h2' x (eX▸hx))
  ·rw [eX] at hx
   have hxx:x=xl:=by
    rw [drop_drop] at hx
    have e:k+(((arrOf st).extract (sa+k) sb).size - 1)=na - 1:=by rw [zX];exact nA (lp [_,_,_,_,_] [(zA,su zB),(su zC,zD),(.add zD zE,zA)] (.add zE zC) zB rfl (sbA _ _) (sbB _ _ (nP c1')) (sbB _ _ hk1)) (lp [_,_,_,_,_] [(zA,su zB),(zC,.add zA zD),(su zE,zC)] zE (.add zD zB) rfl (sbA _ _) (sbA _ _) (sbB _ _ (lp [_,_,_] [(zA,zB),(su zC,zA)] (.num 1) zB rfl (Nat.sub_le _ _) (sbB _ _ (nP c1')))))
    have hx':x∈X.drop (na - 1):=by
     have:x∈X.drop (k+(((arrOf st).extract (sa+k) sb).size - 1)):=hx
     rwa [e] at this
    rw [drop_eq_getElem_cons (nT (sbB _ _ (nT (nP c1') (Nat.sub_le _ _))) (eqR l2)),drop_eq_nil_of_le (nT (eqL l2) (sbA _ _)),mem_singleton] at hx'
    rw [getElem?_eq_getElem (by exact nT (sbB _ _ (nT (nP c1') (Nat.sub_le _ _))) (eqR l2))] at hxl
    rw [hx'];exact Option.some.inj hxl
   subst hxx
   exact le_of_lt (h3' y (eY▸hy))
  ·refine T.bind (T.modify ?_)
   refine T.bind (T.get ?_)
   have hfin:=after merged st' S1.arr (S1.kind.trans hk) (S1.failed.trans hf) S1.pend (by rw [eX,eY] at m1;exact m1) m2
   have hff:failedOf st'=none:=S1.failed.trans hf
   refine T.pure ?_
   show Q (failedOf st').isNone _
   rw [hff];exact hfin
 ·rw [if_neg c3]
  refine T.bind (T_mergeHi (κ:=κ) hA hk (fun x hx=>mX x (mem_of_mem_drop (eX▸hx))) (fun x hx=>mY x (mem_of_mem_take (eY▸hx))) (by rw [eX];exact sXk.2.1) (by rw [eY];exact sYk.1) (by show 0<((arrOf st).extract (sa+k) sb).size;rw [zX];exact lp [_,_] [(su zA,zB)] (.add (.num 0) (.num 1)) zB rfl (nG c3)) (by show 0<((arrOf st).extract sb (sb+k2)).size;rw [zY];exact lp [_] [(.num 1,zA)] (.add (.num 0) (.num 1)) zA rfl (nP c2'))
   (fun y hy x hx=>?_) (fun x hx y hy=>?_) fun merged st' S1 m1 m2=>?_)
  ·rw [eY,take_take,hY] at hy
   have:y=y0:=by
    rw [show min 1 k2=0+1 by exact nA (lp [_] [(zA,.num 1)] zA (.add (.num 0) (.num 1)) rfl (Nat.min_le_left _ _)) (lp [_] [(.num 1,zA)] (.add (.num 0) (.num 1)) zA rfl (eqR (Nat.min_eq_left (nP c2')))),take_succ_cons,take_zero,mem_singleton] at hy
    exact hy
   subst this
   exact le_of_lt (h2' x (eX▸hx))
  ·have hxx:x=xl:=by
    have hx2:((arrOf st).extract (sa+k) sb).toList[((arrOf st).extract (sa+k) sb).size - 1]?=some x:=hx
    rw [eX,zX,getElem?_drop,show k+(na - k - 1)=na - 1 by exact nA (lp [_,_,_,_,_] [(zA,su zB),(su zC,zD),(.add zD zE,zA)] (.add zE zC) zB rfl (sbA _ _) (sbB _ _ (lp [_,_] [(su zA,zB)] (.num 1) zB rfl (nG c3))) (sbB _ _ hk1)) (lp [_,_,_,_,_] [(zA,su zB),(zC,.add zA zD),(su zE,zC)] zE (.add zD zB) rfl (sbA _ _) (sbA _ _) (sbB _ _ (lp [_,_,_] [(zA,zB),(su zC,zA)] (.num 1) zB rfl (Nat.sub_le _ _) (sbB _ _ (lp [_,_] [(su zA,zB)] (.num 1) zB rfl (nG c3)))))),hxl] at hx2
    exact (Option.some.inj hx2).symm
   subst hxx
   exact le_of_lt (h3' y (eY▸hy))
  ·refine T.bind (T.modify ?_)
   refine T.bind (T.get ?_)
   have hfin:=after merged st' S1.arr (S1.kind.trans hk) (S1.failed.trans hf) S1.pend (by rw [eX,eY] at m1;exact m1) m2
   have hff:failedOf st'=none:=S1.failed.trans hf
   refine T.pure ?_
   show Q (failedOf st').isNone _
   rw [hff];exact hfin
end
end Mine
namespace Mine
theorem rev_seg {arr:Array Keyed}{P W S:List Keyed}{i j:Nat}(h:arr.toList=P++(W++S))(hi:P.length=i)(hj:i+W.length=j):(mirror arr i j ((j - i) / 2)).toList=P++(W.reverse++S):=by
 subst hi hj
 have hsz:P.length+W.length≤arr.size:=by rw [←Array.length_toList,h,length_append,length_append,←Nat.add_assoc];exact Nat.le_add_right ..
 apply ext_getElem?
 intro k
 rw [Array.getElem?_toList,getElem?_mirror_all hsz k,←Array.getElem?_toList,←Array.getElem?_toList,h]
 by_cases h1:k<P.length
 ·rw [if_neg fun e=>Nat.not_lt.mpr e.1 h1,getElem?_append_left h1,getElem?_append_left h1]
 obtain⟨t,rfl⟩:=Nat.exists_eq_add_of_le (nN h1)
 by_cases c:t<W.length
 ·have hw:1≤W.length:=Nat.lt_of_le_of_lt (Nat.zero_le _) c
  rw [if_pos ⟨Nat.le_add_right ..,Nat.add_lt_add_left c _⟩,Nat.add_sub_assoc (nT hw (Nat.le_add_left ..)),Nat.add_sub_add_left,Nat.add_sub_assoc hw,Nat.add_sub_assoc (Nat.le_sub_one_of_lt c),at_r,at_r,
   getElem?_append_left (Nat.lt_of_le_of_lt (Nat.sub_le ..) (Nat.sub_lt hw Nat.one_pos)),getElem?_append_left (by rw [length_reverse];exact c),getElem?_reverse c]
 ·rw [if_neg fun e=>c (Nat.lt_of_add_lt_add_left e.2),at_r,at_r,getElem?_append_right (nN c),getElem?_append_right (by rw [length_reverse];exact nN c),length_reverse]
structure Rest (st st':SortSt):Prop where
 kind:kindOf st'=kindOf st
 pend:pendingOf st'=pendingOf st
 failed:failedOf st'=failedOf st
theorem Rest.refl (st:SortSt):Rest st st:=⟨rfl,rfl,rfl⟩
abbrev ge (R:Ord)(x y:Keyed):Prop:=le R y x
section
variable {κ:SortKind}{R:Ord}{a₀:Array Keyed}{st:SortSt}
theorem T_lt2 {pre X post:List Keyed}{i j:Nat}{Q:Option Bool→SortSt→Prop}(hA:Asks prog w A s h κ R a₀)(hk:kindOf st=κ)(harr:(arrOf st).toList=pre++(X++post))(hm:∀x∈X,x∈a₀.toList)
  (hi:i<pre.length+X.length)(hi0:pre.length≤i)(hj:j<pre.length+X.length)(hj0:pre.length≤j)(q:∀x y,X[i - pre.length]?=some x→X[j - pre.length]?=some y→Q (some (R.lt x y)) st):T prog w A s h (ltAt' i j) Q st:=by
 have g:∀i,i<pre.length+X.length→pre.length≤i→∃x,X[i - pre.length]?=some x∧(arrOf st)[i]?=some x∧x∈a₀.toList:=fun i hi hi0=>by
  have:i - pre.length<X.length:=Nat.sub_lt_left_of_lt_add hi0 hi
  refine⟨X[i - pre.length],getElem?_eq_getElem this,?_,hm _ (getElem_mem _)⟩
  rw [←Array.getElem?_toList,harr,getElem?_append_right hi0,getElem?_append_left this,getElem?_eq_getElem this]
 obtain⟨x,hx,hx',mx⟩:=g i hi hi0
 obtain⟨y,hy,hy',my⟩:=g j hj hj0
 rw [ltAt'_eq]
 refine T.bind (T.get ?_)
 exact T.bind (T.elem hx' (T.bind (T.elem hy' (T.lt hA hk mx my (q x y hx hy)))))
theorem T_rev {i j:Nat}{P W S:List Keyed}{Q:Unit→SortSt→Prop}(harr:(arrOf st).toList=P++(W++S))(hi:P.length=i)(hj:i+W.length=j)(q:∀st',Rest st st'→(arrOf st').toList=P++(W.reverse++S)→Q () st'):T prog w A s h (reverseSlice' i j) Q st:=by
 rw [reverseSlice'_eq]
 exact T.modify (q _ ⟨rfl,rfl,rfl⟩ (rev_seg harr hi hj))
end
end Mine
namespace Mine
theorem Rest.trans {a b c:SortSt}(x:Rest a b)(y:Rest b c):Rest a c:=⟨y.kind.trans x.kind,y.pend.trans x.pend,y.failed.trans x.failed⟩
section
variable {R:Ord}
theorem up_snoc {X:List Keyed}{n:Nat}{x y:Keyed}(u:(X.take n).Pairwise (le R))(hx:X[n]?=some x)(h0:0<n)(hy:X[n - 1]?=some y)(h:le R y x):(X.take (n+1)).Pairwise (le R):=by
 rw [take_add_one,hx,Option.toList_some,pairwise_append]
 refine⟨u,pairwise_singleton ..,fun z hz w hw=>?_⟩
 rw [mem_singleton] at hw;subst hw
 refine le_trans' (le_take (l:=X.take n) u (i:=n - 1) (by rw [getElem?_take,if_pos (by exact sbB _ _ (lp [_] [(.add (.num 0) (.num 1),zA)] (.num 1) zA rfl h0))];exact hy) ?_) h
 rw [show n - 1+1=n by exact nA ((sbB _ _ (lp [_] [(.add (.num 0) (.num 1),zA)] (.num 1) zA rfl h0))) (sbA _ _),take_take,Nat.min_self];exact hz
structure Down (R:Ord)(X:List Keyed)(n q:Nat):Prop where
 ex:∃U V,X.take n=U++V∧V.length=q+1∧V.Pairwise (fun x y=>le R x y∧le R y x)∧(U++V).Pairwise (ge R)
theorem last_of {V:List Keyed}{q:Nat}(h:V.length=q+1):∃W y,V=W++[y]:=⟨V.dropLast,V.getLast (by rintro rfl;simp at h),(List.dropLast_concat_getLast _).symm⟩
theorem last_eq {X U W:List Keyed}{y' y:Keyed}{n:Nat}(e:X.take n=U++(W++[y']))(hlen:n=U.length+(W.length+1))(hy:X[n - 1]?=some y):y'=y:=by
 have h1:(X.take n)[n - 1]?=some y:=by rw [getElem?_take,if_pos (Nat.sub_lt (by rw [hlen];exact Nat.succ_pos _) Nat.one_pos)];exact hy
 rw [e,hlen] at h1
 exact Option.some.inj (((at_r U _ W.length).trans (at_r W [y'] 0)).symm.trans h1)
theorem Down.snoc_less {X:List Keyed}{n q:Nat}{x y:Keyed}(D:Down R X n q)(hn:n≤X.length)(hx:X[n]?=some x)(hy:X[n - 1]?=some y)(h:le R x y):Down R X (n+1) 0:=by
 obtain⟨U,V,e,hl,_,hd⟩:=D.ex
 obtain⟨W,y',rfl⟩:=last_of hl
 have hlen:n=U.length+(W.length+1):=by
  have:=congrArg List.length e
  rw [length_take,Nat.min_eq_left hn] at this
  simpa using this
 obtain rfl:=last_eq e hlen hy
 refine⟨⟨U++(W++[y']),[x],by rw [take_add_one,hx,e];rfl,rfl,pairwise_singleton ..,?_⟩⟩
 rw [pairwise_append]
 refine⟨hd,pairwise_singleton ..,fun z hz w hw=>?_⟩
 rw [mem_singleton] at hw;subst hw
 rw [←append_assoc,mem_append] at hz
 rcases hz with hz|hz
 ·rw [←append_assoc,pairwise_append] at hd
  exact le_trans' h (hd.2.2 z hz y' (by simp))
 ·rw [mem_singleton] at hz;subst hz;exact h
theorem Down.snoc_less' {X:List Keyed}{n:Nat}{x:Keyed}(D:(X.take n).Pairwise (ge R))(hx:X[n]?=some x)(h:∀z∈X.take n,le R x z):Down R X (n+1) 0:=by
 refine⟨⟨X.take n,[x],by rw [take_add_one,hx];rfl,rfl,pairwise_singleton ..,?_⟩⟩
 rw [pairwise_append]
 refine⟨D,pairwise_singleton ..,fun z hz w hw=>?_⟩
 rw [mem_singleton] at hw;subst hw;exact h z hz
theorem ge_last {X:List Keyed}{n:Nat}{y:Keyed}(D:(X.take n).Pairwise (ge R))(h0:0<n)(hy:X[n - 1]?=some y):∀z∈X.take n,le R y z:=by
 intro z hz
 have hr:(X.take n).reverse.Pairwise (le R):=pairwise_reverse.mpr (D.imp fun h=>h)
 have hn:n - 1<X.length:=(List.getElem?_eq_some_iff.mp hy).1
 have hn2:n≤X.length:=Nat.le_of_pred_lt hn
 have h0':(X.take n).reverse[0]?=some y:=by
  rw [getElem?_reverse (by rw [length_take,Nat.min_eq_left hn2];exact h0),length_take,Nat.min_eq_left hn2,Nat.sub_zero,getElem?_take,if_pos (Nat.sub_lt h0 Nat.one_pos)];exact hy
 exact le_drop hr h0' (by rw [drop_zero,mem_reverse];exact hz)
theorem Down.snoc_same {X:List Keyed}{n q:Nat}{x y:Keyed}(D:Down R X n q)(hn:n≤X.length)(hx:X[n]?=some x)(hy:X[n - 1]?=some y)(h:le R x y)(h':le R y x):Down R X (n+1) (q+1):=by
 obtain⟨U,V,e,hl,hv,hd⟩:=D.ex
 have D1:=D.snoc_less hn hx hy h
 obtain⟨U1,V1,f1,f2,_,f4⟩:=D1.ex
 obtain⟨W,y',rfl⟩:=last_of hl
 have hlen:n=U.length+(W.length+1):=by
  have:=congrArg List.length e
  rw [length_take,Nat.min_eq_left hn] at this
  simpa using this
 obtain rfl:=last_eq e hlen hy
 have e2:X.take (n+1)=U++((W++[y'])++[x]):=by rw [take_add_one,hx,e];simp
 refine⟨⟨U,(W++[y'])++[x],e2,by simp at hl ⊢;exact nA (eqL hl) (eqR hl),?_,?_⟩⟩
 ·rw [pairwise_append]
  refine⟨hv,pairwise_singleton ..,fun z hz w hw=>?_⟩
  rw [mem_singleton] at hw;subst hw
  rw [mem_append] at hz
  rcases hz with hz|hz
  ·rw [pairwise_append] at hv
   have:=hv.2.2 z hz y' (by simp)
   exact⟨le_trans' this.1 h',le_trans' h this.2⟩
  ·rw [mem_singleton] at hz;subst hz;exact⟨h',h⟩
 ·rw [←e2,f1];exact f4
theorem Down.rev_tail {X:List Keyed}{n q:Nat}(D:Down R X n q)(hn:n≤X.length):∃P V S,X=P++(V++S)∧P.length=n - (q+1)∧V.length=q+1∧P.length+V.length=n∧Down R (P++(V.reverse++S)) n q:=by
 obtain⟨U,V,e,hl,hv,hd⟩:=D.ex
 have hlen:n=U.length+V.length:=by
  have:=congrArg List.length e
  rw [length_take,Nat.min_eq_left hn] at this
  simpa using this
 refine⟨U,V,X.drop n,?_,by rw [hlen,hl,Nat.add_sub_cancel],hl,hlen.symm,⟨⟨U,V.reverse,?_,by rw [length_reverse,hl],?_,?_⟩⟩⟩
 ·rw [←append_assoc,←e,take_append_drop]
 ·rw [←append_assoc,hlen,take_append_of_le_length (by simp),take_of_length_le (by simp)]
 ·exact pairwise_reverse.mpr (hv.imp fun h=>⟨h.2,h.1⟩)
 ·rw [pairwise_append] at hd ⊢
  exact⟨hd.1,pairwise_reverse.mpr (hv.imp fun h=>h.1),fun a ha b hb=>hd.2.2 a ha b (mem_reverse.mp hb)⟩
theorem Down.all {X:List Keyed}{n q:Nat}(D:Down R X n q):(X.take n).Pairwise (ge R):=by
 obtain⟨U,V,e,_,_,hd⟩:=D.ex
 rw [e];exact hd
end
section
variable {κ:SortKind}{R:Ord}{a₀:Array Keyed}{st:SortSt}
structure Seg (pre X post:List Keyed)(X':List Keyed)(st st':SortSt):Prop where
 rest:Rest st st'
 arr:(arrOf st').toList=pre++(X'++post)
 perm:X'.Perm X
theorem Seg.len {pre X post X':List Keyed}{st st':SortSt}(G:Seg pre X post X' st st'):X'.length=X.length:=G.perm.length_eq
theorem seg_lt {pre X post X':List Keyed}{st':SortSt}(hA:Asks prog w A s h κ R a₀)(hk:kindOf st=κ)(hm:∀x∈X,x∈a₀.toList)(G:Seg pre X post X' st st'){n:Nat}{x y:Keyed}(h1:1≤n)(hx:X'[n]?=some x)(hy:X'[n - 1]?=some y){Q':Option Bool→SortSt→Prop}(q':Q' (some (R.lt x y)) st') :
  T prog w A s h (ltAt' (pre.length+n) (pre.length+n - 1)) Q' st':=by
 have hi:=(List.getElem?_eq_some_iff.mp hx).1
 refine T_lt2 hA (G.rest.kind.trans hk) G.arr (fun x hx=>hm x (G.perm.mem_iff.mp hx)) (Nat.add_lt_add_left hi _) (Nat.le_add_right ..) (Nat.lt_of_le_of_lt (Nat.sub_le ..) (Nat.add_lt_add_left hi _)) (Nat.le_sub_one_of_lt (Nat.lt_add_of_pos_right h1)) fun x' y' hx' hy'=>?_
 rw [Nat.add_sub_cancel_left,hx] at hx';cases hx'
 rw [Nat.add_sub_assoc h1,Nat.add_sub_cancel_left,hy] at hy';cases hy'
 exact q'
theorem seg_ltR {pre X post X':List Keyed}{st':SortSt}(hA:Asks prog w A s h κ R a₀)(hk:kindOf st=κ)(hm:∀x∈X,x∈a₀.toList)(G:Seg pre X post X' st st'){n m:Nat}{x y:Keyed}(h1:1≤n)(hx:X'[m]?=some x)(hy:X'[n - 1]?=some y){Q':Option Bool→SortSt→Prop}(q':Q' (some (R.lt x y)) st') :
  T prog w A s h (ltAt' (pre.length+m) (pre.length+n - 1)) Q' st':=by
 have hi:=(List.getElem?_eq_some_iff.mp hx).1
 have hj:=(List.getElem?_eq_some_iff.mp hy).1
 refine T_lt2 hA (G.rest.kind.trans hk) G.arr (fun x hx=>hm x (G.perm.mem_iff.mp hx)) (Nat.add_lt_add_left hi _) (Nat.le_add_right ..) (by rw [Nat.add_sub_assoc h1];exact Nat.add_lt_add_left hj _) (Nat.le_sub_one_of_lt (Nat.lt_add_of_pos_right h1)) fun x' y' hx' hy'=>?_
 rw [Nat.add_sub_cancel_left,hx] at hx';cases hx'
 rw [Nat.add_sub_assoc h1,Nat.add_sub_cancel_left,hy] at hy';cases hy'
 exact q'
theorem seg_ltL {pre X post X':List Keyed}{st':SortSt}(hA:Asks prog w A s h κ R a₀)(hk:kindOf st=κ)(hm:∀x∈X,x∈a₀.toList)(G:Seg pre X post X' st st'){n:Nat}{x y:Keyed}(h1:1≤n)(hx:X'[n]?=some x)(hy:X'[n - 1]?=some y){Q':Option Bool→SortSt→Prop}(q':Q' (some (R.lt y x)) st') :
  T prog w A s h (ltAt' (pre.length+n - 1) (pre.length+n)) Q' st':=by
 have hi:=(List.getElem?_eq_some_iff.mp hx).1
 refine T_lt2 hA (G.rest.kind.trans hk) G.arr (fun x hx=>hm x (G.perm.mem_iff.mp hx)) (Nat.lt_of_le_of_lt (Nat.sub_le ..) (Nat.add_lt_add_left hi _)) (Nat.le_sub_one_of_lt (Nat.lt_add_of_pos_right h1)) (Nat.add_lt_add_left hi _) (Nat.le_add_right ..) fun y' x' hy' hx'=>?_
 rw [Nat.add_sub_cancel_left,hx] at hx';cases hx'
 rw [Nat.add_sub_assoc h1,Nat.add_sub_cancel_left,hy] at hy';cases hy'
 exact q'
theorem at_ex {X:List Keyed}{n:Nat}(h:n<X.length):∃x,X[n]?=some x:=⟨_,getElem?_eq_getElem h⟩
theorem up_one (X:List Keyed):(X.take 1).Pairwise (le R):=by
 cases X with
 | nil=>exact List.Pairwise.nil
 | cons a b=>exact pairwise_singleton ..
theorem T_asc {X:List Keyed}{n N:Nat}{f:Nat→Option (Option Nat)×Nat→StateT SortSt Sem (ForInStep (Option (Option Nat)×Nat))}{Q:Option (Option Nat)×Nat→SortSt→Prop}(hN:X.length=N)(g1:1≤n)(g2:n≤N)(g3:(X.take n).Pairwise (le R))
  (hf:∀u n x y (Q':ForInStep (Option (Option Nat)×Nat)→SortSt→Prop),1≤n→X[n]?=some x→X[n - 1]?=some y→(R.lt x y=true→Q' (.done (none,n)) st)→(¬R.lt x y=true→Q' (.yield (none,n+1)) st)→T prog w A s h (f u (none,n)) Q' st)
  (q:∀n',n≤n'→n'≤N→(X.take n').Pairwise (le R)→(n'<N→∃x y,X[n']?=some x∧X[n' - 1]?=some y∧R.lt x y=true)→Q (none,n') st):T prog w A s h (forIn [n:N] ((none,n):Option (Option Nat)×Nat) f) Q st:=by
 subst hN
 refine T.range2 (fun k c st''=>st''=st∧c=(none,n+k)∧n+k≤X.length∧(X.take (n+k)).Pairwise (le R)) ⟨rfl,rfl,g2,g3⟩ ?_ ?_
 ·rintro u k c st'' Q' hkn ⟨rfl,rfl,g4,g5⟩ done yield
  have h0:n+k<X.length:=lp [_,_,_,_] [(su zA,zB),(.add zB zC,zD)] (su (.add zC zA)) zD rfl hkn (sbB _ _ (lp [_,_,_] [(.add zA zB,zC)] zA zC rfl g4))
  have h1:1≤n+k:=nT g1 (Nat.le_add_right ..)
  obtain⟨x,hx⟩:=at_ex h0
  obtain⟨y,hy⟩:=at_ex (Nat.lt_of_le_of_lt (Nat.sub_le (n+k) 1) h0)
  exact hf u (n+k) x y Q' h1 hx hy (fun hlt=>done _ _ (q _ (Nat.le_add_right ..) g4 g5 fun _=>⟨x,y,hx,hy,hlt⟩)) fun hlt=>yield _ _ ⟨rfl,rfl,h0,up_snoc g5 hx h1 hy (Bool.eq_false_iff.mpr hlt)⟩
 ·rintro c st'' ⟨rfl,rfl,g4,g5⟩
  exact q _ (Nat.le_add_right ..) g4 g5 fun q=>absurd q (Nat.not_lt_of_le (lp [_,_,_] [(zA,.add zB zC)] zA (.add zC zB) rfl (sbA _ _)))
theorem Seg.tail {pre X post X':List Keyed}{st':SortSt}{n q:Nat}(G:Seg pre X post X' st st')(D:Down R X' n q)(hn:n≤X.length){Q':PUnit→SortSt→Prop}
  (k:∀X2 st2,Seg pre X post X2 st st2→(X2.take n).Pairwise (ge R)→(∀z,z∈X2.take n→z∈X'.take n)→X2[n]?=X'[n]?→Q' ⟨⟩ st2):T prog w A s h (reverseSlice' (pre.length+n - (q+1)) (pre.length+n)) Q' st':=by
 obtain⟨P,V,S,eX,lP,lV,lPV,D2⟩:=D.rev_tail (by rw [G.len];exact hn)
 have hqn:q+1≤n:=by rw [←lV,←lPV];exact Nat.le_add_left ..
 refine T_rev (P:=pre++P) (W:=V) (S:=S++post) (by rw [G.arr,eX];simp [append_assoc]) (by rw [length_append,lP,Nat.add_sub_assoc hqn]) (by rw [lV,Nat.sub_add_cancel (nT hqn (Nat.le_add_left ..))]) fun st3 R3 a3=>?_
 have e1:∀V':List Keyed,V'.length=V.length→(P++(V'++S)).take n=P++V':=fun V' hV=>by
  rw [←append_assoc,take_append_of_le_length (by rw [length_append,hV,lPV];exact Nat.le_refl _),take_of_length_le (by rw [length_append,hV,lPV];exact Nat.le_refl _)]
 refine k (P++(V.reverse++S)) st3 ⟨G.rest.trans R3,by rw [a3];simp [append_assoc],?_⟩ D2.all ?_ ?_
 ·refine List.Perm.trans ?_ G.perm
  rw [eX];exact List.Perm.append_left _ ((reverse_perm V).append_right _)
 ·intro z hz
  rw [e1 _ (length_reverse ..)] at hz
  rw [eX,e1 V rfl]
  simpa using hz
 ·rw [eX,←append_assoc,←append_assoc,getElem?_append_right (by rw [length_append,length_reverse,lPV];exact Nat.le_refl _),getElem?_append_right (by rw [length_append,lPV];exact Nat.le_refl _),length_append,length_append,length_reverse]
theorem Seg.whole {pre X post X':List Keyed}{st':SortSt}{n:Nat}(G:Seg pre X post X' st st')(D:(X'.take n).Pairwise (ge R))(hn:n≤X.length){Q':PUnit→SortSt→Prop}
  (k:∀X2 st2,Seg pre X post X2 st st2→X2.take n=(X'.take n).reverse→X2.drop n=X'.drop n→(X2.take n).Pairwise (le R)→Q' ⟨⟩ st2):T prog w A s h (reverseSlice' pre.length (pre.length+n)) Q' st':=by
 have hl:(X'.take n).length=n:=by rw [length_take,Nat.min_eq_left (by rw [G.len];exact hn)]
 refine T_rev (P:=pre) (W:=X'.take n) (S:=X'.drop n++post) (by rw [←append_assoc (X'.take n),take_append_drop];exact G.arr) rfl (by rw [hl]) fun st2 R2 a2=>?_
 have e1:((X'.take n).reverse++X'.drop n).take n=(X'.take n).reverse:=by
  rw [take_append_of_le_length (by rw [length_reverse,hl];exact Nat.le_refl _),take_of_length_le (by rw [length_reverse,hl];exact Nat.le_refl _)]
 refine k _ st2 ⟨G.rest.trans R2,by rw [a2,append_assoc],(((reverse_perm _).append_right _).trans (by rw [take_append_drop])).trans G.perm⟩ e1 ?_ ?_
 ·rw [drop_append_of_le_length (by rw [length_reverse,hl];exact Nat.le_refl _),List.drop_of_length_le (by rw [length_reverse,hl];exact Nat.le_refl _),nil_append]
 ·rw [e1];exact pairwise_reverse.mpr (D.imp fun h=>h)
theorem T_countRun {pre X post:List Keyed}{lo nrem:Nat}{Q:Option Nat→SortSt→Prop}(hA:Asks prog w A s h κ R a₀)(hk:kindOf st=κ)(harr:(arrOf st).toList=pre++(X++post))(hl:pre.length=lo)(hX:X.length=nrem)(h1:1≤nrem)(hm:∀x∈X,x∈a₀.toList)
  (q:∀n X' st',Seg pre X post X' st st'→1≤n→n≤nrem→(X'.take n).Pairwise (le R)→Q (some n) st'):T prog w A s h (countRun' lo nrem) Q st:=by
 subst hl hX
 have G0:Seg pre X post X st st:=⟨Rest.refl _,harr,List.Perm.refl _⟩
 apply share (fun code:Nat→StateT SortSt Sem (Option Nat)=>∀n X' st',Seg pre X post X' st st'→(X'.take n).Pairwise (ge R)→1≤n→n≤X.length→T prog w A s h (code n) Q st')
 ·intro JB
  apply share (fun code:Nat→StateT SortSt Sem (Option Nat)=>∀n X' st',Seg pre X post X' st st'→Down R X' (n+1) 0→n+1≤X.length→T prog w A s h (code n) Q st')
  ·intro JA
   refine T.bind (T_asc (R:=R) rfl (Nat.le_refl _) h1 (up_one X) (fun u n x y Q' g1 hx hy t f=>?_) fun n n1 n2 n3 n4=>?_)
   ·exact T.bind (seg_lt hA hk hm G0 g1 hx hy (T.ite (fun c=>T.pure (t c)) fun c=>T.pure (f c)))
   dsimp -zeta -zetaHave only
   refine T.ite (fun _=>T.pure (q n X _ G0 n1 n2 n3)) fun c1=>?_
   have c1':n<X.length:=nE n2 fun e=>c1 (beq_iff_eq.mpr e)
   obtain⟨xn,yn,hxn,hyn,hltn⟩:=n4 c1'
   refine T.ite (fun c2=>?_) fun c2=>?_
   rotate_left
   ·refine JA n X st G0 (Down.snoc_less' (x:=xn) ?_ hxn ?_) c1'
    ·rw [show n=1 by exact nA (Int.ofNat_le.1 ((cnL (nN c2)))) (Int.ofNat_le.1 (cnL n1))]
     cases X with
     | nil=>exact List.Pairwise.nil
     | cons a b=>exact pairwise_singleton ..
    ·intro z hz
     have:z=yn:=by
      rw [show n=1 by exact nA (Int.ofNat_le.1 ((cnL (nN c2)))) (Int.ofNat_le.1 (cnL n1))] at hz hyn
      cases X with
      | nil=>simp at hz
      | cons a b=>
       simp at hz hyn
       rw [hz,hyn]
     subst this;exact le_of_lt hltn
   ·obtain⟨x0,hx0⟩:=at_ex (X:=X) (n:=0) (lp [_,_] [(su zA,zB)] (.add (.num 0) (.num 1)) zB rfl c1')
    refine T.bind (seg_ltR hA hk hm G0 (m:=0) n1 hx0 hyn ?_)
    refine T.ite (fun _=>T.pure (q n X _ G0 n1 n2 n3)) fun hle=>?_
    have alike:∀z∈X.take n,le R yn z∧le R z yn:=fun z hz=>by
     have hz0:le R x0 z:=le_drop (l:=X.take n) n3 (i:=0) (by rw [getElem?_take,if_pos (Nat.lt_of_succ_le n1)];exact hx0) (by rw [drop_zero];exact hz)
     have hzn:le R z yn:=le_take (l:=X.take n) n3 (i:=n - 1) (by rw [getElem?_take,if_pos (by exact sbB _ _ (lp [_] [(.add (.num 1) (.num 1),zA)] (.num 1) zA rfl c2))];exact hyn) (by rw [Nat.sub_add_cancel n1,take_take,Nat.min_self];exact hz)
     exact⟨le_trans' (Bool.eq_false_iff.mpr hle) hz0,hzn⟩
    refine T.bind (G0.whole (n:=n) (R:=R) (List.Pairwise.imp_of_mem (fun {a b} ha hb _=>le_trans' (alike b hb).2 (alike a ha).1) n3) n2 fun X2 st2 G2 e1 e2 _=>?_)
    refine JA n X2 st2 G2 (Down.snoc_less' (x:=xn) ?_ ?_ ?_) c1'
    ·rw [e1];exact pairwise_reverse.mpr (n3.imp fun h=>h)
    ·have:=congrArg (fun l:List Keyed=>l[0]?) e2
     rw [getElem?_drop,getElem?_drop,Nat.add_zero] at this
     rw [this];exact hxn
    ·intro z hz
     rw [e1,mem_reverse] at hz
     exact le_trans' (le_of_lt hltn) (alike z hz).1
  intro n X1 st1 G1 D1 hn1
  refine T.bind (T.rule ?_)
  refine T.bindP (fun c st'=>∃X' n' q',c=(none,n',q')∧Seg pre X post X' st st'∧Down R X' n' q'∧n'≤X.length∧1≤n')
   (T.range2 (fun k c st'=>∃X' q',c=(none,n+1+k,q')∧Seg pre X post X' st st'∧Down R X' (n+1+k) q'∧n+1+k≤X.length) ⟨_,0,rfl,G1,D1,hn1⟩ ?_ ?_) ?_
  ·rintro u k c st' Q' hkn ⟨X',q',rfl,G,D,hle'⟩ done yield
   have h0:1≤n+1+k:=lp [_,_] [] (.num 1) (.add (su zA) zB) rfl
   have h2:n+1+k<X.length:=lp [_,_,_,_] [(su zA,zB),(.add zB (su zC),zD)] (.add (.add (su zC) zA) (.num 1)) zD rfl hkn (sbB _ _ (lp [_,_,_] [(.add (su zA) zB,zC)] (su zA) zC rfl hle'))
   replace yield:∀X2 q2 st2,Seg pre X post X2 st st2→Down R X2 (n+1+k+1) q2→Q' (.yield (none,n+1+k+1,q2)) st2:=fun X2 q2 st2 a b=>yield _ _ ⟨X2,q2,rfl,a,b,h2⟩
   clear hkn hle' G1 D1 hn1
   generalize n+1+k=m at *
   obtain⟨x,hx⟩:=at_ex (X:=X') (n:=m) (by rw [G.len];exact h2)
   obtain⟨y,hy⟩:=at_ex (X:=X') (n:=m - 1) (by rw [G.len];exact lp [_,_,_] [(su zA,zB),(su zC,zA)] (su zC) zB rfl h2 (sbB _ _ h0))
   refine T.bind (seg_lt hA hk hm G h0 hx hy (T.ite (fun hlt=>?_) fun hlt=>?_))
   ·have hall:∀z∈X'.take m,le R x z:=fun z hz=>le_trans' (le_of_lt hlt) (ge_last D.all h0 hy z hz)
    refine T.ite (fun hq=>T.bind (G.tail D (Nat.le_of_lt h2) fun X2 st2 G2 D2 ht ex=>?_)) fun hq=>?_
    ·exact T.pure (yield _ _ _ G2 (Down.snoc_less' (x:=x) D2 (ex.trans hx) fun z hz=>hall z (ht z hz)))
    ·exact T.pure (yield _ _ _ G (Down.snoc_less' (x:=x) D.all hx hall))
   ·refine T.bind (seg_ltL hA hk hm G h0 hx hy (T.ite (fun _=>?_) fun hlt2=>?_))
    ·exact T.pure (done _ _ ⟨X',_,_,rfl,G,D,Nat.le_of_lt h2,h0⟩)
    ·exact T.pure (yield _ _ _ G (D.snoc_same (by rw [G.len];exact Nat.le_of_lt h2) hx hy (Bool.eq_false_iff.mpr hlt2) (Bool.eq_false_iff.mpr hlt)))
  ·rintro c st' ⟨X',q',rfl,G,D,hle'⟩
   exact⟨X',_,q',rfl,G,D,lp [_,_,_] [(.add zA (su zB),zC)] (.add (su zB) zA) zC rfl (sbB _ _ (lp [_,_,_] [(.add (su zA) zB,zC)] (su zA) zC rfl hle')),lp [_,_] [] (.num 1) (.add (su zA) zB) rfl⟩
  rintro c st3 ⟨X3,n3,q3,rfl,G3,D3,b1,b2⟩
  refine T.ite (fun hq=>?_) fun hq=>?_
  rotate_left
  ·dsimp -zeta -zetaHave only
   exact JB n3 X3 st3 G3 D3.all b2 b1
  ·exact T.bind (G3.tail D3 b1 fun X2 st2 G2 D2 _ _=>JB n3 X2 st2 G2 D2 b2 b1)
 intro n X' st' G D b2 b1
 refine T.bind (G.whole D b1 fun X2 st2 G2 _ _ U2=>?_)
 refine T.bind (T_asc (R:=R) G2.len b2 b1 U2 (fun u n x y Q' g1 hx hy t f=>?_) fun m m1 m2 m3 _=>?_)
 ·exact T.bind (seg_lt hA hk hm G2 g1 hx hy (T.ite (fun c=>T.pure (t c)) fun c=>T.pure (f c)))
 ·exact T.pure (q m _ _ G2 (nT b2 m1) m2 m3)
end
end Mine
namespace Mine
section
variable {κ:SortKind}{R:Ord}{a₀:Array Keyed}{st:SortSt}
theorem T.listV {f:Nat→β→StateT SortSt Sem (ForInStep β)}{Q:β→SortSt→Prop}(I:Nat→β→SortSt→Prop):∀(len a:Nat)(b:β)(st:SortSt),I a b st→
  (∀k b st,a≤k→k<a+len→I k b st→T prog w A s h (f k b) (fun r st'=>match r with | .done b'=>Q b' st' | .yield b'=>I (k+1) b' st') st)→
   (∀b st,I (a+len) b st→Q b st)→T prog w A s h (forIn (List.range' a len) b f) Q st
 | 0,a,b,st,h0,_,he=>by rw [List.range'_zero,forIn_nil];exact T.pure (he b st h0)
 | len+1,a,b,st,h0,hs,he=>by
  rw [List.range'_succ,forIn_cons]
  refine T.bind ((hs a b st (Nat.le_refl _) (lp [_,_] [] (su zA) (.add zA (su zB)) rfl) h0).mono fun r st' hr=>?_)
  cases r with
  | done b'=>exact T.pure hr
  | yield b'=>
   exact T.listV I len (a+1) b' st' hr (fun k b st h1 h2=>hs k b st (by exact lp [_,_] [(su zA,zB)] zA zB rfl h1) (by exact lp [_,_,_] [(su zA,.add (su zB) zC)] (su zA) (.add zB (su zC)) rfl h2)) fun b st hb=>he b st (by rw [show a+(len+1)=a+1+len by exact nA (lp [_,_] [] (.add zA (su zB)) (.add (su zA) zB) rfl) (lp [_,_] [] (.add (su zA) zB) (.add zA (su zB)) rfl)];exact hb)
theorem T.rangeV {a b:Nat}{c:β}{f:Nat→β→StateT SortSt Sem (ForInStep β)}{Q:β→SortSt→Prop}{st:SortSt}(hab:a≤b)(I:Nat→β→SortSt→Prop)(h0:I a c st)
  (hs:∀k c st,a≤k→k<b→I k c st→T prog w A s h (f k c) (fun r st'=>match r with | .done c'=>Q c' st' | .yield c'=>I (k+1) c' st') st)(he:∀c st,I b c st→Q c st) :
  T prog w A s h (forIn [a:b] c f) Q st:=by
 rw [Std.Legacy.Range.forIn_eq_forIn_range']
 have hsz:([a:b]:Std.Legacy.Range).size=b - a:=by simp [Std.Legacy.Range.size]
 show T prog w A s h (forIn (List.range' a ([a:b]:Std.Legacy.Range).size 1) c f) Q st
 rw [hsz]
 exact T.listV I (b - a) a c st h0 (fun k c st h1 h2=>hs k c st h1 (by exact lp [_,_,_,_] [(su zA,.add zB zC),(.add zC zB,zD)] (su zA) zD rfl h2 (sbB _ _ hab))) fun c st hc=>he c st (by rw [show a+(b - a)=b by exact nA (lp [_,_,_] [(.add zA zB,zC)] (.add zB zA) zC rfl (sbB _ _ hab)) (lp [_,_,_] [(zA,.add zB zC)] zA (.add zC zB) rfl (sbA _ _))] at hc;exact hc)
theorem bub_seg0 {arr:Array Keyed}{A W S:List Keyed}{x:Keyed}(h:arr.toList=A++(W++(x::S))):(bubble arr (A.length+W.length) W.length).toList=A++(x::(W++S)):=by
 have hsz:A.length+W.length<arr.size:=by rw [←Array.length_toList,h,length_append,length_append];exact Nat.add_lt_add_left (Nat.lt_add_of_pos_right (Nat.succ_pos _)) _
 apply ext_getElem?
 intro k
 rw [Array.getElem?_toList,getElem?_bubble hsz _ (Nat.le_add_left ..) k,←Array.getElem?_toList,←Array.getElem?_toList,←Array.getElem?_toList,h,Nat.add_sub_cancel]
 by_cases h3:k<A.length
 ·rw [if_neg (Nat.ne_of_lt h3),if_neg fun e=>Nat.lt_asymm h3 e.1,getElem?_append_left h3,getElem?_append_left h3]
 obtain⟨j,rfl⟩:=Nat.exists_eq_add_of_le (nN h3)
 rw [at_r,at_r,at_r]
 cases j with
 | zero=>rw [Nat.add_zero,if_pos rfl];exact at_r W (x::S) 0
 | succ i=>
  rw [if_neg (Nat.ne_of_gt (Nat.lt_add_of_pos_right (Nat.succ_pos i))),getElem?_cons_succ]
  by_cases h2:i<W.length
  ·rw [if_pos ⟨Nat.lt_add_of_pos_right (Nat.succ_pos i),Nat.add_le_add_left h2 _⟩,getElem?_append_left h2]
   show (A++(W++(x::S)))[A.length+i]?=_
   rw [at_r,getElem?_append_left h2]
  ·rw [if_neg fun e=>h2 (Nat.le_of_add_le_add_left e.2)]
   obtain⟨t,rfl⟩:=Nat.exists_eq_add_of_le (nN h2)
   rw [at_r]
   exact at_r W (x::S) (t+1)
theorem bub_seg {arr:Array Keyed}{P U W S:List Keyed}{x:Keyed}{src d:Nat}(h:arr.toList=P++(U++(W++(x::S))))(hs:src=P.length+U.length+W.length)(hd:d=W.length):(bubble arr src d).toList=P++(U++(x::(W++S))):=by
 subst hs hd
 rw [←append_assoc] at h ⊢
 rw [←length_append]
 exact bub_seg0 h
theorem T_binarySort {pre X post:List Keyed}{lo n ok:Nat}{Q:Bool→SortSt→Prop}(hA:Asks prog w A s h κ R a₀)(hk:kindOf st=κ)(harr:(arrOf st).toList=pre++(X++post))(hl:pre.length=lo)(hX:X.length=n)(h1:1≤ok)(h2:ok≤n)(hm:∀x∈X,x∈a₀.toList)
  (hs:(X.take ok).Pairwise (le R))(q:∀X' st',Seg pre X post X' st st'→X'.Pairwise (le R)→Q true st'):T prog w A s h (binarySort' lo n ok) Q st:=by
 subst hl hX
 have hmax:max ok 1=ok:=nA ((eqL (Nat.max_eq_left h1))) (Nat.le_max_left _ _)
 refine T.bind (T.mono (Q:=fun c st'=>c=(none,())∧∃X',Seg pre X post X' st st'∧X'.Pairwise (le R)) (T.rangeV (nT (eqL (Nat.max_eq_left (nT (Nat.le_max_right _ _) (eqL hmax)))) h2) (fun k c st'=>c=(none,())∧∃X',Seg pre X post X' st st'∧(X'.take k).Pairwise (le R)) ?_ ?_ ?_) ?_)
 ·exact⟨rfl,X,⟨Rest.refl _,harr,List.Perm.refl _⟩,by rw [hmax];exact hs⟩
 ·rintro k c st1 hk1 hk2 ⟨rfl,X',G,hs'⟩
  rw [hmax] at hk1
  have hlen:=G.perm.length_eq
  dsimp only
  obtain⟨x,hx⟩:∃x,X'[k]?=some x:=⟨_,getElem?_eq_getElem (nT hk2 (eqR hlen))⟩
  refine T.bind (T.mono (Q:=fun c st'=>st'=st1∧∃l,c=(none,l,l)∧l≤k∧(∀z∈X'.take l,le R z x)∧(∀z∈(X'.take k).drop l,le R x z))
   (T.range (fun j c st'=>st'=st1∧∃l r,c=(none,l,r)∧l≤r∧r≤k∧(∀z∈X'.take l,le R z x)∧(∀z∈(X'.take k).drop r,le R x z)∧r - l≤k - j) ?_ ?_ ?_) ?_)
  ·exact⟨rfl,0,k,rfl,lp [_] [] (.num 0) zA rfl,lp [_] [] zA zA rfl,by simp,by rw [drop_eq_nil_of_le (by rw [length_take];exact Nat.min_le_left _ _)];simp,lp [_] [] zA zA rfl⟩
  ·rintro u j c st2 hj ⟨rfl,l,r,rfl,g1,g2,g3,g4,g5⟩
   dsimp only
   by_cases hlr:l≥r
   ·rw [if_pos hlr]
    obtain rfl:l=r:=nA g1 hlr
    exact T.pure ⟨rfl,l,rfl,g2,g3,g4⟩
   rw [if_neg hlr]
   refine T.bind (T_lt2 hA (G.rest.kind.trans hk) G.arr (fun x hx=>hm x (G.perm.mem_iff.mp hx)) (lp [_,_,_,_] [(su zA,zB),(zB,zC)] (su (.add zD zA)) (.add zD zC) rfl hk2 (eqR hlen)) (lp [_,_] [] zA (.add zA zB) rfl) (lq [_,_,_,_,_,_,_,_] [(2,su zA,zB),(2,zB,zC),(2,zD,zA),(1,.mulL 2 zE,.add zF zD),(1,.add zG zF,zD)] 2 (.add (.add (.var 7) zE) (.num 1)) (.add (.var 7) zC) rfl hk2 (eqR hlen) g2 (dvA _ 2) (sbB _ _ g1)) (lp [_,_] [] zA (.add zA zB) rfl) fun x' y hx' hy=>?_)
   rw [Nat.add_sub_cancel_left] at hx' hy
   rw [hx] at hx';cases hx'
   dsimp only
   have hyt:(X'.take k)[(l+r) / 2]?=some y:=by rw [getElem?_take,if_pos (by lia)];exact hy
   cases hlt:R.lt x y with
   | true=>
    rw [if_pos rfl]
    refine T.pure ⟨rfl,_,_,rfl,mid_ge g1,nT (Nat.le_of_lt (mid_lt hlr)) g2,g3,fun z hz=>le_trans' (le_of_lt hlt) (le_drop hs' hyt hz),half_l g5 (mid_ge g1) (mid_lt hlr)⟩
   | false=>
    rw [if_neg (by simp)]
    refine T.pure ⟨rfl,_,_,rfl,mid_lt hlr,g2,fun z hz=>le_trans' (le_take hs' hyt (by rw [take_take,Nat.min_eq_left (nT (mid_lt hlr) g2)];exact hz)) hlt,g4,half_r g5 (mid_ge g1)⟩
  ·rintro c st2 ⟨rfl,l,r,rfl,g1,g2,g3,g4,g5⟩
   obtain rfl:=none_left g1 g5
   exact⟨rfl,l,rfl,g2,g3,g4⟩
  rintro c st2 ⟨rfl,l,rfl,g2,g3,g4⟩
  dsimp only
  have eX:X'=X'.take l++((X'.take k).drop l++(x::X'.drop (k+1))):=by
   have e1:X'.take l++(X'.take k).drop l=X'.take k:=by
    have:X'.take l=(X'.take k).take l:=by rw [take_take,Nat.min_eq_left g2]
    rw [this,take_append_drop]
   have hkl:k<X'.length:=nT hk2 (eqR hlen)
   have e2:x::X'.drop (k+1)=X'.drop k:=by
    rw [drop_eq_getElem_cons hkl]
    rw [getElem?_eq_getElem hkl] at hx
    rw [Option.some.inj hx]
   rw [←append_assoc,e1,e2,take_append_drop]
  refine T.bind (T.modify ?_)
  have hb:=bub_seg (arr:=arrOf st2) (P:=pre) (U:=X'.take l) (W:=(X'.take k).drop l) (S:=X'.drop (k+1)++post) (x:=x) (src:=pre.length+k) (d:=pre.length+k - (pre.length+l)) (by
   rw [G.arr];conv=>lhs;rw [eX]
   simp [append_assoc]) (by rw [length_take,length_drop,length_take];exact nA (lp [_,_,_,_,_,_] [(zA,.add zB zC),(zC,zD),(zE,zA)] (.add zF zE) (.add (.add zF zD) zB) rfl (sbA _ _) (eqR (Nat.min_eq_left (lp [_,_,_,_] [(su zA,zB),(zB,zC),(zD,zA)] zD zC rfl hk2 (eqR hlen) g2))) (eqR (Nat.min_eq_left (lp [_,_,_] [(su zA,zB),(zB,zC)] zA zC rfl hk2 (eqR hlen))))) (lp [_,_,_,_,_,_] [(zA,zB),(zC,zD),(.add zE zB,zC)] (.add (.add zF zA) zE) (.add zF zD) rfl (Nat.min_le_left _ _) (Nat.min_le_left _ _) (sbB _ _ (nT g2 (eqR (Nat.min_eq_left (lp [_,_,_] [(su zA,zB),(zB,zC)] zA zC rfl hk2 (eqR hlen)))))))) (by rw [length_drop,length_take];exact nA (lp [min k (List.length X'),min k (List.length X') - l,l,k,List.length pre+k - (List.length pre+l),List.length pre] [(zA,.add zB zC),(zD,zA),(.add zE (.add zF zC),.add zF zD)] zE zB rfl (sbA (min k (List.length X')) l) (eqR (Nat.min_eq_left (lp [k,List.length X,List.length X'] [(su zA,zB),(zB,zC)] zA zC rfl hk2 (eqR hlen)))) (sbB (List.length pre+k) (List.length pre+l) (lp [l,k,List.length pre] [(zA,zB)] (.add zC zA) (.add zC zB) rfl g2))) (lp [List.length pre,k,List.length pre+k - (List.length pre+l),l,min k (List.length X'),min k (List.length X') - l] [(.add zA zB,.add zC (.add zA zD)),(zE,zB),(.add zF zD,zE)] zF zC rfl (sbA (List.length pre+k) (List.length pre+l)) (Nat.min_le_left _ _) (sbB (min k (List.length X')) l (lp [k,min k (List.length X'),List.length pre+k - (List.length pre+l),List.length pre,l] [(zA,zB),(.add zC (.add zD zE),.add zD zA)] zE zB rfl (eqR (Nat.min_eq_left (lp [k,List.length X,List.length X'] [(su zA,zB),(zB,zC)] zA zC rfl hk2 (eqR hlen)))) (sbB (List.length pre+k) (List.length pre+l) (lp [l,k,List.length pre] [(zA,zB)] (.add zC zA) (.add zC zB) rfl g2))))))
  refine T.pure ⟨rfl,X'.take l++(x::((X'.take k).drop l++X'.drop (k+1))),⟨⟨G.rest.kind,G.rest.pend,G.rest.failed⟩,?_,?_⟩,?_⟩
  ·show (bubble (arrOf st2) (pre.length+k) (pre.length+k - (pre.length+l))).toList=_
   rw [hb];simp [append_assoc]
  ·refine List.Perm.trans ?_ G.perm
   conv=>rhs;rw [eX]
   exact List.Perm.append_left _ perm_middle.symm
  ·have e:(X'.take l++(x::((X'.take k).drop l++X'.drop (k+1)))).take (k+1)=X'.take l++(x::(X'.take k).drop l):=by
    have:X'.take l++(x::((X'.take k).drop l++X'.drop (k+1)))=(X'.take l++(x::(X'.take k).drop l))++X'.drop (k+1):=by simp
    have hl2:(X'.take l++(x::(X'.take k).drop l)).length=k+1:=by
     rw [length_append,length_cons,length_take,length_drop,length_take];exact nA (lp [_,_,_,_,_] [(zA,zB),(zC,zD),(.add zE zB,zC)] (.add zA (su zE)) (su zD) rfl (Nat.min_le_left _ _) (Nat.min_le_left _ _) (sbB _ _ (nT g2 (eqR (Nat.min_eq_left (lp [_,_,_] [(su zA,zB),(zB,zC)] zA zC rfl hk2 (eqR hlen))))))) (lp [_,_,_,_,_] [(zA,.add zB zC),(zC,zD),(zE,zA)] (su zE) (.add zD (su zB)) rfl (sbA _ _) (eqR (Nat.min_eq_left (lp [_,_,_,_] [(su zA,zB),(zB,zC),(zD,zA)] zD zC rfl hk2 (eqR hlen) g2))) (eqR (Nat.min_eq_left (lp [_,_,_] [(su zA,zB),(zB,zC)] zA zC rfl hk2 (eqR hlen)))))
    rw [this,←hl2,take_left]
   rw [e]
   have e1:X'.take k=X'.take l++(X'.take k).drop l:=by
    have:X'.take l=(X'.take k).take l:=by rw [take_take,Nat.min_eq_left g2]
    rw [this,take_append_drop]
   have hs2:=hs'
   rw [e1,pairwise_append] at hs2
   rw [pairwise_append,pairwise_cons]
   refine⟨hs2.1,⟨g4,hs2.2.1⟩,fun a ha b hb=>?_⟩
   rcases mem_cons.mp hb with rfl|hb
   ·exact g3 a ha
   ·exact hs2.2.2 a ha b hb
 ·rintro c st1 ⟨rfl,X',G,hs'⟩
  refine⟨rfl,X',G,?_⟩
  rwa [take_of_length_le (by rw [G.perm.length_eq];exact lp [_] [] zA zA rfl)] at hs'
 ·rintro c st1 ⟨rfl,X',G,hs'⟩
  exact T.pure (q X' st1 G hs')
end
end Mine
namespace Mine
structure Stk (R:Ord)(p:Array (Nat×Nat×Nat))(segs:List (List Keyed)):Prop where
 size:p.size=segs.length
 at_:∀(i:Nat) (X:List Keyed),segs[i]?=some X→∃pw,p[i]?=some ((segs.take i).flatten.length,X.length,pw)
 pos:∀X∈segs,0<X.length
 sorted:∀X∈segs,X.Pairwise (le R)
structure Jn (κ:SortKind)(R:Ord)(a₀:Array Keyed)(segs:List (List Keyed))(rest:List Keyed)(st:SortSt):Prop where
 kind:kindOf st=κ
 failed:failedOf st=none
 arr:(arrOf st).toList=segs.flatten++rest
 perm:(arrOf st).toList.Perm a₀.toList
 stk:Stk R (pendingOf st) segs
theorem segs_split {segs:List (List Keyed)}{i:Nat}(h:i+1<segs.length):∃s1 X Y s2,segs=s1++(X::Y::s2)∧s1.length=i:=by
 refine⟨segs.take i,segs[i],segs[i+1],segs.drop (i+2),?_,by rw [length_take];exact nA (Nat.min_le_left _ _) ((eqR (Nat.min_eq_left (lp [_,_] [(.add (su zA) (.num 1),zB)] zA zB rfl h))))⟩
 rw [←drop_eq_getElem_cons h,←drop_eq_getElem_cons (by exact lp [_,_] [(.add (su zA) (.num 1),zB)] (su zA) zB rfl h),take_append_drop]
section
variable {κ:SortKind}{R:Ord}{a₀:Array Keyed}{st:SortSt}
theorem merge_stk {p:Array (Nat×Nat×Nat)}{s1 s2:List (List Keyed)}{X Y Z:List Keyed}{i pw:Nat}(S:Stk R p (s1++(X::Y::s2)))(hi:s1.length=i)(hz:Z.Perm (X++Y))(hs:Z.Pairwise (le R)) :
  Stk R ((p.setIfInBounds i (s1.flatten.length,X.length+Y.length,pw)).eraseIdxIfInBounds (i+1)) (s1++(Z::s2)):=by
 have hsz:p.size=s1.length+(s2.length+2):=by rw [S.size];simp
 have hzl:Z.length=X.length+Y.length:=by rw [hz.length_eq,length_append]
 have e:(p.setIfInBounds i (s1.flatten.length,X.length+Y.length,pw)).eraseIdxIfInBounds (i+1)=(p.setIfInBounds i (s1.flatten.length,X.length+Y.length,pw)).eraseIdx (i+1) (by rw [Array.size_setIfInBounds];exact lp [_,_,_,_] [(zA,zB),(.add zB (.add zC (.num 2)),zD)] (.add (su zA) (.num 1)) zD rfl (eqR hi) (eqR hsz)):=by
  unfold Array.eraseIdxIfInBounds
  rw [dif_pos (by rw [Array.size_setIfInBounds];exact lp [_,_,_,_] [(zA,zB),(.add zB (.add zC (.num 2)),zD)] (.add (su zA) (.num 1)) zD rfl (eqR hi) (eqR hsz))]
 rw [e]
 refine⟨?_,fun j W hW=>?_,fun W hW=>?_,fun W hW=>?_⟩
 ·rw [Array.size_eraseIdx,Array.size_setIfInBounds,hsz]
  simp only [length_append,length_cons];exact nA (lp [_,_,_] [(su zA,.add zB (.add zC (.num 2)))] zA (.add zB (su zC)) rfl (sbB _ _ (lp [_,_] [] (.num 1) (.add zA (.add zB (.num 2))) rfl))) (lp [_,_,_] [(.add zA (.add zB (.num 2)),su zC)] (.add zA (su zB)) zC rfl (sbA _ _))
 ·rw [Array.getElem?_eraseIdx]
  by_cases h1:j<i
  ·rw [if_pos (by exact lp [_,_] [(su zA,zB)] (su zA) (su zB) rfl h1),Array.getElem?_setIfInBounds_ne (by exact Nat.ne_of_gt h1)]
   rw [getElem?_append_left (nT h1 (eqR hi))] at hW
   obtain⟨pw',hp⟩:=S.at_ j W (by rw [getElem?_append_left (nT h1 (eqR hi))];exact hW)
   refine⟨pw',?_⟩
   rw [hp,take_append_of_le_length (by exact lp [_,_,_] [(zA,zB),(su zC,zA)] zC zB rfl (eqR hi) h1),take_append_of_le_length (by exact lp [_,_,_] [(zA,zB),(su zC,zA)] zC zB rfl (eqR hi) h1)]
  ·by_cases h2:j=i
   ·subst h2
    rw [if_pos (by exact lp [_] [] (su zA) (su zA) rfl),←hi,Array.getElem?_setIfInBounds_self_of_lt (by exact lp [_,_,_] [(.add zA (.add zB (.num 2)),zC)] (su zA) zC rfl (eqR hsz))]
    rw [getElem?_append_right (eqL hi),hi,Nat.sub_self] at hW
    cases hW
    refine⟨pw,?_⟩
    rw [take_left,hzl]
   ·rw [if_neg (by exact Nat.not_lt_of_le ((nE (nN h1) (Ne.symm h2)))),Array.getElem?_setIfInBounds_ne (by exact Nat.ne_of_lt (lp [_,_] [(zA,zB)] (su zA) (su zB) rfl (nN h1)))]
    rw [getElem?_append_right (nT (eqL hi) (nN h1))] at hW
    obtain⟨t,ht⟩:∃t,j - s1.length=t+1:=⟨j - s1.length - 1,nA (sbA _ _) ((Nat.le_total 1 (j - List.length s1)).elim (fun hq2=>(sbB _ _ hq2)) (fun hq2=>lp [_,_,_,_,_] [(zA,zB),(zC,.add zD zA),(su zB,zC),(zE,.num 0)] (su zE) zD rfl (eqL hi) (sbA _ _) (nE (nN h1) (Ne.symm h2)) (sbC _ _ hq2)))⟩
    rw [ht,getElem?_cons_succ] at hW
    obtain⟨pw',hp⟩:=S.at_ (j+1) W (by
     rw [getElem?_append_right (by exact lp [_,_,_] [(.add zA zB,zC)] zB (su zC) rfl (sbB _ _ (nT (eqL hi) (nN h1)))),show j+1 - s1.length=t+1+1 by exact nA (lp [_,_,_,_,_] [(zA,su zB),(zC,.add zA zD),(.add zE zD,su zC)] zE (.add (su zB) (.num 1)) rfl (eqL ht) (sbA _ _) (sbB _ _ (lp [_,_,_] [(zA,zB),(zB,zC)] zA (su zC) rfl (eqL hi) (nN h1)))) (lp [_,_,_,_,_] [(su zA,zB),(su zC,.add zD zE),(.add zB zE,zC)] (.add (su zA) (.num 1)) zD rfl (eqR ht) (sbA _ _) (sbB _ _ (nT (eqL hi) (nN h1)))),getElem?_cons_succ,getElem?_cons_succ];exact hW)
    refine⟨pw',?_⟩
    rw [hp]
    congr 2
    have hA:(s1++(X::Y::s2)).take (j+1)=s1++(X::Y::s2.take t):=by
     rw [take_append,take_of_length_le (l:=s1) (by exact lp [_,_,_] [(.add zA zB,zC)] zB (su zC) rfl (sbB _ _ (nT (eqL hi) (nN h1)))),show j+1 - s1.length=t+1+1 by exact nA (lp [_,_,_,_,_] [(zA,su zB),(zC,.add zA zD),(.add zE zD,su zC)] zE (.add (su zB) (.num 1)) rfl (eqL ht) (sbA _ _) (sbB _ _ (lp [_,_,_] [(zA,zB),(zB,zC)] zA (su zC) rfl (eqL hi) (nN h1)))) (lp [_,_,_,_,_] [(su zA,zB),(su zC,.add zD zE),(.add zB zE,zC)] (.add (su zA) (.num 1)) zD rfl (eqR ht) (sbA _ _) (sbB _ _ (nT (eqL hi) (nN h1))))];rfl
    have hB:(s1++(Z::s2)).take j=s1++(Z::s2.take t):=by
     rw [take_append,take_of_length_le (l:=s1) (by exact lp [_,_,_] [(.add zA zB,zC)] zB zC rfl (sbB _ _ (nT (eqL hi) (nN h1)))),ht];rfl
    rw [hA,hB]
    simp only [flatten_append,flatten_cons,length_append,hzl];exact nA (lp [_,_,_,_] [] (.add zA (.add zB (.add zC zD))) (.add zA (.add (.add zB zC) zD)) rfl) (lp [_,_,_,_] [] (.add zA (.add (.add zB zC) zD)) (.add zA (.add zB (.add zC zD))) rfl)
 ·rw [mem_append,mem_cons] at hW
  rcases hW with hW|rfl|hW
  ·exact S.pos W (by simp [hW])
  ·have:=S.pos X (by simp);exact lp [_,_,_] [(.add zA zB,zC),(.add (.num 0) (.num 1),zA)] (.add (.num 0) (.num 1)) zC rfl (eqR hzl) this
  ·exact S.pos W (by simp [hW])
 ·rw [mem_append,mem_cons] at hW
  rcases hW with hW|rfl|hW
  ·exact S.sorted W (by simp [hW])
  ·exact hs
  ·exact S.sorted W (by simp [hW])
theorem T_mergeStack {segs:List (List Keyed)}{rest:List Keyed}{i:Nat}{Q:Bool→SortSt→Prop}(hA:Asks prog w A s h κ R a₀)(J:Jn κ R a₀ segs rest st)(hi:i+1<segs.length)
  (q:∀segs' st',Jn κ R a₀ segs' rest st'→segs'.length+1=segs.length→segs'.flatten.length=segs.flatten.length→Q true st'):T prog w A s h (mergeAtS i) Q st:=by
 obtain⟨s1,X,Y,s2,rfl,hl⟩:=segs_split hi
 obtain⟨pw,hp1⟩:=J.stk.at_ i X (by rw [getElem?_append_right (eqL hl),hl,Nat.sub_self];rfl)
 obtain⟨pw2,hp2⟩:=J.stk.at_ (i+1) Y (by rw [getElem?_append_right (by exact lp [_,_] [(zA,zB)] zA (su zB) rfl (eqL hl)),show i+1 - s1.length=1 by exact nA (lp [_,_,_] [(zA,zB),(.add zC zB,su zA)] zC (.num 1) rfl (eqR hl) (sbB _ _ (lp [_,_] [(zA,zB)] zA (su zB) rfl (eqL hl)))) (lp [_,_,_] [(zA,zB),(su zB,.add zC zA)] (.num 1) zC rfl (eqL hl) (sbA _ _))];rfl)
 have e1:((s1++(X::Y::s2)).take i).flatten.length=s1.flatten.length:=by rw [←hl,take_left]
 have e2:((s1++(X::Y::s2)).take (i+1)).flatten.length=s1.flatten.length+X.length:=by
  rw [take_append,take_of_length_le (by exact lp [_,_] [(zA,zB)] zA (su zB) rfl (eqL hl)),show i+1 - s1.length=1 by exact nA (lp [_,_,_] [(zA,zB),(.add zC zB,su zA)] zC (.num 1) rfl (eqR hl) (sbB _ _ (lp [_,_] [(zA,zB)] zA (su zB) rfl (eqL hl)))) (lp [_,_,_] [(zA,zB),(su zB,.add zC zA)] (.num 1) zC rfl (eqL hl) (sbA _ _))]
  simp
 rw [e1] at hp1
 rw [e2] at hp2
 have harr:(arrOf st).toList=s1.flatten++(X++(Y++(s2.flatten++rest))):=by rw [J.arr];simp [append_assoc]
 refine T_mergeAt hA J.kind J.failed hp1 hp2 harr rfl rfl rfl rfl (J.stk.pos X (by simp)) (J.stk.pos Y (by simp)) (J.stk.sorted X (by simp)) (J.stk.sorted Y (by simp)) (fun x hx=>J.perm.mem_iff.mp hx) fun Z st' hz hs ha hk hf hp=>?_
 refine q (s1++(Z::s2)) st' ⟨hk,hf,by rw [ha];simp [append_assoc],?_,?_⟩ (by simp only [length_append,length_cons];exact nA (lp [_,_] [] (.add (.add zA (su zB)) (.num 1)) (.add zA (.add (su zB) (.num 1))) rfl) (lp [_,_] [] (.add zA (.add (su zB) (.num 1))) (.add (.add zA (su zB)) (.num 1)) rfl)) (by simp [hz.length_eq];exact nA (lp [_,_,_] [] (.add (.add zA zB) zC) (.add zA (.add zB zC)) rfl) (lp [_,_,_] [] (.add zA (.add zB zC)) (.add (.add zA zB) zC) rfl))
 ·rw [ha]
  refine List.Perm.trans ?_ J.perm
  rw [harr]
  refine List.Perm.append_left _ ?_
  rw [←append_assoc X]
  exact hz.append_right _
 ·rw [hp];exact merge_stk J.stk hl hz hs
theorem Jn.setp {segs:List (List Keyed)}{rest:List Keyed}(J:Jn κ R a₀ segs rest st){p:Array (Nat×Nat×Nat)}(hp:Stk R p segs):Jn κ R a₀ segs rest (PyProof.Rows.SortSt.mk' (kindOf st) (arrOf st) p (gallopOf st) (failedOf st)):=
 ⟨J.kind,J.failed,J.arr,J.perm,hp⟩
theorem Stk.modify {p:Array (Nat×Nat×Nat)}{segs:List (List Keyed)}(S:Stk R p segs)(j pw:Nat):Stk R (p.modify j fun (x:Nat×Nat×Nat)=>(x.1,x.2.1,pw)) segs:=by
 refine⟨by rw [Array.size_modify];exact S.size,fun i X hX=>?_,S.pos,S.sorted⟩
 obtain⟨pw',hp⟩:=S.at_ i X hX
 rw [Array.getElem?_modify,hp]
 by_cases h:j=i
 ·rw [if_pos h];exact⟨pw,rfl⟩
 ·rw [if_neg h];exact⟨pw',rfl⟩
theorem Stk.push {p:Array (Nat×Nat×Nat)}{segs:List (List Keyed)}(S:Stk R p segs){X:List Keyed}(h0:0<X.length)(hs:X.Pairwise (le R))(pw:Nat):Stk R (p.push (segs.flatten.length,X.length,pw)) (segs++[X]):=by
 refine⟨by rw [Array.size_push,S.size];simp,fun i Y hY=>?_,fun Y hY=>?_,fun Y hY=>?_⟩
 ·by_cases h:i<segs.length
  ·rw [getElem?_append_left h] at hY
   obtain⟨pw',hp⟩:=S.at_ i Y hY
   refine⟨pw',?_⟩
   rw [Array.getElem?_push,if_neg (by rw [S.size];exact Nat.ne_of_lt h),hp,take_append_of_le_length (by exact lp [_,_] [(su zA,zB)] zA zB rfl h)]
  ·have hi:i=segs.length:=by
    have:=(List.getElem?_eq_some_iff.mp hY).1
    simp at this;exact nA (lp [_,_] [(su zA,su zB)] zA zB rfl this) (nN h)
   subst hi
   rw [getElem?_append_right (Nat.le_refl _),Nat.sub_self] at hY
   cases hY
   refine⟨pw,?_⟩
   rw [Array.getElem?_push,if_pos S.size.symm,take_left]
 ·rw [mem_append,mem_singleton] at hY
  rcases hY with h|rfl
  ·exact S.pos Y h
  ·exact h0
 ·rw [mem_append,mem_singleton] at hY
  rcases hY with h|rfl
  ·exact S.sorted Y h
  ·exact hs
theorem segs_le:∀(segs:List (List Keyed)),(∀X∈segs,0<X.length)→segs.length≤segs.flatten.length
 | [],_=>Nat.le_refl _
 | X::r,h=>by
  have h1:=h X mem_cons_self
  have h2:=segs_le r fun Y hY=>h Y (mem_cons_of_mem _ hY)
  rw [flatten_cons,length_append,length_cons];exact lp [_,_,_] [(.add (.num 0) (.num 1),zA),(zB,zC)] (su zB) (.add zA zC) rfl h1 h2
theorem minRun_pos:∀(fuel n r:Nat),1≤n+r→1≤minRun' fuel n r:=by
 intro fuel
 induction fuel with
 | zero=>intro n r h;exact h
 | succ f ih=>
  intro n r h
  rw [minRun'_succ]
  split
  ·exact h
  ·exact ih _ _ (by exact lq [_,_,_,_] [(1,.num 64,zA),(1,su zB,.num 2),(1,zA,.add (.mulL 2 zC) zB)] 2 (.num 1) (.add zC zD) rfl (nN (by assumption)) (mdA _ 1) (mdC _ 2))
theorem Jn.size {segs:List (List Keyed)}{rest:List Keyed}(J:Jn κ R a₀ segs rest st):segs.flatten.length+rest.length=a₀.size:=by
 have h1:=J.perm.length_eq
 rw [J.arr,length_append,Array.length_toList] at h1
 exact h1
theorem Jn.rest {segs:List (List Keyed)}{rest Z:List Keyed}{st3:SortSt}(J:Jn κ R a₀ segs rest st)(R3:Rest st st3)(a3:(arrOf st3).toList=segs.flatten++Z)(p3:Z.Perm rest):Jn κ R a₀ segs Z st3:=
 ⟨R3.kind.trans J.kind,R3.failed.trans J.failed,a3,by rw [a3];exact (List.Perm.append_left _ p3).trans (by rw [←J.arr];exact J.perm),by rw [R3.pend];exact J.stk⟩
theorem flat_snoc (segs:List (List Keyed))(Y:List Keyed):(segs++[Y]).flatten.length=segs.flatten.length+Y.length:=by
 rw [flatten_append,length_append];simp
theorem Jn.grow {segs:List (List Keyed)}{Y rest:List Keyed}(J:Jn κ R a₀ segs (Y++rest) st)(h0:0<Y.length)(hs:Y.Pairwise (le R)):Jn κ R a₀ (segs++[Y]) rest (PyProof.Rows.SortSt.mk' (kindOf st) (arrOf st) ((pendingOf st).push (segs.flatten.length,Y.length,0)) (gallopOf st) (failedOf st)):=
 ⟨J.kind,J.failed,J.arr.trans (by simp [append_assoc]),J.perm,J.stk.push h0 hs 0⟩
structure RunI (κ:SortKind)(R:Ord)(a₀:Array Keyed)(k lo:Nat)(segs:List (List Keyed))(rest:List Keyed)(st:SortSt):Prop where
 jn:Jn κ R a₀ segs rest st
 at_:segs.flatten.length=lo
 far:k≤lo
inductive RunP (κ:SortKind)(R:Ord)(a₀:Array Keyed)(k:Nat):Option Unit×Nat→SortSt→Prop
 | mk (lo:Nat) (segs:List (List Keyed)) (rest:List Keyed) (st:SortSt):RunI κ R a₀ k lo segs rest st→RunP κ R a₀ k (none,lo) st
inductive RunE (κ:SortKind)(R:Ord)(a₀:Array Keyed){γ:Type}(P:List (List Keyed)→Prop)(rest:List Keyed):Option Unit×γ→SortSt→Prop
 | mk (lo:γ) (segs:List (List Keyed)) (st:SortSt):Jn κ R a₀ segs rest st→P segs→RunE κ R a₀ P rest (none,lo) st
theorem T_sortRuns {Q:Unit→SortSt→Prop}(hA:Asks prog w A s h κ R a₀)(hk:kindOf st=κ)(hf:failedOf st=none)(ha:arrOf st=a₀)(hp:pendingOf st=#[])
  (q:∀st':SortSt,PyProof.Rows.kindOf st'=κ→failedOf st'=none→(arrOf st').toList.Perm a₀.toList→(arrOf st').toList.Pairwise (le R)→Q () st'):T prog w A s h sortRuns' Q st:=by
 have J0:Jn κ R a₀ [] a₀.toList st:=⟨hk,hf,by rw [ha];rfl,by rw [ha],⟨by rw [hp];rfl,fun i X hX=>by simp at hX,fun X hX=>(nomatch hX),fun X hX=>(nomatch hX)⟩⟩
 refine T.bind (T.get ?_)
 have hsize:(arrOf st).size=a₀.size:=by rw [ha]
 dsimp -zeta -zetaHave only
 have hmr0:1≤(arrOf st).size→1≤(sortPriv% PySem.Builtin.minRun:Nat→Nat→Nat→Nat) (arrOf st).size (arrOf st).size 0:=fun h=>minRun_pos _ _ _ (lp [_] [(.num 1,zA)] (.num 1) (.add zA (.num 0)) rfl h)
 generalize (arrOf st).size=N at hsize hmr0 ⊢
 clear hk hf ha hp
 refine T.bindP (RunE κ R a₀ (fun _=>True) []) (T.range2 (RunP κ R a₀) (.mk _ _ _ _ ⟨J0,rfl,Nat.le_refl _⟩) ?_ ?_) ?_
 ·generalize (sortPriv% PySem.Builtin.minRun:Nat→Nat→Nat→Nat) N N 0=mr at hmr0 ⊢
  apply share (fun code:Nat→Nat→StateT SortSt Sem (ForInStep (Option Unit×Nat))=>∀lo n st3 segs Y rest2 (Q':ForInStep (Option Unit×Nat)→SortSt→Prop),Jn κ R a₀ segs (Y++rest2) st3→segs.flatten.length=lo→Y.length=n→0<n→Y.Pairwise (le R)→
   (∀segs' st',Jn κ R a₀ segs' rest2 st'→segs'.flatten.length=lo+n→Q' (.yield (none,lo+n)) st')→T prog w A s h (code lo n) Q' st3)
  ·intro JA u k c st1 Q' hk1 H done yield
   cases H with|mk lo segs rest _ H
   obtain⟨J,hlo,hkl⟩:=H
   have hs1:=J.size
   rw [hlo] at hs1
   dsimp -zeta -zetaHave only
   refine T.ite (fun c1=>?_) fun c1=>?_
   ·obtain rfl:rest=[]:=length_eq_zero_iff.mp (nA (lp [_,_,_,_] [(zA,zB),(.add zC zD,zA),(zB,zC)] zD (.num 0) rfl (eqR hsize) (eqL hs1) c1) (lp [_] [] (.num 0) zA rfl))
    exact T.pure (done _ _ (.mk _ segs _ J trivial))
   refine T.bind (T_countRun (nrem:=N - lo) hA J.kind (by rw [J.arr,append_nil]) hlo (nA (lp [_,_,_,_,_] [(zA,zB),(.add zC zD,zA),(zB,.add zE zC)] zD zE rfl (eqR hsize) (eqL hs1) (sbA _ _)) (lp [_,_,_,_,_] [(zA,zB),(zB,.add zC zD),(.add zE zC,zA)] zE zD rfl (eqL hsize) (eqR hs1) (sbB _ _ (lp [_,_,_,_] [(zA,zB),(.add zC zD,zA)] zC zB rfl (eqR hsize) (eqL hs1))))) (by lia) (fun x hx=>J.perm.mem_iff.mp (by rw [J.arr];simp [hx])) fun n X' st2 G n1 n2 n3=>?_)
   have hX'l:=G.perm.length_eq
   replace yield:∀m rest2 segs' st',m≥1→Jn κ R a₀ segs' rest2 st'→segs'.flatten.length=lo+m→Q' (.yield (none,lo+m)) st':=fun m rest2 segs' st' h1 h2 h3=>yield _ _ (.mk _ segs' _ _ ⟨h2,h3,lp [_,_,_] [(zA,zB),(.num 1,zC)] (su zA) (.add zB zC) rfl hkl h1⟩)
   refine T.ite (fun c2=>?_) fun c2=>?_
   rotate_left
   ·dsimp -zeta -zetaHave only
    exact JA lo n st2 segs (X'.take n) (X'.drop n) Q' (J.rest G.rest (by rw [G.arr,append_nil,take_append_drop]) (by rw [take_append_drop];exact G.perm)) hlo (by rw [length_take];lia) n1 n3 (yield n _ · · n1)
   ·refine T.bind (T.rule ?_)
    have f1:n≤min (N - lo) mr:=by lia
    have f2:min (N - lo) mr≤X'.length:=by exact lp [_,_,_,_,_,_,_] [(zA,zB),(zB,.add zC zD),(zD,zE),(zF,zG),(.add zG zC,zA)] zF zE rfl (eqL hsize) (eqR hs1) (eqR hX'l) (Nat.min_le_left _ _) (sbB _ _ (lp [_,_,_,_] [(zA,zB),(.add zC zD,zA)] zC zB rfl (eqR hsize) (eqL hs1)))
    dsimp -zeta -zetaHave only
    generalize min (N - lo) mr=m at f1 f2 ⊢
    have hfl:(X'.take m).length=m:=by rw [length_take,Nat.min_eq_left f2]
    refine T.bind (T_binarySort (pre:=segs.flatten) (X:=X'.take m) (post:=X'.drop m)
     hA (G.rest.kind.trans J.kind) (by rw [G.arr,append_nil,take_append_drop]) hlo hfl n1 f1 (fun x hx=>J.perm.mem_iff.mp (by rw [J.arr,mem_append];exact .inr (G.perm.mem_iff.mp (mem_of_mem_take hx)))) (by rw [take_take,Nat.min_eq_left f1];exact n3) fun Y st3 G3 hYs=>?_)
    refine T.ite (fun c=>absurd c (by simp)) fun _=>?_
    exact JA lo m st3 segs Y (X'.drop m) Q' (J.rest (G.rest.trans G3.rest) G3.arr ((G3.perm.append_right _).trans (by rw [take_append_drop];exact G.perm))) hlo (G3.perm.length_eq.trans hfl) (nT n1 f1) hYs (yield m _ · · (nT n1 f1))
  intro lo n st3 segs Y rest2 Q' J hlo hY h0 hYs fin
  subst hlo hY
  refine T.bind (T.get ?_)
  cases hback:(pendingOf st3).back? with
  | none=>
   dsimp -zeta -zetaHave only
   exact T.bind (T.modify (T.pure (fin _ _ (J.grow h0 hYs) (flat_snoc _ _))))
  | some top=>
   obtain⟨s1,n1,w1⟩:=top
   dsimp -zeta -zetaHave only
   refine T.bindP (RunE κ R a₀ (fun segs'=>segs'.flatten.length=segs.flatten.length) (Y++rest2)) (T.range2 (fun _=>RunE κ R a₀ (fun segs'=>segs'.flatten.length=segs.flatten.length) (Y++rest2)) (.mk _ _ _ J rfl) ?_ fun c st' H=>H) fun c st5 H=>?_
   ·intro u k c st5 Q2 hk5 H done yield
    cases H with|mk _ segs' _ J5 hfl
    refine T.bind (T.get ?_)
    dsimp only
    have hss:=J5.stk.size
    by_cases hgt:(pendingOf st5).size>1
    ·rw [if_pos hgt]
     obtain⟨X5,hX5⟩:∃X,segs'[(pendingOf st5).size - 2]?=some X:=⟨_,getElem?_eq_getElem (lp [_,_,_] [(zA,zB),(.add zC (.num 2),zA)] (su zC) zB rfl (eqL hss) (sbB _ _ (lp [_] [(.add (.num 1) (.num 1),zA)] (.num 2) zA rfl hgt)))⟩
     obtain⟨pw5,hp5⟩:=J5.stk.at_ _ _ hX5
     rw [hp5]
     refine T.ite (fun _=>T.pure (done _ _ (.mk _ segs' _ J5 hfl))) fun _=>?_
     refine T.bind (T_mergeStack hA J5 (show (pendingOf st5).size - 2+1<segs'.length by exact lp [_,_,_] [(zA,zB),(.add zC (.num 2),zA)] (.add (su zC) (.num 1)) zB rfl (eqL hss) (sbB _ _ (lp [_] [(.add (.num 1) (.num 1),zA)] (.num 2) zA rfl hgt))) fun segs6 st6 J6 _ hf6=>?_)
     exact T.pure (yield _ _ (.mk _ segs6 _ J6 (hf6.trans hfl)))
    ·rw [if_neg hgt]
     exact T.pure (done _ _ (.mk _ segs' _ J5 hfl))
   cases H with|mk _ segs' _ J5 hfl
   refine T.bind (T.modify ?_)
   have J4:=J5.setp (J5.stk.modify ((pendingOf st5).size - 1) ((sortPriv% PySem.Builtin.power:Nat→Nat→Nat→Nat→Nat) N (2*s1+n1) (2*s1+n1+n1+Y.length) N))
   have J6:=J4.grow h0 hYs
   rw [hfl] at J6
   exact T.bind (T.modify (T.pure (fin _ _ J6 (by rw [flat_snoc,hfl]))))
 ·intro c st1 H
  cases H with|mk lo segs rest _ H
  have hs1:=H.jn.size
  have h2:N - 0≤lo:=H.far
  have h3:=H.at_
  obtain rfl:rest=[]:=length_eq_zero_iff.mp (nA (lp [_,_,_,_,_,_] [(zA,zB),(.add zC zD,zA),(zE,zF),(zF,zC),(zB,.add zE (.num 0))] zD (.num 0) rfl (eqR hsize) (eqL hs1) h2 (eqR h3) (sbA _ _)) (lp [_] [] (.num 0) zA rfl))
  exact .mk _ segs _ H.jn trivial
 intro c st1 H
 cases H with|mk lo segs _ J _
 refine T.bindP (RunE κ R a₀ (fun segs=>segs.length≤1) [])
  (T.range2 (fun k=>RunE κ R a₀ (fun segs=>segs.length≤1∨segs.length+k≤a₀.size) []) (.mk _ segs _ J (.inr ?_)) ?_ ?_) ?_
 ·have h1:=segs_le segs J.stk.pos
  have h2:=J.size
  rw [length_nil] at h2;exact lp [_,_,_] [(zA,zB),(.add zB (.num 0),zC)] (.add zA (.num 0)) zC rfl h1 (eqL h2)
 ·intro u k c st2 Q' hk1 H done yield
  cases H with|mk _ segs _ J hkl
  refine T.bind (T.get ?_)
  have hseg:=J.stk.size
  refine T.ite (fun c1=>T.pure (done _ _ (.mk _ segs _ J (by rw [←hseg];exact c1)))) fun c1=>?_
  have hge:2≤segs.length:=by rw [←hseg];exact Nat.lt_of_not_le c1
  refine T.bind (T_mergeStack hA J (by rw [hseg];(repeat' split) <;> (first|exact lp [_,_] [(.add zA (.num 2),zB)] (.add (su zA) (.num 1)) zB rfl (sbB _ _ hge)|exact lp [_,_,_] [(zA,zB),(.add zB (.num 2),zC)] (.add (su zA) (.num 1)) zC rfl (Nat.sub_le _ _) (sbB _ _ hge)|exact lp [_,_,_] [(su zA,zB),(.add zB (.num 2),zC)] (.add (su zA) (.num 1)) zC rfl (sbB _ _ (lp [_] [(.add (.num 0) (.num 1),zA)] (.num 1) zA rfl (by assumption))) (sbB _ _ hge))) fun segs' st3 J' hl _=>?_)
  exact T.pure (yield _ _ (.mk _ segs' _ J' (hkl.elim (fun hr=>Or.inl (lp [_,_] [(su zA,zB),(zB,.num 1)] zA (.num 1) rfl (eqL hl) hr)) (fun hr=>Or.inr (lp [_,_,_,_] [(su zA,zB),(.add zB zC,zD)] (.add zA (su zC)) zD rfl (eqL hl) hr)))))
 ·intro c st2 H
  cases H with|mk _ segs _ J hkl
  refine .mk _ segs _ J ?_
  rcases hkl with h|h
  ·exact h
  ·have h':segs.length+(N - 0)≤a₀.size:=h
   exact lp [_,_,_,_] [(zA,zB),(.add zC zD,zA),(zB,.add zD (.num 0))] zC (.num 1) rfl (eqR hsize) h' (sbA _ _)
 intro c st2 H
 cases H with|mk _ segs _ J hl
 refine T.pure (q st2 J.kind J.failed J.perm ?_)
 rw [J.arr,append_nil]
 match segs,hl,J with
 | [],_,_=>exact List.Pairwise.nil
 | [X],_,J=>rw [flatten_cons,List.flatten_nil,append_nil];exact J.stk.sorted X (by simp)
 | _::_::_,hl,_=>simp at hl
end
end Mine
namespace Mine
theorem entry_lt_loop:entryFor table "list.__eq__.loop" = some Builtin.«list.__eq__.loop»:=entryFor_of_tree (by kernel_rfl)
theorem plain_lt_loop:plainId "list.__eq__.loop" = true:=by decide +kernel
section
variable {R:Result→Shared→Prop}
theorem lt_loop {a b:Addr}{vs ws:List Value}{n m:Nat}{xs ys:List Int}(ha:h.get? a=some (lo vs.toArray n))(hb:h.get? b=some (lo ws.toArray m))(hx:IntsAre vs xs)(hy:IntsAre ws ys) :
  ∀(k i:Nat),k=xs.length - i→i≤xs.length→i≤ys.length→∀tk,(∀tk',R (.ok (.ret (.bool (decide (xs.drop i<ys.drop i))))) (sh s h tk'))→codeAny (model prog w) A (.builtin "list.__eq__.loop" ⟨[.ref a,.ref b,rawInt i,rawInt 0],[]⟩) R (sh s h tk):=by
 intro k
 induction k with
 | zero=>
  intro i hk hi hj tk c
  have hix:i=xs.length:=nA (lp [_,_,_] [(.add zA zB,zC)] zB zC rfl (sbB _ _ hi)) (lp [_,_,_] [(zA,.num 0),(zB,.add zA zC)] zB zC rfl (eqR hk) (sbA _ _))
  refine codeAny_builtin entry_lt_loop ?_
  rw [Around.under_plainId plain_lt_loop]
  unfold Builtin.«list.__eq__.loop»
  dsimp only
  refine wpAny_bind (listItems_at (s:=sh s h tk) ha rfl ?_)
  refine wpAny_bind (listItems_at (s:=sh s h tk) hb rfl ?_)
  have h1:vs.toArray[((i:Nat):Int).toNat]?=none:=by
   rw [Int.toNat_natCast,getElem?_toArray,List.getElem?_eq_none_iff,hx.length];exact eqR hix
  rw [h1]
  dsimp only
  refine wpAny_bind (listItems_at (s:=sh s h tk) ha rfl ?_)
  refine wpAny_bind (listItems_at (s:=sh s h tk) hb rfl ?_)
  refine wpAny_pure ?_
  show R (.ok (.ret (.bool (decide (vs.toArray.size<ws.toArray.size))))) _
  have:=c tk
  rw [hix,drop_length] at this
  rw [size_toArray,size_toArray,hx.length,hy.length]
  have e:decide (([]:List Int)<ys.drop xs.length)=decide (xs.length<ys.length):=by
   by_cases hl:xs.length<ys.length
   ·have hd:ys.drop xs.length=ys[xs.length]::ys.drop (xs.length+1):=drop_eq_getElem_cons hl
    rw [decide_eq_true hl,hd]
    exact decide_eq_true (List.nil_lt_cons _ _)
   ·rw [decide_eq_false hl,drop_eq_nil_of_le (nN hl)];simp -iota
  rw [e] at this
  exact this
 | succ k ih=>
  intro i hk hi hj tk c
  have hlt:i<xs.length:=lp [_,_,_,_] [(su zA,zB),(.add zB zC,zD)] (su zC) zD rfl (eqL hk) (sbB _ _ hi)
  obtain⟨v,hv⟩:∃v,vs[i]?=some v:=⟨_,getElem?_eq_getElem (by rw [hx.length];exact hlt)⟩
  obtain⟨x,tx,rfl,hxx⟩:=hx.at i v hv
  refine codeAny_builtin entry_lt_loop ?_
  rw [Around.under_plainId plain_lt_loop]
  unfold Builtin.«list.__eq__.loop»
  dsimp only
  refine wpAny_bind (listItems_at (s:=sh s h tk) ha rfl ?_)
  refine wpAny_bind (listItems_at (s:=sh s h tk) hb rfl ?_)
  have h1:vs.toArray[((i:Nat):Int).toNat]?=some (.int x tx):=by rw [Int.toNat_natCast,getElem?_toArray];exact hv
  have dx:xs.drop i=x::xs.drop (i+1):=by
   rw [drop_eq_getElem_cons hlt]
   rw [getElem?_eq_getElem hlt] at hxx
   rw [Option.some.inj hxx]
  by_cases hiy:i<ys.length
  ·obtain⟨u,hu⟩:∃v,ws[i]?=some v:=⟨_,getElem?_eq_getElem (by rw [hy.length];exact hiy)⟩
   obtain⟨y,ty,rfl,hyy⟩:=hy.at i u hu
   have h2:ws.toArray[((i:Nat):Int).toNat]?=some (.int y ty):=by rw [Int.toNat_natCast,getElem?_toArray];exact hu
   have dy:ys.drop i=y::ys.drop (i+1):=by
    rw [drop_eq_getElem_cons hiy]
    rw [getElem?_eq_getElem hiy] at hyy
    rw [Option.some.inj hyy]
   rw [h1,h2]
   dsimp only
   refine wpAny_bind (wpAny_eqBool_int ?_)
   by_cases hxy:x=y
   ·rw [show (x == y)=true by simp -iota [hxy],if_pos rfl]
    refine wpAny_pure ⟨plainId_quiet plain_lt_loop _,?_⟩
    refine ih (i+1) (nA (lp [_,_,_,_,_] [(su zA,zB),(zC,.add zD (su zE)),(.add zB zE,zC)] zA zD rfl (eqL hk) (sbA _ _) (sbB _ _ (lp [_,_,_] [(.add zA (su zB),zC)] zB zC rfl (sbB _ _ hlt)))) (lp [_,_,_,_,_] [(zA,su zB),(zC,.add zA zD),(.add zE (su zD),zC)] zE zB rfl (eqR hk) (sbA _ _) (sbB _ _ hlt))) (hlt) (hiy) tk fun tk'=>?_
    have:=c tk'
    rw [dx,dy] at this
    have e:decide (x::xs.drop (i+1)<y::ys.drop (i+1))=decide (xs.drop (i+1)<ys.drop (i+1)):=by
     rw [decide_eq_decide,cons_lt_cons_iff];simp -iota [hxy]
    rw [e] at this;exact this
   ·rw [show (x == y)=false by simp -iota [hxy],if_neg (by simp -iota)]
    refine wpAny_bind (listItems_at (s:=sh s h tk) ha rfl ?_)
    refine wpAny_bind (listItems_at (s:=sh s h tk) hb rfl ?_)
    rw [h1,h2]
    dsimp only
    refine wpAny_bind (m:=richCompare .Lt _ _) ?_
    show wpAny _ _ (compareOp .Lt (.int x tx) (.int y ty)) _ _ _
    refine wpAny_lt_int ?_
    refine wpAny_pure ?_
    have:=c tk
    rw [dx,dy] at this
    have e:decide (x::xs.drop (i+1)<y::ys.drop (i+1))=decide (x<y):=by
     rw [decide_eq_decide,cons_lt_cons_iff];simp -iota [hxy]
    rw [e] at this;exact this
  ·have h2:ws.toArray[((i:Nat):Int).toNat]?=none:=by
    rw [Int.toNat_natCast,getElem?_toArray,List.getElem?_eq_none_iff,hy.length];exact nN hiy
   rw [h1,h2]
   dsimp only
   refine wpAny_bind (listItems_at (s:=sh s h tk) ha rfl ?_)
   refine wpAny_bind (listItems_at (s:=sh s h tk) hb rfl ?_)
   refine wpAny_pure ?_
   show R (.ok (.ret (.bool (decide (vs.toArray.size<ws.toArray.size))))) _
   have:=c tk
   rw [drop_eq_nil_of_le (as:=ys) (i:=i) (nN hiy)] at this
   rw [size_toArray,size_toArray,hx.length,hy.length]
   have e:decide (xs.drop i<([]:List Int))=decide (xs.length<ys.length):=by
    rw [decide_eq_false (Nat.not_lt_of_le (lp [_,_,_,_] [(zA,zB),(.add zC zB,zD)] zA zD rfl (nN hiy) (sbB _ _ (lp [_,_] [(su zA,zB)] zA zB rfl hlt))):¬xs.length<ys.length)];simp -iota
   rw [e] at this
   exact this
theorem lt_call {E:Value→Shared→Prop}{a b:Addr}{vs ws:List Value}{n m:Nat}{xs ys:List Int}{tk:Nat}{Q:Value→Shared→Prop}(ha:h.get? a=some (lo vs.toArray n))(hb:h.get? b=some (lo ws.toArray m))(hx:IntsAre vs xs)(hy:IntsAre ws ys)
  (c:∀tk',Q (.bool (decide (xs<ys))) (sh s h tk')):wpAny (model prog w) A (call (.builtin "list.__lt__") [.ref a,.ref b]) Q E (sh s h tk):=by
 have hT:(sh s h tk).TypeIs (.ref a) "list":=⟨_,ha,rfl⟩
 refine wpAny_call (codeAny_call_builtin PySem.F.slot_list_lt.plain PySem.F.entry_list_lt (PySem.F.slot_list_lt.check _ _ _ _ _ _ _ _ hT (PySem.F.args_list_lt_2 _ _) ?_))
 unfold Builtin.«list.__lt__»
 refine wpAny_bind (wpAny_pure ?_)
 dsimp only
 refine wpAny_bind (wpAny_isInstance (T:="list") (b:=true) ⟨_,hb,rfl⟩ ?_ ?_)
 ·rw [isSubtype_type];kernel_rfl
 refine wpAny_pure ⟨plainId_quiet plain_lt_loop _,?_⟩
 exact lt_loop ha hb hx hy xs.length 0 rfl (Nat.zero_le _) (Nat.zero_le _) tk fun tk'=>c tk'
theorem keyLt_lists {E:Value→Shared→Prop}{a b:Addr}{vs ws:List Value}{n m:Nat}{xs ys:List Int}{tk:Nat}{Q:Bool→Shared→Prop}(hu:A.units<cLine)(ha:h.get? a=some (lo vs.toArray n))(hb:h.get? b=some (lo ws.toArray m))(hx:IntsAre vs xs)(hy:IntsAre ws ys)
  (c:∀tk',Q (decide (xs<ys)) (sh s h tk')):wpAny (model prog w) A (keyLt' oneType' (.ref a) (.ref b)) Q E (sh s h tk):=by
 rw [keyLt'_oneType,oneLt'_eq]
 simp -iota only [if_true]
 refine wpAny_bind (wpAny_cRoomFor hu ?_)
 refine wpAny_bind (wpAny_callSpecialIfBound?_slot (s:=sh s h tk) (T:="list") (name:=Str.ofString "__lt__") ⟨_,ha,rfl⟩ PySem.F.slot_list_lt (lt_call ha hb hx hy fun tk'=>?_))
 exact wpAny_truthy_bool (c tk')
end
end Mine
namespace Mine
section
theorem sort_run {k:Nat}{D:Addr}{vs:List Value}{n:Nat}{T:Value}{R:Ord}{P:PySem.Fin→Shared→Prop}(hA:OkA A (k+1))(S:St O K L m ((D,seqObj "list" vs.toArray n)::led) h)
  (hT:∀h',Sub K h'→∀v∈vs,Looks (model prog w) h' (typeOf v) T)(hT1:(T != Value.type "tuple")=true)(hT2:(T == T)=true)
  (hask:∀(A':Around) h',A'.units<cLine→Sub K h'→Asks prog w A' s h' oneType' R (pairsOf vs))(hsz:vs.length≤2 ^ 20)
  (c:∀(vs':List Value) h' tk' n',St O K L m ((D,seqObj "list" vs'.toArray n')::led) h'→vs'.Perm vs→vs'.Pairwise (fun x y=>R.lt (y,y) (x,x)=false)→P (.done (.ret .none)) (sh s h' tk')) :
  wpAny (model prog w) A (Builtin.«list.sort» ⟨[.ref D],[]⟩) P E (sh s h tk):=by
 rw [list_sort_plain]
 have ho:=S.at 0 rfl
 refine wpAny_bind (listItems_at (s:=sh s h tk) ho rfl ?_)
 refine wpAny_bind (listUpdate_at (s:=sh s h tk) ho rfl ?_ (by rw [size_toArray,sizeLine_eq];exact lp [_] [(zA,.num 1048576)] zA (.num 16777216) rfl hsz) (Nat.zero_le _))
 obtain⟨e1,ho1⟩:∃e1,(h.update D (Obj.mapSeq fun _=>(#[]:Array Value))).get? D=some (seqObj "list" #[] e1):=⟨_,get?_update_seq ho fun _=>#[]⟩
 have S1:St O K L m ((D,seqObj "list" #[] e1)::led) (h.update D (Obj.mapSeq fun _=>(#[]:Array Value))):=S.turn 0 rfl (Heap.SameBut.update ..) ho1
 generalize h.update D (Obj.mapSeq fun _=>(#[]:Array Value))=h1 at S1 ho1
 refine wpAny_bind (seqEpoch_at (s:=sh s h1 tk) ho1 rfl ?_)
 refine wpAny_bind (wpAny_newTuple ?_ (by show vs.length≤_;rw [sizeLine_eq];exact lp [_] [(zA,.num 1048576)] zA (.num 16777216) rfl hsz))
 refine wpAny_bind (wpAny_newList ?_ (Nat.zero_le _))
 refine wpAny_holding ?_
 have S2:St O K L m ((D,seqObj "list" #[] e1)::led) ((h1.push (seqObj "tuple" vs.toArray 0)).push (seqObj "list" #[] 0)):=(((S1.push (seqObj "tuple" vs.toArray 0)).push (seqObj "list" #[] 0)).tail).tail
 show wpAny (model prog w) A _ P E (sh s ((h1.push (seqObj "tuple" vs.toArray 0)).push (seqObj "list" #[] 0)) tk)
 generalize (h1.push (seqObj "tuple" vs.toArray 0)).push (seqObj "list" #[] 0)=h2 at S2
 dsimp only
 have hpair:∀p∈(pairsOf vs).toList,p=(p.2,p.2):=fun p hp=>by
  rw [pairsOf_toList] at hp
  obtain⟨i,hi⟩:=mem_iff_getElem?.mp hp
  rw [List.getElem?_zip_eq_some] at hi
  have:=hi.1.symm.trans hi.2
  rw [Option.some.injEq] at this
  exact Prod.ext this rfl
 have hmap:(pairsOf vs).toList.map (·.2)=vs:=by rw [pairsOf_toList];simp [List.map_snd_zip]
 have fin:∀(st':SortSt) tk',failedOf st'=none→(arrOf st').toList.Perm (pairsOf vs).toList→(arrOf st').toList.Pairwise (le R)→
   wpAny (model prog w) A (do
    let touched:=(←seqEpoch D) != e1
    Builtin.List.listUpdate (.ref D) fun _=>(arrOf st').map (·.2)
    if let some e:=failedOf st' then rule "list.sort.comparison-raised";throw e
    if touched then rule "list.sort.modified";raiseError "ValueError" "list modified during sort"
    ret .none) P E (sh s h2 tk'):=by
  intro st' tk' hf hp hs
  have hlen:((arrOf st').map (·.2)).size=vs.length:=by
   rw [Array.size_map,←Array.length_toList,hp.length_eq,Array.length_toList,pairsOf_size]
  refine wpAny_bind (seqEpoch_at (s:=sh s h2 tk') (S2.at 0 rfl) rfl ?_)
  refine wpAny_bind (listUpdate_at (s:=sh s h2 tk') (S2.at 0 rfl) rfl ?_ (Nat.zero_le _) (by rw [hlen,sizeLine_eq];exact lp [_] [(zA,.num 1048576)] zA (.add (.num 16777216) (.num 1)) rfl hsz))
  rw [hf]
  simp only [bne_self_eq_false,Bool.false_eq_true,if_false]
  obtain⟨c2,hc2⟩:∃c2,(h2.update D (Obj.mapSeq fun _=>(arrOf st').map (·.2))).get? D=some (seqObj "list" ((arrOf st').map (·.2)) c2):=⟨_,get?_update_seq (S2.at 0 rfl) fun _=>(arrOf st').map (·.2)⟩
  have e:((arrOf st').toList.map (·.2)).toArray=(arrOf st').map (·.2):=by
   apply Array.ext';simp
  refine wpAny_pure (c ((arrOf st').toList.map (·.2)) _ tk' c2 ?_ ?_ ?_)
  ·rw [e];exact S2.turn 0 rfl (Heap.SameBut.update ..) hc2
  ·exact (hp.map _).trans (by rw [hmap])
  ·rw [List.pairwise_map]
   refine hs.imp_of_mem fun {x y} hx hy hxy=>?_
   rw [←hpair y (hp.mem_iff.mp hy),←hpair x (hp.mem_iff.mp hx)]
   exact hxy
 have hu:A.units<cLine:=hA.cu
 by_cases h2':vs.toArray.size<2
 ·rw [if_pos h2',if_pos h2']
  refine wpAny_bind (wpAny_pure ?_)
  rw [StateT.run_pure]
  refine wpAny_bind (wpAny_pure ?_)
  refine fin (SortSt.mk' general' (pairsOf vs) #[] 7 none) tk rfl (List.Perm.refl _) ?_
  have hl:(pairsOf vs).toList.length≤1:=by rw [Array.length_toList,pairsOf_size];rw [size_toArray] at h2';exact lp [_] [(su zA,.num 2)] zA (.num 1) rfl h2'
  show (pairsOf vs).toList.Pairwise (le R)
  match hq:(pairsOf vs).toList,hl with
  | [],_=>exact List.Pairwise.nil
  | [a],_=>exact pairwise_singleton ..
  | _::_::_,hl=>simp at hl
 ·rw [if_neg h2',if_neg h2']
  refine wpAny_bind (kas_kind (s:=sh s h2 tk) (by rw [size_toArray] at h2';exact nN h2') (hT h2 S2.stays) hT1 hT2 ?_)
  refine wpAny_bind (wpAny_mono (T_sortRuns (κ:=oneType') (st:=SortSt.mk' oneType' (pairsOf vs) #[] 7 none) (hask A h2 hu S2.stays) rfl rfl rfl rfl (Q:=fun _ st'=>failedOf st'=none∧(arrOf st').toList.Perm (pairsOf vs).toList∧(arrOf st').toList.Pairwise (le R)) (fun st' _ a2 a3 a4=>⟨a2,a3,a4⟩) E tk) (fun r s' hr=>?_) fun _ _ e=>e)
  obtain⟨⟨⟩,st'⟩:=r
  obtain⟨⟨tk',rfl⟩,a2,a3,a4⟩:=hr
  exact fin st' tk' a2 a3 a4
end
end Mine
namespace Mine
section
theorem sorted_call {k:Nat}{l:Addr}{vs:List Value}{n:Nat}{T:Value}{R:Ord}{Q:Value→Shared→Prop}(hA:OkA A (k+3))(S:St O K L m led h)(hl:K.get? l=some (lo vs.toArray n))
  (hT:∀h',Sub K h'→∀v∈vs,Looks (model prog w) h' (typeOf v) T)(hT1:(T != Value.type "tuple")=true)(hT2:(T == T)=true)
  (hask:∀(A':Around) h',A'.units<cLine→Sub K h'→Asks prog w A' s h' oneType' R (pairsOf vs))(hsz:vs.length≤2 ^ 20)
  (c:∀(vs':List Value) K' h' tk' D n',Sub K K'→St O K' L m led h'→K'.get? D=some (lo vs'.toArray n')→vs'.Perm vs→vs'.Pairwise (fun x y=>R.lt (y,y) (x,x)=false)→Q (.ref D) (sh s h' tk')) :
  wpAny (model prog w) A (call (.builtin "sorted") [.ref l]) Q E (sh s h tk):=by
 refine Calls.call_function_entry kind_sorted plain_sorted entry_sorted (args_sorted1 _) ?_
 unfold Builtin.«sorted»
 refine wpAny_bind (m:=checkCount "sorted" 1 1 _) (wpAny_pure ?_)
 refine wpAny_bind (collect_list (s:=sh s h tk) ⟨_,S.stays _ _ hl,rfl,n,rfl⟩ ?_ (by rw [sizeLine_eq];exact lp [_] [(zA,.num 1048576)] zA (.num 16777216) rfl hsz))
 refine wpAny_bind (wpAny_newList ?_ (by rw [sizeLine_eq];exact lp [_] [(zA,.num 1048576)] zA (.num 16777216) rfl hsz))
 have S1:=(S.push (seqObj "list" #[] 0)).update (Obj.mapSeq (·++vs.toArray)) 0 rfl rfl
 have S2:St O K L m led ((h.push (seqObj "list" #[] 0)).update h.objs.size (Obj.mapSeq (·++vs.toArray))):=S1.tail
 have S3:=S2.push (seqObj "list" vs.toArray 0)
 have hlow:@LE.le Nat _ O.B.objs.size ((h.push (seqObj "list" #[] 0)).update h.objs.size (Obj.mapSeq (·++vs.toArray))).objs.size:=S2.sizeB
 show wpAny _ _ _ _ _ (sh s (((h.push (seqObj "list" #[] 0)).update h.objs.size (Obj.mapSeq (·++vs.toArray))).push (seqObj "list" vs.toArray 0)) tk)
 generalize hD:((h.push (seqObj "list" #[] 0)).update h.objs.size (Obj.mapSeq (·++vs.toArray))).objs.size=D at S3 hlow
 generalize ((h.push (seqObj "list" #[] 0)).update h.objs.size (Obj.mapSeq (·++vs.toArray))).push (seqObj "list" vs.toArray 0)=h3 at S3
 refine wpAny_bind (wpAny_holding ?_)
 refine wpAny_call_entry (s:=sh s h3 tk) slot_list_sort ⟨_,S3.at 0 rfl,rfl⟩ entry_list_sort ?_ (args_list_sort _)
 have hA1:OkA A.in1.in1 (k+1):=hA.in1.in1
 refine sort_run (k:=k) hA1 S3 hT hT1 hT2 hask hsz fun vs' h4 tk4 n4 S4 hp hs=>?_
 refine⟨_,rfl,wpAny_pure ⟨_,rfl,?_⟩⟩
 obtain⟨K5,hK5,S5,hfr⟩:=S4.freeze led (sublist_cons_self ..)
 have hnd:=S4.nodup
 rw [map_cons,nodup_cons] at hnd
 exact c vs' K5 h4 tk4 D n4 hK5 S5 (hfr D _ (S4.at 0 rfl) hlow (S4.ledg _ mem_cons_self).2.1 hnd.1) hp hs
end
end Mine
namespace Mine
section
open Classical in
noncomputable def dataOf [Inhabited α](Rr:Rel α)(K:Heap)(v:Value):α:=if q:∃x,Rr.r K v x then q.choose else default
theorem sorted_rel [Inhabited α]{k:Nat}{Rr:Rel α}{lt:α→α→Bool}{v:Value}{xs:List α}{T:Value}{Q:Value→Shared→Prop}(hA:OkA A (k+3))(S:St O K L m led h)(r:(rList Rr).r K v xs)
  (inj:∀v x y,Rr.r K v x→Rr.r K v y→x=y)(as:∀a b,lt a b=true→lt b a=false)(tr:∀a b c,lt b a=false→lt c b=false→lt c a=false)
  (hT:∀h',Sub K h'→∀v x,Rr.r K v x→Looks (model prog w) h' (typeOf v) T)(hT1:(T != Value.type "tuple")=true)(hT2:(T == T)=true)
  (hcmp:∀(A':Around) h' v u x y,A'.units<cLine→Sub K h'→Rr.r K v x→Rr.r K u y→∀E tk (Q:Bool→Shared→Prop),(∀tk',Q (lt x y) (sh s h' tk'))→wpAny (model prog w) A' (keyLt' oneType' v u) Q E (sh s h' tk))(hsz:xs.length≤2 ^ 20)
  (c:∀K' h' tk' v' ys,Sub K K'→St O K' L m led h'→(rList Rr).r K' v' ys→ys.Perm xs→ys.Pairwise (fun x y=>lt y x=false)→Q v' (sh s h' tk')) :
  wpAny (model prog w) A (call (.builtin "sorted") [v]) Q E (sh s h tk):=by
 obtain⟨l,vs,n,rfl,hl,hx⟩:=r
 have hd:∀v x,Rr.r K v x→dataOf Rr K v=x:=fun v x hr=>by
  unfold dataOf
  rw [dif_pos ⟨x,hr⟩]
  exact inj v _ _ (Exists.choose_spec (⟨x,hr⟩:∃x,Rr.r K v x)) hr
 have hmem:∀v∈vs,∃x,Rr.r K v x:=fun v hv=>by
  obtain⟨i,hi⟩:=mem_iff_getElem?.mp hv
  obtain⟨x,_,hr⟩:=hx.getL hi
  exact⟨x,hr⟩
 have hmap0:∀{vs:List Value} {xs:List α},All2 (Rr.r K) vs xs→vs.map (dataOf Rr K)=xs:=by
  intro vs xs hx
  induction hx with
  | nil=>rfl
  | cons hr _ ih=>rw [map_cons,hd _ _ hr,ih]
 have hmap:=hmap0 hx
 let R:Ord:=⟨fun p q=>lt (dataOf Rr K p.1) (dataOf Rr K q.1),fun a b=>as _ _,fun a b c=>tr _ _ _⟩
 refine sorted_call (R:=R) (k:=k) hA S hl (fun h' hs v hv=>?_) hT1 hT2 (fun A' h' hu hs p q hp hq E tk Q' hQ=>?_) (by rw [hx.length];exact hsz) fun vs' K' h' tk' D n' hK S' hD hp hs=>?_
 ·obtain⟨x,hr⟩:=hmem v hv
  exact hT h' hs v x hr
 ·have hv:∀p∈(pairsOf vs).toList,p.1∈vs:=fun p hp=>by
   rw [pairsOf_toList] at hp
   exact (of_mem_zip hp).1
  obtain⟨x,hr⟩:=hmem _ (hv p hp)
  obtain⟨y,hr2⟩:=hmem _ (hv q hq)
  refine hcmp A' h' p.1 q.1 x y hu hs hr hr2 E tk Q' fun tk'=>?_
  have:=hQ tk'
  rw [←hd _ _ hr,←hd _ _ hr2]
  exact this
 ·refine c K' h' tk' _ (vs'.map (dataOf Rr K)) hK S' ⟨D,vs',n',rfl,hD,?_⟩ (by rw [←hmap];exact hp.map _) ?_
  ·have all:∀us:List Value,(∀v∈us,v∈vs)→All2 (Rr.r K') us (us.map (dataOf Rr K)):=by
    intro us
    induction us with
    | nil=>intro _;exact .nil
    | cons a b ih=>
     intro hus
     obtain⟨x,hr⟩:=hmem a (hus a mem_cons_self)
     refine .cons ?_ (ih fun v hv=>hus v (mem_cons_of_mem _ hv))
     rw [hd _ _ hr];exact Rr.mono hK hr
   exact all vs' fun v hv=>hp.mem_iff.mp hv
  ·rw [List.pairwise_map];exact hs
theorem rInts_inj {K:Heap}{v:Value}{xs ys:List Int}(a:(rList rInt).r K v xs)(b:(rList rInt).r K v ys):xs=ys:=by
 obtain⟨l,vs,n,rfl,hl,hx⟩:=a
 obtain⟨l',vs',n',e,hl',hy⟩:=b
 cases e
 rw [hl] at hl'
 have e2:vs=vs':=by
  have h1:vs.toArray=vs'.toArray:=congrArg (fun o:Obj=>match o.data with | .seq v _=>v|_=>#[]) (Option.some.inj hl')
  simpa using congrArg Array.toList h1
 subst e2
 clear hl hl'
 induction hx generalizing ys with
 | nil=>cases hy;rfl
 | cons h _ ih=>
  cases hy with
  | cons h' t'=>
   obtain⟨t1,e1⟩:=h
   obtain⟨t2,e2⟩:=h'
   rw [e1] at e2
   cases e2
   rw [ih t']
theorem sorted_rows {k:Nat}{v:Value}{rows:List (List Int)}{Q:Value→Shared→Prop}(hA:OkA A (k+3))(S:St O K L m led h)(r:(rList (rList rInt)).r K v rows)(hsz:rows.length≤2 ^ 20)
  (c:∀K' h' tk' v' ys,Sub K K'→St O K' L m led h'→(rList (rList rInt)).r K' v' ys→ys.Perm rows→ys.Pairwise (fun x y=>¬y<x)→Q v' (sh s h' tk')) :
  wpAny (model prog w) A (call (.builtin "sorted") [v]) Q E (sh s h tk):=by
 refine sorted_rel (lt:=fun x y=>decide (x<y)) (T:=.type "list") hA S r (fun v x y=>rInts_inj) (fun a b h=>?_) (fun a b c h1 h2=>?_) (fun h' hs v x hr=>?_) (by decide) (by decide) (fun A' h' v u x y hu hs hv hw E tk Q' q=>?_) hsz fun K' h' tk' v' ys hK S' hr hp hs=>?_
 ·exact decide_eq_false fun q=>lt_asymm (of_decide_eq_true h) q
 ·refine decide_eq_false fun q=>?_
  have h1':¬b<a:=of_decide_eq_false h1
  have h2':¬c<b:=of_decide_eq_false h2
  exact absurd q (not_lt.mpr (List.le_trans (not_lt.mp h1') (not_lt.mp h2')))
 ·obtain⟨a,vs,n,rfl,ha,_⟩:=hr
  exact (Looks.ld (hs _ _ ha)).andThen .now
 ·obtain⟨a,vs,n,rfl,ha,hx⟩:=hv
  obtain⟨b,ws,m',rfl,hb,hy⟩:=hw
  exact keyLt_lists hu (hs _ _ ha) (hs _ _ hb) (ints_of hx) (ints_of hy) q
 ·exact c K' h' tk' v' ys hK S' hr hp (hs.imp fun q=>of_decide_eq_false q)
end
end Mine
namespace Mine
noncomputable def splitStep (p:List (List Int)×List Int)(x:Int):List (List Int)×List Int:=if x == 0 then (p.1++[p.2],[]) else (p.1,p.2++[x])
noncomputable def splitZ (tape:List Int):List (List Int)×List Int:=tape.foldl splitStep ([],[])
theorem split_step {tape:List Int}{i:Nat}{x:Int}(h:tape[i]?=some x):splitZ (tape.take (i+1))=splitStep (splitZ (tape.take i)) x:=by
 unfold splitZ
 rw [take_add_one,h]
 simp [foldl_append]
theorem split_length (tape:List Int):∀p:List (List Int)×List Int,(tape.foldl splitStep p).1.length≤p.1.length+tape.length∧(tape.foldl splitStep p).2.length≤p.2.length+tape.length:=by
 induction tape with
 | nil=>intro p;exact⟨Nat.le_refl _,Nat.le_refl _⟩
 | cons a b ih=>
  intro p
  have:=ih (splitStep p a)
  rw [foldl_cons,length_cons]
  unfold splitStep at this ⊢
  by_cases h:(a == 0)=true
  ·rw [if_pos h] at this ⊢
   simp at this ⊢;exact⟨lp [_,_,_] [(zA,.add (su zB) zC)] zA (.add zB (su zC)) rfl this.1,lp [_,_,_] [(zA,zB)] zA (.add zC (su zB)) rfl this.2⟩
  ·rw [if_neg h] at this ⊢
   simp at this ⊢;exact⟨lp [_,_,_] [(zA,.add zB zC)] zA (.add zB (su zC)) rfl this.1,lp [_,_,_] [(zA,.add (su zB) zC)] zA (.add zB (su zC)) rfl this.2⟩
noncomputable def ruN:List Str:=["tape","rules","symbol"]
theorem ruN_nd:ruN.Nodup:=by decide
inductive AppAnyP (s:Shared)(Q:Flow→Shared→Prop)(l:Addr)(v:Value)(s₂:Shared):Prop
 | mk (O:Org) (K:Heap) (L:Addr) (m:Str→Option Value) (led:List (Addr×Obj)) (h:Heap) (tk:Nat) (i:Nat) (vs:List Value) (n:Nat):s₂=sh s h tk→St O K L m led h→led[i]?=some (l,lo vs.toArray n)→vs.length≤2 ^ 24→(∀h' n',St O K L m (led.set i (l,lo (vs++[v]).toArray n')) h'→Q .next (sh s h' tk))→AppAnyP s Q l v s₂
inductive RevP {α:Type}(R:Rel α)(s:Shared)(Q:Value→Shared→Prop)(ov vt:Value)(s₂:Shared):Prop
 | mk (O:Org) (K:Heap) (L:Addr) (m:Str→Option Value) (led:List (Addr×Obj)) (h:Heap) (tk:Nat) (xs:List α) (t:Tok):s₂=sh s h tk→vt = .int (-1) t→St O K L m led h→(rList R).r K ov xs→xs.length≤2 ^ 24→(∀K' h' v,Sub K K'→St O K' L m led h'→(rList R).r K' v xs.reverse→Q v (sh s h' tk))→RevP R s Q ov vt s₂
section
theorem append_any {o:Expr}{apos pos pos2:Pos}{e:Expr}{Q:Flow→Shared→Prop}
  (k:wpAny (model prog w) A (eval o env) (fun ov s₁=>∃l vs0 n0,ov = .ref l∧s₁.heap.get? l=some (lo vs0 n0)∧wpAny (model prog w) A (eval e env) (AppAnyP s Q l) E s₁) E (sh s h tk))
  (hbase:attributeBase o "append" env (eval o env)=eval o env:=by rfl)
  (hfew:((backTo pos (starEach [e] env)).all (fun x=>!x.1)&&(backToKw pos (keywordEach [] env)).all (fun x=>x.1.isSome)&&decide ([e].length+([]:List Keyword).length+(if ([]:List Keyword).isEmpty then 0 else 1)<30))=true:=by rfl)
  (hline:(apos.endLine == pos.line)=true:=by rfl)(he:backTo pos (starEach [e] env)=[(false,eval e env)]:=by rfl)
  (hin:interactive env=false:=by rfl)(hs:swapsWith (.Call (.Attribute o "append" apos) [e] [] pos) none pos2.line env=pure false:=by rfl) :
  wpAny (model prog w) A (exec (.Expr (.Call (.Attribute o "append" apos) [e] [] pos) pos2) env) Q E (sh s h tk):=by
 refine wpAny_Expr ?_ hin hs
 refine wpAny_Call_method hbase hfew hline F.plainAttrs_list F.slot_list_append type_append (wpAny_mono k (fun ov s₁ h₁=>?_) fun _ _ x=>x)
 obtain⟨l,vs0,n0,rfl,hl,k2⟩:=h₁
 refine⟨⟨_,hl,rfl⟩,fun a ea=>?_,?_⟩
 ·cases ea;exact⟨_,hl,rfl⟩
 ·rw [he]
  refine P.append_list (wpAny_mono k2 (fun v s₂ h₂=>?_) fun _ _ x=>x)
  obtain⟨O,K,L,m,led,h,tk,i,vs,n,rfl,S1,hi1,hsz,c⟩:=h₂
  refine⟨vs.toArray,n,by rw [size_toArray];exact hsz,S1.at i hi1,?_⟩
  have S2:=S1.update (Obj.mapSeq (·.push v)) i hi1 (by rw [push_seq'];rfl)
  rw [push_seq'] at S2
  exact c _ _ S2
theorem St.perm {led':List (Addr×Obj)}(S:St O K L m led h)(p:led'.Perm led):St O K L m led' h:=
 S.move (fun _ _ _ _ e=>e) S.ns (fun q hq=>S.ledg q (p.mem_iff.mp hq)) ((p.map (·.1)).nodup_iff.mpr S.nodup)
theorem rev_any {α:Type}{R:Rel α}{st o:Expr}{p pos:Pos}{Q:Value→Shared→Prop}
  (k:wpAny (model prog w) A (eval o env) (fun ov s₁=>wpAny (model prog w) A (eval st env) (RevP R s Q ov) E s₁) E (sh s h tk))
  (hs:∀a b,∃ops,subscripted (.Slice none none (some st) p) false (.ref a) (.ref b)=operate ops (getItem (.ref a) (.ref b)):=by intro _ _;exact⟨_,by with_unfolding_all rfl⟩) :
  wpAny (model prog w) A (eval (.Subscript o (.Slice none none (some st) p) pos) env) Q E (sh s h tk):=by
 refine Subscript_ (wpAny_mono k (fun ov s₁ h₁=>?_) fun _ _ x=>x)
 refine wpAny_Slice (part_none (part_none ?_))
 rw [evalPart_some]
 refine wpAny_mono h₁ (fun vt s₂ h₂=>?_) fun _ _ x=>x
 obtain⟨O,K,L,m,led,h,tk,xs,t,rfl,rfl,S,⟨a,vs,n,rfl,ha,x⟩,hsz,c⟩:=h₂
 obtain⟨K1,hK1,S1,g1⟩:=S.pushK { cls:=.type "slice",data:=.fields #[.none,.none,.int (-1) t] }
 obtain⟨K2,hK2,S2,g⟩:=S1.pushK { cls:=.type "list",data:=.seq (slicePick vs.toArray none none (some (-1))) }
 have hl:=S1.stays _ _ (hK1 _ _ ha)
 refine tail_any (s:=sh s (h.push { cls:=.type "slice",data:=.fields #[.none,.none,.int (-1) t] }) tk) (T:="list") ⟨_,hl,rfl⟩ list_getitem_lookup ?_ (hs _ _).choose_spec
 refine wpAny_getItem_list_slice (s:=sh s (h.push { cls:=.type "slice",data:=.fields #[.none,.none,.int (-1) t] }) tk) ⟨_,hl,rfl,n,rfl⟩ (Heap.IsSliceOf.new ..) .none .none (.int (-1) t) (by simp) ?_ (by rw [size_toArray,x.length];exact hsz)
 have hx:=(pick_rel x none none (some (-1))).imp fun _ _ y=>R.mono (hK1.trans hK2) y
 rw [pick_rev] at hx
 exact c K2 _ _ (hK1.trans hK2) S2 ⟨_,(slicePick vs.toArray none none (some (-1))).toList,0,rfl,by rw [Array.toArray_toList];exact g,hx⟩
inductive RuJ (v:Value)(RL lim:Addr)(tape:List Int):Nat→Heap→(Str→Option Value)→List (Addr×Obj)→Prop
 | mk (i:Nat) (K:Heap) (vs:List Value) (n:Nat) (cur:List Value) (n2:Nat) (LR:Addr) (x2:Option Value):@LE.le Nat _ lim LR→All2 ((rList rInt).r K) vs (splitZ (tape.take i)).1→All2 (rInt.r K) cur (splitZ (tape.take i)).2→
  RuJ v RL lim tape i K (loc ruN [some v,some (Value.ref RL),x2]) [(RL,lo (vs++[Value.ref LR]).toArray n),(LR,lo cur.toArray n2)]
theorem gc_iseof {k:Nat}{v:Value}{x:Int}(B:Mod base)(hb:Sub base K)(hs:Sub K h)(hA:OkA A (k+1))(r:rInt.r K v x):Gc prog w A s K h 114 [v] rBool (x == 0):=
 fun _ _ _ c=>iseof_call (k:=k) B hb hs hA r fun h' tk' g=>c K h' tk' _ g rfl
theorem split_room {tape:List Int}{i:Nat}(hsz:tape.length≤2 ^ 19):(splitZ (tape.take i)).1.length≤2 ^ 19∧(splitZ (tape.take i)).2.length≤2 ^ 19:=by
 have hbd:=split_length (tape.take i) ([],[])
 have hl:(tape.take i).length≤2 ^ 19:=nT (by rw [length_take];exact Nat.min_le_right ..) hsz
 have h1:(splitZ (tape.take i)).1.length≤0+(tape.take i).length:=hbd.1
 have h2:(splitZ (tape.take i)).2.length≤0+(tape.take i).length:=hbd.2
 rw [Nat.zero_add] at h1 h2
 exact⟨nT h1 hl,nT h2 hl⟩
theorem as_nest {env:Env}{ns:List Str}{us:List (Option Value)}{rest:List Stmt}{x:Str}{p p2 p3 pos:Pos}{Q:Flow→Shared→Prop}(S:St O K env.locals (loc ns us) led h)(i:Nat)(hd:ns.Nodup)
  (k:∀LR RL h' tk',O.B.objs.size≤LR→O.B.objs.size≤RL→St O K env.locals (loc ns (us.set i (some (.ref RL)))) ((RL,lo [Value.ref LR].toArray 0)::(LR,lo ([]:List Value).toArray 0)::led) h'→wpAny (model prog w) A (execs rest env) Q E (sh s h' tk'))(hx:ns[i]?=some x:=by rfl)(hi:(us[i]?).isSome=true:=by rfl)
  (hl:env.kindOf x=some .local:=by rfl)(hk:env.scope.kind = .function:=by rfl)(hs:swapsWith (.List [.List [] p3] p2) (some (.Name x p)) pos.line env=pure false:=by rfl)(he:starEach [.List [] p3] env=(false,eval (.List [] p3) env)::starEach [] env:=by rfl) :
  wpAny (model prog w) A (execs (.Assign [.Name x p] (.List [.List [] p3] p2) pos::rest) env) Q E (sh s h tk):=
 as_st (wpAny_List_spliced (args_cons (list_new S fun h1 S1=>args_nil ⟨by simp [sizeLine],stn (h:=h1.push (lo [Value.ref h.objs.size].toArray 0)) (S1.push (lo [Value.ref h.objs.size].toArray 0)) i hd (fun h' tk' S'=>k _ _ h' tk' S.sizeB S1.sizeB S') hx hi hl hk⟩) he)) hs
theorem rules_call {k:Nat}  {v:Value}{tape:List Int}{Q:Value→Shared→Prop}(B:Mod base)(hb:Sub base K)(hs:Sub K h)(hA:OkA A (k+4))
  (r:(rList rInt).r K v tape)(hsz:tape.length≤2 ^ 19)
  (c:∀K' h' tk' v rows,Grow K h K' h'→(rList (rList rInt)).r K' v rows→rows.Perm (splitZ tape).1→rows.Pairwise (fun x y=>¬x<y)→Q v (sh s h' tk')):wpAny (model prog w) A (call (.ref 126) [v]) Q E (sh s h tk):=by
 refine call_fn (k:=k+3) ["tape"] ["rules","symbol"] [none,none] hA ((B.fns (126,67) (by decide)).sub (hb.trans hs)) (B.nolimit.keeps (hb.trans hs)) hs (fun _ _ _ _ _=>rfl) rfl (by decide) (by simp) (by decide) (by decide) (by decide) (fun A' h₀ tk₀ q L cd hA' S=>?_)
 replace S:St ⟨h,K⟩ K (en q (scopeOf (stA 67)) L 126 cd []).locals (loc ruN [some v,none,none]) [] h₀:=S
 refine hide fun Q0 fin0=>?_
 replace c:∀K' h' tk' v rows,Grow K h K' h'→(rList (rList rInt)).r K' v rows→rows.Perm (splitZ tape).1→rows.Pairwise (fun x y=>¬x<y)→Q0 (.ret v) (sh s h' tk'):=fun K' h' tk' v rows g r p q=>fin0 _ _ (c K' h' tk' v rows g r p q)
 clear fin0
 refine as_nest S 1 ruN_nd fun LR RL h2 tk2 hlow1 hlow2 S3=>?_
 clear S
 refine for_x (gi_list hA' (gx_v S3 (gv_n S3 0 ruN_nd r))) (RuJ v RL h.objs.size tape) (fun K' _=>.mk 0 K' [] 0 [] 0 LR none hlow1 .nil .nil) ?_ ?_
 ·clear S3 c hlow1 hlow2 LR
  intro i x xv K5 m5 led5 h5 tk5 I ob5 E5 Q5 hi hxv hK5 hJ S5 next
  obtain⟨vs,n,cur,n2,LR,x2,hlr,hvs,hcur⟩:=hJ
  have hb5:=hb.trans hK5
  have estep:=split_step hi
  have hl1:vs.length≤2 ^ 19:=by rw [hvs.length];exact (split_room hsz).1
  have hl2:cur.length≤2 ^ 19:=by rw [hcur.length];exact (split_room hsz).2
  refine as_n S5 2 ruN_nd fun h6 tk6 S6=>?_
  clear S5 hi
  refine if_x (tx_g (gx_call1 B hb5 S6.stays (B.fns (114,64) (by decide)) (gx_v S6 (gv_n S6 2 ruN_nd hxv)) fun K' h' u hK' hs' ru=>gc_iseof (k:=k+2) B (hb5.trans hK') hs' hA' ru)) (fun hz K7 h7 tk7 hK7 S7=>?_) fun hz K7 h7 tk7 hK7 S7=>?_
  ·refine wpAny_execs_cons ?_
   refine append_any (ld S7 1 ruN_nd ⟨RL,_,_,rfl,S7.at 1 rfl,list_new S7 fun h8 S8=>?_⟩)
   have hlow8:@LE.le Nat _ h.objs.size h7.objs.size:=S7.sizeB
   obtain⟨NL,hNL⟩:∃NL,NL=h7.objs.size:=⟨_,rfl⟩
   rw [←hNL] at S8 hlow8 ⊢
   clear hNL S7 S6
   refine⟨_,K7,_,_,_,h8,_,2,vs++[Value.ref LR],n,rfl,S8,rfl,by rw [length_append,length_singleton];exact lp [_] [(zA,.num 524288)] (su zA) (.num 16777216) rfl hl1,fun h9 n9 S9=>?_⟩
   have S10:=S9.perm (led':=[(LR,lo cur.toArray n2),(I,ob5),(RL,lo ((vs++[Value.ref LR])++[Value.ref NL]).toArray n9),(NL,lo ([]:List Value).toArray 0)]) (List.Perm.trans (List.Perm.cons _ (perm_append_comm (l₁:=[(I,ob5),(RL,lo ((vs++[Value.ref LR])++[Value.ref NL]).toArray n9)]) (l₂:=[(NL,lo ([]:List Value).toArray 0)]))) (perm_append_comm (l₁:=[(LR,lo cur.toArray n2)]) (l₂:=[(NL,lo ([]:List Value).toArray 0),(I,ob5),(RL,lo ((vs++[Value.ref LR])++[Value.ref NL]).toArray n9)])))
   obtain⟨K10,hK10,S11,hr⟩:=S10.freezeL hlr (hcur.imp fun _ _ q=>rInt.mono hK7 q)
   refine wpAny_execs_nil (next K10 _ _ h9 _ (hK7.trans hK10) (.mk (i+1) K10 (vs++[Value.ref LR]) n9 [] 0 NL _ hlow8 ?_ ?_) S11)
   ·rw [estep];unfold splitStep;rw [if_pos hz]
    exact (hvs.imp fun _ _ q=>(rList rInt).mono (hK7.trans hK10) q).snoc hr
   ·rw [estep];unfold splitStep;rw [if_pos hz];exact .nil
  ·refine wpAny_execs_cons ?_
   refine append_any ?_
   refine Subscript_ (ld S7 1 ruN_nd (UnaryOp_ (c_int (neg_i ?_))))
   refine item_last (vi:=vs) (v:=Value.ref LR) ⟨_,S7.at 1 rfl,rfl,n,rfl⟩ ?_
   refine⟨LR,_,_,rfl,S7.at 2 rfl,ld S7 2 ruN_nd ?_⟩
   refine⟨_,K7,_,_,_,h7,_,2,cur,n2,rfl,S7,rfl,lp [_] [(zA,.num 524288)] zA (.num 16777216) rfl hl2,fun h9 n9 S9=>?_⟩
   refine wpAny_execs_nil (next K7 _ _ h9 _ hK7 (.mk (i+1) K7 vs n (cur++[xv]) n9 LR _ hlr ?_ ?_) S9)
   ·rw [estep];unfold splitStep;rw [if_neg hz];exact hvs.imp fun _ _ q=>(rList rInt).mono hK7 q
   ·rw [estep];unfold splitStep;rw [if_neg hz];exact (hcur.imp fun _ _ q=>rInt.mono hK7 q).snoc (rInt.mono hK7 hxv)
 ·clear S3
  intro K5 m5 led5 h5 tk5 hK5 hJ S5
  obtain⟨vs,n,cur,n2,LR,x2,hlr,hvs,hcur⟩:=hJ
  rw [take_length] at hvs hcur
  have hl1:=(split_room (i:=tape.length) hsz).1
  rw [take_length] at hl1
  obtain⟨K6,hK6,S6,hfr⟩:=S5.freeze [] (nil_sublist _)
  have hRL:K6.get? RL=some (lo (vs++[Value.ref LR]).toArray n):=hfr _ _ (S5.at 0 rfl) hlow2 (S5.ledg _ mem_cons_self).2.1 (by simp)
  have hLR2:K6.get? LR=some (lo cur.toArray n2):=hfr _ _ (S5.at 1 rfl) hlr (S5.ledg _ (mem_of_getElem? (i:=1) rfl)).2.1 (by simp)
  have hrows:(rList (rList rInt)).r K6 (.ref RL) ((splitZ tape).1++[(splitZ tape).2]):=⟨RL,_,n,rfl,hRL,(hvs.imp fun _ _ q=>(rList rInt).mono hK6 q).snoc ⟨LR,cur,n2,rfl,hLR2,hcur.imp fun _ _ q=>rInt.mono hK6 q⟩⟩
  have hb6:=hb.trans (hK5.trans hK6)
  clear S5 hRL hLR2 hfr hvs hcur hlr
  refine ret_st (rev_any (R:=rList rInt) ?_)
  refine Call_ (gl_blt (v:=.builtin "sorted") B (hb6.trans S6.stays) (cw_blt (args_cons ?_)))
  refine gx_slice (xs:=(splitZ tape).1++[(splitZ tape).2]) (lo:=none) (hi:=some (-1)) S6 (gv_n S6 1 ruN_nd hrows) pt_n (fun E tk Q q=>by rw [evalPart_some];exact UnaryOp_ (c_int (neg_i (q _ _ (.int (-1) _))))) (by rw [length_append,length_singleton];exact lp [_] [(zA,.num 524288)] (su zA) (.num 16777216) rfl hl1) (fun o' r=>by with_unfolding_all rfl) _ _ _ fun K7 h7 tk7 v7 hK7 S7 hv7=>?_
  rw [pick_init,List.dropLast_concat] at hv7
  refine args_nil ?_
  refine sorted_rows (k:=k) (hA'.less (lp [_] [] (.add zA (.num 3)) (.add zA (.num 3)) rfl)) S7 hv7 (lp [_] [(zA,.num 524288)] zA (.num 1048576) rfl hl1) fun K8 h8 tk8 v8 ys hK8 S8 hys hp hso=>?_
  refine UnaryOp_ (c_int (neg_i ?_))
  refine⟨_,K8,_,_,_,h8,_,ys,_,rfl,rfl,S8,hys,by rw [hp.length_eq];exact lp [_] [(zA,.num 524288)] zA (.num 16777216) rfl hl1,fun K9 h9 v9 hK9 S9 hv9=>?_⟩
  refine c K9 h9 _ v9 ys.reverse S9.toGrow hv9 ((reverse_perm ys).trans hp) ?_
  rw [pairwise_reverse];exact hso
end
end Mine
namespace Mine
section
theorem sorted_ints {k:Nat}{v:Value}{xs:List Int}{Q:Value→Shared→Prop}(hA:OkA A (k+3))(S:St O K L m led h)(r:(rList rInt).r K v xs)(hsz:xs.length≤2 ^ 20)
  (c:∀K' h' tk' v' ys,Sub K K'→St O K' L m led h'→(rList rInt).r K' v' ys→ys.Perm xs→ys.Pairwise (·≤·)→Q v' (sh s h' tk')) :
  wpAny (model prog w) A (call (.builtin "sorted") [v]) Q E (sh s h tk):=by
 refine sorted_rel (lt:=fun x y=>decide (x<y)) (T:=.type "int") hA S r (fun v x y a b=>?_) (fun a b h=>?_) (fun a b c h1 h2=>?_) (fun h' hs v x hr=>?_) (by decide) (by decide) (fun A' h' v u x y hu hs hv hw E tk Q' q=>?_) hsz fun K' h' tk' v' ys hK S' hr hp hs=>?_
 ·obtain⟨t,rfl⟩:=a
  obtain⟨t',e⟩:=b
  cases e;rfl
 ·have:=of_decide_eq_true h
  exact decide_eq_false (Int.not_lt.2 (lw [_,_] [(si iA,iB)] iA iB rfl this))
 ·have h1':=of_decide_eq_false h1
  have h2':=of_decide_eq_false h2
  exact decide_eq_false (Int.not_lt.2 (Int.le_trans (Int.not_lt.1 h1') (Int.not_lt.1 h2')))
 ·obtain⟨t,rfl⟩:=hr
  exact Looks.of_pure rfl
 ·obtain⟨t,rfl⟩:=hv
  obtain⟨t',rfl⟩:=hw
  rw [keyLt'_oneType]
  exact oneLt_int (q tk)
 ·exact c K' h' tk' v' ys hK S' hr hp (hs.imp fun q=>by have:=of_decide_eq_false q;exact Int.not_lt.1 this)
theorem sorted_strs {k:Nat}{v:Value}{xs:List Str}{Q:Value→Shared→Prop}(hA:OkA A (k+3))(S:St O K L m led h)(r:(rList rStr).r K v xs)(hsz:xs.length≤2 ^ 20)
  (c:∀K' h' tk' v' ys,Sub K K'→St O K' L m led h'→(rList rStr).r K' v' ys→ys.Perm xs→ys.Pairwise (fun x y=>¬y.cps.toList<x.cps.toList)→Q v' (sh s h' tk')) :
  wpAny (model prog w) A (call (.builtin "sorted") [v]) Q E (sh s h tk):=by
 haveI:Inhabited Str:=⟨⟨#[]⟩⟩
 refine sorted_rel (lt:=fun x y=>decide (x.cps.toList<y.cps.toList)) (T:=.type "str") hA S r (fun v x y a b=>?_) (fun a b h=>?_) (fun a b c h1 h2=>?_) (fun h' hs v x hr=>?_) (by decide) (by decide) (fun A' h' v u x y hu hs hv hw E tk Q' q=>?_) hsz fun K' h' tk' v' ys hK S' hr hp hs=>?_
 ·obtain⟨t,rfl⟩:=a
  obtain⟨t',e⟩:=b
  cases e;rfl
 ·exact decide_eq_false fun q=>lt_asymm (of_decide_eq_true h) q
 ·refine decide_eq_false fun q=>?_
  have h1':=of_decide_eq_false h1
  have h2':=of_decide_eq_false h2
  exact absurd q (not_lt.mpr (List.le_trans (not_lt.mp h1') (not_lt.mp h2')))
 ·obtain⟨t,rfl⟩:=hr
  exact Looks.of_pure rfl
 ·obtain⟨t,rfl⟩:=hv
  obtain⟨t',rfl⟩:=hw
  exact kas_lt_str (q tk)
 ·exact c K' h' tk' v' ys hK S' hr hp (hs.imp fun q=>of_decide_eq_false q)
end
end Mine
end
namespace Mine
noncomputable def stepQ (st c:Nat):List Nat×Nat:=
 if c=13 then ([13,10],2) else if c=10 then (if st=2 then ([],0) else ([13,10],0)) else if c=46 then (if st=1 then ([46],1) else ([46,46],1)) else ([c],1)
noncomputable def outQ:Nat→List Nat→List Nat
 | _,[]=>[]
 | st,c::r=>(stepQ st c).1++outQ (stepQ st c).2 r
noncomputable def endQ:Nat→List Nat→Nat
 | st,[]=>st
 | st,c::r=>endQ (stepQ st c).2 r
theorem outQ_append:∀(a:List Nat)(st:Nat)(b:List Nat),outQ st (a++b)=outQ st a++outQ (endQ st a) b
 | [],_,_=>rfl
 | c::a,st,b=>by
  show (stepQ st c).1++outQ (stepQ st c).2 (a++b)=_
  rw [outQ_append a]
  show _=(stepQ st c).1++outQ (stepQ st c).2 a++outQ (endQ (stepQ st c).2 a) b
  rw [append_assoc]
theorem endQ_append:∀(a:List Nat)(st:Nat)(b:List Nat),endQ st (a++b)=endQ (endQ st a) b
 | [],_,_=>rfl
 | c::a,st,b=>endQ_append a (stepQ st c).2 b
theorem endQ_lt:∀(a:List Nat)(st:Nat),st<3→endQ st a<3
 | [],_,h=>h
 | c::a,st,_=>by
  refine endQ_lt a _ ?_
  unfold stepQ;repeat' split
  all_goals simp
theorem quoted_run:∀(x:List Nat)(st:Nat),st<3→dst (decide (st≠1)) (crl (decide (st=2)) x)=outQ st x
 | [],st,_=>rfl
 | c::r,st,hst=>by
  have i0:dst true (crl false r)=outQ 0 r:=quoted_run r 0 (lp [] [] (.add (.num 0) (.num 1)) (.num 3) rfl)
  have i1:dst false (crl false r)=outQ 1 r:=quoted_run r 1 (by exact lp [] [] (.add (.num 1) (.num 1)) (.num 3) rfl)
  have i2:dst true (crl true r)=outQ 2 r:=quoted_run r 2 (by exact lp [] [] (.add (.num 2) (.num 1)) (.num 3) rfl)
  show _=(stepQ st c).1++outQ (stepQ st c).2 r
  unfold stepQ crl
  by_cases h13:c=13
  ·rw [if_pos h13,if_pos h13]
   simp only [dst,show ¬((13:Nat)=46) by exact Nat.ne_of_lt (lp [] [] (.add (.num 13) (.num 1)) (.num 46) rfl),and_false,if_false,show ((13:Nat) == 10)=false from rfl,show ¬((10:Nat)=46) by exact Nat.ne_of_lt (lp [] [] (.add (.num 10) (.num 1)) (.num 46) rfl),show ((10:Nat) == 10)=true from rfl]
   rw [i2];rfl
  ·rw [if_neg h13,if_neg h13]
   by_cases h10:c=10
   ·rw [if_pos h10,if_pos h10]
    by_cases h2:st=2
    ·subst h2
     simp only [decide_true,if_true]
     exact i0
    ·rw [if_neg h2]
     simp only [h2,decide_false,Bool.false_eq_true,if_false,dst,show ¬((13:Nat)=46) by exact Nat.ne_of_lt (lp [] [] (.add (.num 13) (.num 1)) (.num 46) rfl),and_false,show ((13:Nat) == 10)=false from rfl,show ¬((10:Nat)=46) by exact Nat.ne_of_lt (lp [] [] (.add (.num 10) (.num 1)) (.num 46) rfl),show ((10:Nat) == 10)=true from rfl]
     rw [i0];rfl
   ·rw [if_neg h10,if_neg h10]
    by_cases h46:c=46
    ·rw [if_pos h46]
     subst h46
     by_cases h1:st=1
     ·subst h1
      simp only [dst]
      exact congrArg (List.cons 46) i1
     ·rw [if_neg h1]
      simp only [dst,ne_eq,h1,not_false_eq_true,decide_true,and_self,if_true]
      exact congrArg (fun z=>46::46::z) i1
    ·rw [if_neg h46]
     simp only [dst,h46,and_false,if_false]
     rw [show (c == 10)=false by simp [h10]]
     exact congrArg (List.cons c) i1
theorem quoted_eq (x:List Nat):quoted x=outQ 0 x:=quoted_run x 0 (lp [] [] (.add (.num 0) (.num 1)) (.num 3) rfl)
end Mine
namespace Mine
structure Rep (t:DS)(L:List Str):Prop where
 nodup:(t.map (·.1)).Nodup
 val:∀p∈t,p.2=(L.count p.1:Int)
 pos:∀p∈t,p.1∈L
 all:∀s∈L,∃v,(s,v)∈t
theorem Rep.nil:Rep [] []:=⟨nodup_nil,(fun _ h=>nomatch h),(fun _ h=>nomatch h),(fun _ h=>nomatch h)⟩
theorem Rep.perm {t:DS}{L L':List Str}(r:Rep t L)(p:L.Perm L'):Rep t L':=
 ⟨r.nodup,fun q hq=>by rw [r.val q hq,p.count_eq],fun q hq=>p.mem_iff.mp (r.pos q hq),fun s hs=>r.all s (p.mem_iff.mpr hs)⟩
theorem Rep.bump {t:DS}{L:List Str}(r:Rep t L)(k:Str)(n:Nat)(hn:0<n):Rep (bump t k n) (L++List.replicate n k):=by
 have hcount:∀s,(L++List.replicate n k).count s=L.count s+(if s=k then n else 0):=fun s=>by
  rw [count_append,count_replicate]
  by_cases h:s=k
  ·subst h;simp
  ·rw [if_neg h,if_neg (by simpa using fun e=>h e.symm)]
 refine⟨bump_nodup r.nodup k n,fun p hp=>?_,fun p hp=>?_,fun s hs=>?_⟩
 ·rw [hcount]
  unfold Mine.bump at hp
  split at hp
  ·obtain⟨q,hq,rfl⟩:=mem_map.mp hp
   have:=r.val q hq
   by_cases h:q.1=k
   ·rw [if_pos h,if_pos h];dsimp only;rw [this];push_cast;rfl
   ·rw [if_neg h,if_neg h];rw [this];simp
  ·rename_i hany
   rw [mem_append,mem_singleton] at hp
   rcases hp with hp|rfl
   ·have hk:p.1≠k:=fun e=>hany (any_eq_true.mpr ⟨p,hp,by simpa using e⟩)
    rw [if_neg hk,r.val p hp];simp
   ·rw [if_pos rfl]
    have:k∉L:=fun hk=>by
     obtain⟨v,hv⟩:=r.all k hk
     exact hany (any_eq_true.mpr ⟨_,hv,by simp⟩)
    rw [List.count_eq_zero_of_not_mem this];simp
 ·unfold Mine.bump at hp
  split at hp
  ·obtain⟨q,hq,rfl⟩:=mem_map.mp hp
   have:=r.pos q hq
   by_cases h:q.1=k
   ·rw [if_pos h];exact mem_append_left _ this
   ·rw [if_neg h];exact mem_append_left _ this
  ·rw [mem_append,mem_singleton] at hp
   rcases hp with hp|rfl
   ·exact mem_append_left _ (r.pos p hp)
   ·exact mem_append_right _ (List.mem_replicate.mpr ⟨Nat.ne_of_gt hn,rfl⟩)
 ·rw [mem_append,List.mem_replicate] at hs
  have old:∀v,(s,v)∈t→∃v',(s,v')∈Mine.bump t k n:=fun v hv=>by
   unfold Mine.bump
   split
   ·refine⟨if s=k then v+n else v,mem_map.mpr ⟨_,hv,?_⟩⟩
    by_cases h:s=k <;> simp [h]
   ·exact⟨v,mem_append_left _ hv⟩
  rcases hs with hs|⟨_,rfl⟩
  ·obtain⟨v,hv⟩:=r.all s hs
   exact old v hv
  ·by_cases h:s∈L
   ·obtain⟨v,hv⟩:=r.all s h
    exact old v hv
   ·unfold Mine.bump
    split
    ·rename_i hany
     obtain⟨e,he,hek⟩:=any_eq_true.mp hany
     have hek':e.1=s:=of_decide_eq_true hek
     exact absurd (hek'▸r.pos e he) h
    ·exact⟨_,mem_append_right _ (mem_singleton.mpr rfl)⟩
noncomputable def spread (u:DS):List Str:=u.flatMap fun p=>List.replicate p.2.toNat p.1
theorem spread_count_none:∀(u:DS)(s:Str),(∀p∈u,p.1≠s)→(spread u).count s=0
 | [],_,_=>rfl
 | p::u,s,h=>by
  show (List.replicate p.2.toNat p.1++spread u).count s=0
  rw [count_append,spread_count_none u s fun q hq=>h q (mem_cons_of_mem _ hq),count_replicate,if_neg (by simpa using h p mem_cons_self)]
theorem spread_count:∀(u:DS),(u.map (·.1)).Nodup→∀p∈u,(spread u).count p.1=p.2.toNat
 | [],_,p,hp=>nomatch hp
 | q::u,hd,p,hp=>by
  rw [map_cons,nodup_cons] at hd
  show (List.replicate q.2.toNat q.1++spread u).count p.1=_
  rw [count_append,count_replicate]
  rcases mem_cons.mp hp with rfl|hp
  ·rw [if_pos (by simp),spread_count_none u p.1 fun r hr e=>hd.1 (mem_map.mpr ⟨r,hr,e⟩)];simp
  ·have hne:q.1≠p.1:=fun e=>hd.1 (mem_map.mpr ⟨p,hp,e.symm⟩)
   rw [if_neg (by simpa using hne),spread_count u hd.2 p hp];simp
theorem Rep.spread {t:DS}{L:List Str}(r:Rep t L):(Mine.spread t).Perm L:=by
 rw [List.perm_iff_count]
 intro s
 by_cases h:s∈L
 ·obtain⟨v,hv⟩:=r.all s h
  rw [spread_count t r.nodup _ hv,r.val _ hv];simp
 ·rw [List.count_eq_zero_of_not_mem h,spread_count_none]
  intro p hp e
  exact h (e▸r.pos p hp)
theorem rep_fold:∀(u:DS)(t:DS)(L:List Str),Rep t L→(∀p∈u,0<p.2)→Rep (addD t u) (L++Mine.spread u)
 | [],t,L,r,_=>by show Rep t (L++[]);rw [append_nil];exact r
 | p::u,t,L,r,h=>by
  have hp:=h p mem_cons_self
  have e:p.2=(p.2.toNat:Int):=iT (Int.self_le_toNat _) ((cnT (lw [_] [(.add (.num 0) (.num 1),iA)] (.num 0) iA rfl hp)))
  have r1:=r.bump p.1 p.2.toNat (Int.ofNat_lt.1 (Int.le_trans hp (Int.self_le_toNat _)))
  rw [←e] at r1
  have:=rep_fold u _ _ r1 fun q hq=>h q (mem_cons_of_mem _ hq)
  show Rep (addD (Mine.bump t p.1 p.2) u) (L++(List.replicate p.2.toNat p.1++Mine.spread u))
  rw [←append_assoc];exact this
theorem Rep.posv {t:DS}{L:List Str}(r:Rep t L):∀p∈t,0<p.2:=fun p hp=>by
 rw [r.val p hp]
 have:=List.count_pos_iff.mpr (r.pos p hp)
 exact Int.ofNat_lt.2 ‹_›
theorem Rep.add {t u:DS}{L M:List Str}(r:Rep t L)(r':Rep u M):Rep (addD t u) (L++M):=
 (rep_fold u t L r r'.posv).perm (List.Perm.append_left _ r'.spread)
theorem Rep.one (s:Str):Rep [(s,1)] [s]:=by
 have:=Rep.nil.bump s 1 (lp [] [] (.add (.num 0) (.num 1)) (.num 1) rfl)
 exact this
end Mine
namespace Mine
theorem perm_flat {α β:Type}{l l':List α}(g:α→List β)(p:l.Perm l'):(l.flatMap g).Perm (l'.flatMap g):=by
 induction p with
 | nil=>exact List.Perm.refl _
 | cons x _ ih=>rw [flatMap_cons,flatMap_cons];exact List.Perm.append_left _ ih
 | swap x y l=>
  simp only [flatMap_cons]
  rw [←append_assoc,←append_assoc]
  exact List.Perm.append_right _ perm_append_comm
 | trans _ _ i1 i2=>exact i1.trans i2
theorem perm_flat2 {α β:Type}(l:List α){g g':α→List β}(p:∀a∈l,(g a).Perm (g' a)):(l.flatMap g).Perm (l.flatMap g'):=by
 induction l with
 | nil=>exact List.Perm.refl _
 | cons x l ih=>
  rw [flatMap_cons,flatMap_cons]
  exact (p x mem_cons_self).append (ih fun a ha=>p a (mem_cons_of_mem _ ha))
theorem copies_app (n:Nat)(a:Str)(X Y:List Str):((List.replicate n a).flatMap fun b=>(X++Y).map (b++·)).Perm (((List.replicate n a).flatMap fun b=>X.map (b++·))++((List.replicate n a).flatMap fun b=>Y.map (b++·))):=by
 induction n with
 | zero=>exact List.Perm.refl _
 | succ n ih=>
  rw [List.replicate_succ,flatMap_cons,flatMap_cons,flatMap_cons]
  refine (List.Perm.append_left _ ih).trans ?_
  rw [List.map_append]
  generalize (List.flatMap (fun b=>List.map (b++·) X) (List.replicate n a))=P
  generalize (List.flatMap (fun b=>List.map (b++·) Y) (List.replicate n a))=R
  generalize List.map (a++·) X=U
  generalize List.map (a++·) Y=V
  rw [append_assoc,append_assoc]
  refine List.Perm.append_left _ ?_
  rw [←append_assoc,←append_assoc]
  exact List.Perm.append_right _ perm_append_comm
theorem copies_rep (n j:Nat)(a b:Str):((List.replicate n a).flatMap fun c=>(List.replicate j b).map (c++·))=List.replicate (n*j) (a++b):=by
 induction n with
 | zero=>simp
 | succ n ih=>
  simp only [List.replicate_succ,flatMap_cons,List.map_replicate] at ih ⊢
  rw [ih,Nat.succ_mul,Nat.add_comm,List.replicate_append_replicate]
theorem spread_mul (n:Nat)(a:Str):∀f:DS,(∀q∈f,0<q.2)→(spread (f.map fun q=>(a++q.1,(n:Int)*q.2))).Perm ((List.replicate n a).flatMap fun b=>(spread f).map (b++·))
 | [],_=>by
  show ([]:List Str).Perm _
  have:((List.replicate n a).flatMap fun b=>([]:List Str).map (b++·))=[]:=by simp
  rw [show spread []=([]:List Str) from rfl,this]
 | q::f,h=>by
  have ih:=spread_mul n a f fun r hr=>h r (mem_cons_of_mem _ hr)
  have hq:=h q mem_cons_self
  show (List.replicate ((n:Int)*q.2).toNat (a++q.1)++spread (f.map fun q=>(a++q.1,(n:Int)*q.2))).Perm ((List.replicate n a).flatMap fun b=>(List.replicate q.2.toNat q.1++spread f).map (b++·))
  refine List.Perm.trans ?_ (copies_app n a _ _).symm
  rw [copies_rep]
  have e:((n:Int)*q.2).toNat=n*q.2.toNat:=by
   obtain⟨j,hj⟩:∃j:Nat,q.2=(j:Int):=⟨q.2.toNat,iT (Int.self_le_toNat _) ((cnT (lw [_] [(.add (.num 0) (.num 1),iA)] (.num 0) iA rfl hq)))⟩
   rw [hj,←Int.natCast_mul,Int.toNat_natCast,Int.toNat_natCast]
  rw [e]
  exact List.Perm.append_left _ ih
theorem Rep.row {m f:DS}{L M:List Str}(r:Rep m L)(r':Rep f M)(a:Str)(n:Nat)(hn:0<n):Rep (mulRow m (a,(n:Int)) f) (L++(List.replicate n a).flatMap fun b=>M.map (b++·)):=by
 have e:mulRow m (a,(n:Int)) f=addD m (f.map fun q=>(a++q.1,(n:Int)*q.2)):=by
  unfold mulRow addD
  rw [List.foldl_map];rfl
 rw [e]
 refine (rep_fold _ _ _ r fun p hp=>?_).perm (List.Perm.append_left _ ((spread_mul n a f r'.posv).trans ?_))
 ·obtain⟨q,hq,rfl⟩:=mem_map.mp hp
  exact Int.mul_pos (Int.ofNat_lt.2 ‹_›) (r'.posv q hq)
 ·exact perm_flat2 _ fun b _=>r'.spread.map _
theorem Rep.mul {t f:DS}{L M:List Str}(r:Rep t L)(r':Rep f M):Rep (mulD t f) (L.flatMap fun a=>M.map (a++·)):=by
 have go:∀(u:DS) (m:DS) (N:List Str),Rep m N→(∀p∈u,0<p.2)→Rep (u.foldl (fun m p=>mulRow m p f) m) (N++(Mine.spread u).flatMap fun a=>M.map (a++·)):=by
  intro u
  induction u with
  | nil=>intro m N rm _;show Rep m (N++[]);rw [append_nil];exact rm
  | cons p u ih=>
   intro m N rm hp
   have h0:=hp p mem_cons_self
   have e:p=(p.1,((p.2.toNat:Nat):Int)):=Prod.ext rfl (by show p.2=_;lia)
   have r1:=rm.row r' p.1 p.2.toNat (Int.ofNat_lt.1 (Int.le_trans h0 (Int.self_le_toNat _)))
   rw [←e] at r1
   have:=ih _ _ r1 fun q hq=>hp q (mem_cons_of_mem _ hq)
   rw [foldl_cons]
   show Rep _ (N++(List.replicate p.2.toNat p.1++Mine.spread u).flatMap _)
   rw [flatMap_append,←append_assoc];exact this
 have:=go t [] [] Rep.nil r.posv
 exact this.perm (perm_flat _ r.spread)
end Mine
namespace Mine
theorem str_nil:("" : Str)=⟨#[]⟩:=by rw [Str.ofString_eq_toList];rfl
theorem cat_cps (a b:Str):(a++b).cps.toList=a.cps.toList++b.cps.toList:=by
 show (a.cps++b.cps).toList=_;simp
theorem str_inj {a b:Str}(h:a.cps.toList=b.cps.toList):a=b:=by
 cases a;cases b;simp at h;rw [h]
theorem cat_nil (a:Str):a++(⟨#[]⟩:Str)=a:=str_inj (by rw [cat_cps];simp)
theorem len_list (a:Str):a.length=a.cps.toList.length:=by show a.cps.size=_;simp
theorem cat_len (a b:Str):(a++b).length=a.length+b.length:=by rw [len_list,cat_cps,length_append,←len_list,←len_list]
abbrev Lg:=Int→List Str
noncomputable def symL (sp:List (Int×Str))(F:Lg)(x:Int):List Str:=if x<256 then [(lookD sp x).getD ⟨#[]⟩] else F x
noncomputable def prodL (sp:List (Int×Str))(F:Lg)(body:List Int):List Str:=body.foldl (fun acc x=>acc.flatMap fun a=>(symL sp F x).map (a++·)) [⟨#[]⟩]
noncomputable def langStep (sp:List (Int×Str))(F:Lg)(r:List Int):Lg:=fun A=>if A=r.headD 0 then F A++prodL sp F (r.drop 1) else F A
noncomputable def lang (sp:List (Int×Str))(rules:List (List Int)):Lg:=rules.foldl (langStep sp) (fun _=>[])
theorem prodL_snoc (sp:List (Int×Str))(F:Lg)(body:List Int)(x:Int):prodL sp F (body++[x])=(prodL sp F body).flatMap fun a=>(symL sp F x).map (a++·):=by
 unfold prodL;rw [foldl_append];rfl
theorem prodL_nil (sp:List (Int×Str))(F:Lg):prodL sp F []=[⟨#[]⟩]:=rfl
theorem follow_rep {sp:List (Int×Str)}{T:List (Int×DS)}{F:Lg}(h:∀A,Rep ((lookD T A).getD []) (F A))(x:Int):Rep (followD sp T x) (symL sp F x):=by
 unfold followD symL
 by_cases hx:x<256
 ·rw [if_pos hx,if_pos hx];exact Rep.one _
 ·rw [if_neg hx,if_neg hx];exact h x
theorem rule_rep {sp:List (Int×Str)}{T:List (Int×DS)}{F:Lg}(h:∀A,Rep ((lookD T A).getD []) (F A))(body:List Int):Rep (ruleD sp T body) (prodL sp F body):=by
 unfold ruleD prodL
 rw [str_nil]
 generalize hi:([((⟨#[]⟩:Str),(1:Int))]:DS)=t
 generalize hj:[(⟨#[]⟩:Str)]=L
 have r:Rep t L:=by subst hi;subst hj;exact Rep.one _
 clear hi hj
 induction body generalizing t L with
 | nil=>exact r
 | cons x body ih=>
  rw [foldl_cons,foldl_cons]
  exact ih _ _ (r.mul (follow_rep h x))
theorem step_rep {sp:List (Int×Str)}{T:List (Int×DS)}{F:Lg}(h:∀A,Rep ((lookD T A).getD []) (F A))(r:List Int):∀A,Rep ((lookD (tabStep sp T r) A).getD []) (langStep sp F r A):=by
 intro A
 unfold tabStep langStep
 rw [lookD_put]
 by_cases hA:A=r.headD 0
 ·rw [if_pos hA,if_pos hA,Option.getD_some,hA]
  exact (h _).add (rule_rep h _)
 ·rw [if_neg hA,if_neg hA];exact h A
theorem tables_rep (sp:List (Int×Str))(rules:List (List Int)):∀A,Rep ((lookD (tablesOf sp rules) A).getD []) (lang sp rules A):=by
 unfold tablesOf lang
 generalize hi:([]:List (Int×DS))=T
 generalize hj:(fun _=>[]:Lg)=F
 have h:∀A,Rep ((lookD T A).getD []) (F A):=by subst hi;subst hj;intro A;exact Rep.nil
 clear hi hj
 induction rules generalizing T F with
 | nil=>exact h
 | cons r rules ih=>
  rw [foldl_cons,foldl_cons]
  exact ih _ _ (step_rep h r)
theorem tables_some (sp:List (Int×Str))(rules:List (List Int))(A:Int)(hA:∃r∈rules,r.headD 0=A):∃t,lookD (tablesOf sp rules) A=some t:=by
 unfold tablesOf
 generalize ([]:List (Int×DS))=T
 have keep:∀(rules:List (List Int)) (T:List (Int×DS)),(∃t,lookD T A=some t)→∃t,lookD (rules.foldl (tabStep sp) T) A=some t:=by
  intro rules
  induction rules with
  | nil=>intro T h;exact h
  | cons r rules ih=>
   intro T ⟨t,ht⟩
   rw [foldl_cons]
   refine ih _ ?_
   unfold tabStep
   rw [lookD_put]
   split
   ·exact⟨_,rfl⟩
   ·exact⟨t,ht⟩
 induction rules generalizing T with
 | nil=>obtain⟨r,hr,_⟩:=hA;exact nomatch hr
 | cons r rules ih=>
  rw [foldl_cons]
  obtain⟨q,hq,e⟩:=hA
  rcases mem_cons.mp hq with rfl|hq
  ·refine keep _ _ ?_
   unfold tabStep
   rw [lookD_put,if_pos e.symm]
   exact⟨_,rfl⟩
  ·exact ih ⟨q,hq,e⟩ _
theorem flat_congr {α β:Type}{l:List α}{g g':α→List β}(h:∀a∈l,g a=g' a):l.flatMap g=l.flatMap g':=by
 rw [List.flatMap_def,List.flatMap_def,map_congr_left h]
structure Falls (rules:List (List Int)):Prop where
 heads:rules.Pairwise (fun r r'=>r'.headD 0≤r.headD 0)
 body:∀r∈rules,∀x∈r.drop 1,x<256∨r.headD 0<x
theorem prodL_congr {sp:List (Int×Str)}{F G:Lg}{body:List Int}(h:∀x∈body,¬x<256→F x=G x):prodL sp F body=prodL sp G body:=by
 unfold prodL
 generalize [(⟨#[]⟩:Str)]=L
 induction body generalizing L with
 | nil=>rfl
 | cons x body ih=>
  rw [foldl_cons,foldl_cons]
  have e:symL sp F x=symL sp G x:=by
   unfold symL
   split
   ·rfl
   ·rename_i hx;exact h x mem_cons_self hx
  rw [e]
  exact ih (fun y hy=>h y (mem_cons_of_mem _ hy)) _
noncomputable def headIs (A:Int)(r:List Int):Bool:=decide (r.headD 0=A)
theorem lang_fix_go (sp:List (Int×Str)):∀(rest done:List (List Int))(F:Lg),Falls (done++rest)→(∀A,F A=(done.filter (headIs A)).flatMap fun r=>prodL sp F (r.drop 1))→
  ∀A,(rest.foldl (langStep sp) F) A=((done++rest).filter (headIs A)).flatMap fun r=>prodL sp (rest.foldl (langStep sp) F) (r.drop 1)
 | [],done,F,_,h=>by simpa using h
 | r::rest,done,F,hf,h=>by
  have hf':Falls ((done++[r])++rest):=by rw [append_assoc];exact hf
  have e:∀q∈done++[r],prodL sp (langStep sp F r) (q.drop 1)=prodL sp F (q.drop 1):=fun q hq=>by
   refine prodL_congr fun x hx hn=>?_
   unfold langStep
   rw [if_neg]
   have hb:=hf'.body q (mem_append_left _ hq) x hx
   have hle:r.headD 0≤q.headD 0:=by
    rcases mem_append.mp hq with hq|hq
    ·have:=hf.heads
     rw [pairwise_append] at this
     exact this.2.2 q hq r mem_cons_self
    ·rw [mem_singleton] at hq;rw [hq];exact Int.le_refl _
   lia
  have e2:∀A,(((done++[r]).filter (headIs A)).flatMap fun q=>prodL sp (langStep sp F r) (q.drop 1))=((done++[r]).filter (headIs A)).flatMap fun q=>prodL sp F (q.drop 1):=fun A=>by
   exact flat_congr fun q hq=>e q (mem_filter.mp hq).1
  have:=lang_fix_go sp rest (done++[r]) (langStep sp F r) hf' (fun A=>by
   rw [e2,filter_append,flatMap_append,←h A]
   unfold langStep
   by_cases hA:A=r.headD 0
   ·rw [if_pos hA]
    have:headIs A r=true:=by simp [headIs,hA]
    simp [filter_cons,this]
   ·rw [if_neg hA]
    have:headIs A r=false:=decide_eq_false fun q=>hA q.symm
    simp [filter_cons,this])
  rw [append_assoc] at this
  exact this
theorem lang_fix {sp:List (Int×Str)}{rules:List (List Int)}(hf:Falls rules)(A:Int):lang sp rules A=(rules.filter (headIs A)).flatMap fun r=>prodL sp (lang sp rules) (r.drop 1):=
 lang_fix_go sp rules [] (fun _=>[]) hf (fun _=>rfl) A
end Mine
namespace Mine
theorem snoc_ind {α:Type}{P:List α→Prop}(h0:P [])(hs:∀l x,P l→P (l++[x]))(l:List α):P l:=by
 have:∀l:List α,P l.reverse:=fun l=>by
  induction l with
  | nil=>exact h0
  | cons x l ih=>rw [List.reverse_cons];exact hs _ _ ih
 have:=this l.reverse
 rwa [List.reverse_reverse] at this
theorem flat_app {α β:Type}(m:List α)(f k:α→List β):(m.flatMap fun b=>f b++k b).Perm (m.flatMap f++m.flatMap k):=by
 induction m with
 | nil=>exact List.Perm.refl _
 | cons x m ih=>
  simp only [flatMap_cons]
  refine (List.Perm.append_left _ ih).trans ?_
  generalize f x=U
  generalize k x=V
  generalize m.flatMap f=P
  generalize m.flatMap k=R
  rw [append_assoc,append_assoc]
  refine List.Perm.append_left _ ?_
  rw [←append_assoc,←append_assoc]
  exact List.Perm.append_right _ perm_append_comm
theorem flat_swap {α β γ:Type}(l:List α)(m:List β)(g:α→β→List γ):(l.flatMap fun a=>m.flatMap fun b=>g a b).Perm (m.flatMap fun b=>l.flatMap fun a=>g a b):=by
 induction l with
 | nil=>simp
 | cons x l ih=>
  simp only [flatMap_cons]
  exact (List.Perm.append_left _ ih).trans (flat_app m (g x) fun b=>l.flatMap fun a=>g a b).symm
noncomputable def thr:List Int:=[0,1,2]
theorem thr_range:(List.range 3).map Int.ofNat=thr:=rfl
theorem mem_thr {e:Int}:e∈thr↔e=0∨e=1∨e=2:=by unfold thr;simp
noncomputable def idx (B st to:Int):Int:=256+9*(B - 256)+3*st+to
theorem thr_b {e:Int}(h:e∈thr):0≤e∧e≤2:=by rcases mem_thr.mp h with rfl|rfl|rfl <;> decide
theorem idx_ge {B s e:Int}(h:256≤B)(hs:s∈thr)(he:e∈thr):256≤idx B s e:=by
 have h1:=thr_b hs;have h2:=thr_b he;clear hs he;unfold idx;exact lz [_,_,_] [(9,.num 256,iA),(3,.num 0,iB),(1,.num 0,iC)] 1 (.num 256) (.add (.add (.add (.num 256) (.mulL 9 (.sub iA (.num 256)))) (.mulL 3 iB)) iC) rfl h h1.1 h2.1
theorem idx_lt {A B s e st to:Int}(h:A<B)(h1:s∈thr)(h2:e∈thr)(h3:st∈thr)(h4:to∈thr):idx A s e<idx B st to:=by
 replace h1:=thr_b h1;replace h2:=thr_b h2;replace h3:=thr_b h3;replace h4:=thr_b h4;unfold idx;exact lz [_,_,_,_,_,_] [(9,si iA,iB),(3,iC,.num 2),(1,iD,.num 2),(3,.num 0,iE),(1,.num 0,iF)] 1 (.add (.add (.add (.add (.num 256) (.mulL 9 (.sub iA (.num 256)))) (.mulL 3 iC)) iD) (.num 1)) (.add (.add (.add (.num 256) (.mulL 9 (.sub iB (.num 256)))) (.mulL 3 iE)) iF) rfl h h1.2 h2.2 h3.1 h4.1
noncomputable def endI (e:Int)(s:Str):Int:=(endQ e.toNat s.cps.toList:Int)
noncomputable def outI (e:Int)(s:Str):Str:=⟨(outQ e.toNat s.cps.toList).toArray⟩
theorem endI_thr {e:Int}(he:e∈thr)(s:Str):endI e s∈thr:=by
 rw [mem_thr] at he ⊢
 exact (by decide:∀n:Nat,n<3→((n:Int)=0∨(n:Int)=1∨(n:Int)=2)) _ (endQ_lt s.cps.toList e.toNat (by rcases he with rfl|rfl|rfl <;> decide))
theorem endI_cat (e:Int)(a b:Str):endI e (a++b)=endI (endI e a) b:=by
 unfold endI;rw [cat_cps,endQ_append,Int.toNat_natCast]
theorem outI_cat (e:Int)(a b:Str):outI e (a++b)=outI e a++outI (endI e a) b:=by
 refine str_inj ?_
 rw [cat_cps]
 unfold outI endI;rw [cat_cps,outQ_append,Int.toNat_natCast]
noncomputable def pairQ (e:Int)(a:Str):Int×Str:=(endI e a,outI e a)
theorem part_thr {α:Type}:∀R:List (Int×α),(∀p∈R,p.1∈thr)→(thr.flatMap fun to=>R.filter fun p=>decide (p.1=to)).Perm R
 | [],_=>by simp
 | p::R,h=>by
  have ih:=part_thr R fun q hq=>h q (mem_cons_of_mem _ hq)
  have hp:=h p mem_cons_self
  rw [mem_thr] at hp
  unfold thr at ih ⊢
  simp only [flatMap_cons,flatMap_nil,append_nil] at ih ⊢
  obtain⟨e,x⟩:=p
  rcases hp with rfl|rfl|rfl
  ·simp only [filter_cons,decide_true,if_true,show decide ((0:Int)=1)=false from rfl,show decide ((0:Int)=2)=false from rfl,Bool.false_eq_true,if_false]
   exact List.Perm.cons _ ih
  ·simp only [filter_cons,decide_true,if_true,show decide ((1:Int)=0)=false from rfl,show decide ((1:Int)=2)=false from rfl,Bool.false_eq_true,if_false]
   exact perm_middle.trans (List.Perm.cons _ ih)
  ·simp only [filter_cons,decide_true,if_true,show decide ((2:Int)=0)=false from rfl,show decide ((2:Int)=1)=false from rfl,Bool.false_eq_true,if_false]
   rw [←append_assoc] at ih ⊢
   exact perm_middle.trans (List.Perm.cons _ ih)
noncomputable def ext (sp:List (Int×Str))(G:Lg)(R:List Road):List (Int×Str):=R.flatMap fun p=>(prodL sp G p.2).map fun s=>(p.1,s)
noncomputable def Hy (spB:List (Int×Str))(F G:Lg)(B:Int):Prop:=∀e∈thr,(thr.flatMap fun to=>(G (idx B e to)).map fun s=>(to,s)).Perm ((F B).map (pairQ e))
noncomputable def spell (sp:List (Int×Str))(x:Int):Str:=(lookD sp x).getD ⟨#[]⟩
structure TrmOk (spB spM:List (Int×Str))(x:Int):Prop where
 small:x<256
 step:∀e∈thr,∀row,∃tl,stepRoad x (e,row)=[(endI e (spell spB x),row++tl)]∧(tl=[]∧outI e (spell spB x)=⟨#[]⟩∨∃y,tl=[y]∧y<256∧y≠0∧(∃z,lookD spM y=some z)∧spell spM y=outI e (spell spB x))
theorem roadsOf_snoc (st:Int)(body:List Int)(x:Int):roadsOf st (body++[x])=(roadsOf st body).flatMap (stepRoad x):=by
 unfold roadsOf;rw [foldl_append];rfl
theorem stepRoad_big {x:Int}(hx:¬x<256)(r:Road):stepRoad x r=thr.map fun to=>(to,r.2++[idx x r.1 to]):=by
 unfold stepRoad
 rw [if_pos (by exact lw [_] [(.num 256,iA)] (.add (.num 255) (.num 1)) iA rfl (Int.not_lt.1 hx)),thr_range];rfl
theorem ext_step {spB spM:List (Int×Str)}{F G:Lg}{x:Int}(h:TrmOk spB spM x∨(¬x<256∧Hy spB F G x))(p:Road)(hp:p.1∈thr) :
  (ext spM G (stepRoad x p)).Perm ((prodL spM G p.2).flatMap fun s=>(symL spB F x).map fun b=>(endI p.1 b,s++outI p.1 b)):=by
 obtain⟨e,row⟩:=p
 rcases h with h|⟨hx,H⟩
 ·obtain⟨tl,h1,h2⟩:=h.step e hp row
  rw [h1]
  have es:symL spB F x=[spell spB x]:=by unfold symL;rw [if_pos h.small];rfl
  rw [es]
  unfold ext
  rw [flatMap_cons,flatMap_nil,append_nil]
  dsimp only
  rcases h2 with ⟨rfl,h2⟩|⟨y,rfl,hy,_,_,h2⟩
  ·rw [append_nil,List.map_eq_flatMap]
   refine (List.Perm.of_eq ?_)
   refine flat_congr fun s _=>?_
   rw [map_cons,map_nil,h2,cat_nil]
  ·rw [prodL_snoc]
   have ey:symL spM G y=[spell spM y]:=by unfold symL;rw [if_pos hy];rfl
   rw [ey,map_flatMap,h2]
   exact List.Perm.of_eq rfl
 ·rw [stepRoad_big hx]
  unfold ext
  rw [flatMap_map]
  dsimp only
  have e1:(thr.flatMap fun to=>(prodL spM G (row++[idx x e to])).map fun s=>(to,s))=thr.flatMap fun to=>(prodL spM G row).flatMap fun s=>(G (idx x e to)).map fun b=>(to,s++b):=by
   refine flat_congr fun to hto=>?_
   rw [prodL_snoc,map_flatMap]
   have:symL spM G (idx x e to)=G (idx x e to):=by
    unfold symL;rw [if_neg]
    exact Int.not_lt.2 (idx_ge (Int.not_lt.1 hx) hp hto)
   rw [this]
   refine flat_congr fun s _=>?_
   rw [map_map];rfl
  rw [e1]
  refine (flat_swap _ _ _).trans (perm_flat2 _ fun s _=>?_)
  have e2:(thr.flatMap fun to=>(G (idx x e to)).map fun b=>(to,s++b))=(thr.flatMap fun to=>(G (idx x e to)).map fun b=>(to,b)).map fun q=>(q.1,s++q.2):=by
   rw [map_flatMap]
   refine flat_congr fun to _=>?_
   rw [map_map];rfl
  rw [e2]
  refine ((H e hp).map _).trans (List.Perm.of_eq ?_)
  rw [map_map]
  unfold symL;rw [if_neg hx];rfl
theorem roads_thr {spB spM:List (Int×Str)}{st:Int}(hst:st∈thr)(body:List Int):(∀x∈body,TrmOk spB spM x∨¬x<256)→∀p∈roadsOf st body,p.1∈thr:=by
 induction body using snoc_ind with
 | h0=>intro _ p hp;simp [roadsOf] at hp;subst hp;exact hst
 | hs l x ih=>
  intro h p hp
  rw [roadsOf_snoc] at hp
  obtain⟨q,hq,hp⟩:=mem_flatMap.mp hp
  have hq':=ih (fun y hy=>h y (mem_append_left _ hy)) q hq
  rcases h x (mem_append_right _ (mem_singleton.mpr rfl)) with hx|hx
  ·obtain⟨tl,h1,_⟩:=hx.step q.1 hq' q.2
   rw [show stepRoad x q=_ from h1,mem_singleton] at hp
   rw [hp];exact endI_thr hq' _
  ·rw [stepRoad_big hx,mem_map] at hp
   obtain⟨to,hto,rfl⟩:=hp
   exact hto
theorem roads_ext {spB spM:List (Int×Str)}{F G:Lg}{st:Int}(hst:st∈thr)(body:List Int):(∀x∈body,TrmOk spB spM x∨(¬x<256∧Hy spB F G x))→
  (ext spM G (roadsOf st body)).Perm ((prodL spB F body).map (pairQ st)):=by
 induction body using snoc_ind with
 | h0=>
  intro _
  refine List.Perm.of_eq ?_
  show [(st,(⟨#[]⟩:Str))]=[(endI st ⟨#[]⟩,outI st ⟨#[]⟩)]
  have:endI st ⟨#[]⟩=st:=by
   rw [mem_thr] at hst
   rcases hst with rfl|rfl|rfl <;> rfl
  rw [this];rfl
 | hs l x ih=>
  intro h
  have hl:=fun y hy=>h y (mem_append_left [x] hy)
  have hx:=h x (mem_append_right _ (mem_singleton.mpr rfl))
  have i:=ih hl
  rw [roadsOf_snoc]
  have e1:ext spM G ((roadsOf st l).flatMap (stepRoad x))=(roadsOf st l).flatMap fun p=>ext spM G (stepRoad x p):=by
   unfold ext;rw [flatMap_assoc]
  rw [e1]
  refine (perm_flat2 _ fun p hp=>ext_step hx p (roads_thr hst l (fun y hy=>(hl y hy).imp id And.left) p hp)).trans ?_
  have e2:((roadsOf st l).flatMap fun p=>(prodL spM G p.2).flatMap fun s=>(symL spB F x).map fun b=>(endI p.1 b,s++outI p.1 b))=(ext spM G (roadsOf st l)).flatMap fun q=>(symL spB F x).map fun b=>(endI q.1 b,q.2++outI q.1 b):=by
   unfold ext
   rw [flatMap_assoc]
   refine flat_congr fun p _=>?_
   rw [flatMap_map]
  rw [e2]
  refine (perm_flat _ i).trans (List.Perm.of_eq ?_)
  rw [flatMap_map,prodL_snoc,map_flatMap]
  refine flat_congr fun a _=>?_
  rw [map_map]
  refine map_congr_left fun b _=>?_
  show (endI (endI st a) b,outI st a++outI (endI st a) b)=(endI st (a++b),outI st (a++b))
  rw [endI_cat,outI_cat]
end Mine
namespace Mine
theorem split_row:∀(row:List Int)(P:List (List Int))(cur:List Int),(∀x∈row,x≠0)→row.foldl splitStep (P,cur)=(P,cur++row)
 | [],P,cur,_=>by simp
 | x::row,P,cur,h=>by
  have hx:=h x mem_cons_self
  have:splitStep (P,cur) x=(P,cur++[x]):=by unfold splitStep;rw [if_neg (by simpa using hx)]
  rw [foldl_cons,this,split_row row P _ fun y hy=>h y (mem_cons_of_mem _ hy)]
  simp
theorem split_rows:∀(rows:List (List Int))(P:List (List Int)),(∀r∈rows,∀x∈r,x≠0)→(rows.flatMap (·++[0])).foldl splitStep (P,[])=(P++rows,[])
 | [],P,_=>by simp
 | r::rows,P,h=>by
  rw [flatMap_cons,foldl_append,foldl_append,split_row r P [] (h r mem_cons_self)]
  have:List.foldl splitStep (P,[]++r) [0]=(P++[r],[]):=rfl
  rw [this,split_rows rows _ fun q hq=>h q (mem_cons_of_mem _ hq)]
  simp
theorem split_all (rows:List (List Int))(h:∀r∈rows,∀x∈r,x≠0):splitZ (rows.flatMap (·++[0]))=(rows,[]):=split_rows rows [] h
noncomputable def sendRows (r:List Int):List (List Int):=(startsOf (r.headD 0)).flatMap fun st=>(roadsOf st (r.drop 1)).map fun p=>idx (r.headD 0) st p.1::p.2
theorem sends_rows (rules:List (List Int)):sendsOf rules=(rules.flatMap sendRows).flatMap (·++[0]):=by
 unfold sendsOf
 rw [flatMap_assoc]
 refine flat_congr fun r _=>?_
 unfold sendRule sendRows
 rw [flatMap_assoc]
 refine flat_congr fun st _=>?_
 rw [flatMap_map]
 refine flat_congr fun p _=>?_
 unfold sendRow idx
 simp
theorem starts_thr {A st:Int}(h:st∈startsOf A):st∈thr:=by
 unfold startsOf at h
 split at h
 ·exact h
 ·rw [mem_thr];left;simpa using h
theorem starts_nd (A:Int):(startsOf A).Nodup:=by
 unfold startsOf
 split <;> decide
theorem roads_row {spB spM:List (Int×Str)}{st:Int}(hst:st∈thr)(body:List Int):(∀x∈body,TrmOk spB spM x∨¬x<256)→∀p∈roadsOf st body,∀y∈p.2,
  (y<256∧y≠0∧∃z,lookD spM y=some z)∨∃x∈body,∃e∈thr,∃to∈thr,¬x<256∧y=idx x e to:=by
 induction body using snoc_ind with
 | h0=>intro _ p hp;simp [roadsOf] at hp;subst hp;intro y hy;exact nomatch hy
 | hs l x ih=>
  intro h p hp y hy
  rw [roadsOf_snoc] at hp
  obtain⟨q,hq,hp⟩:=mem_flatMap.mp hp
  have hl:=fun y hy=>h y (mem_append_left [x] hy)
  have old:∀y∈q.2,(y<256∧y≠0∧∃z,lookD spM y=some z)∨∃x_1∈l++[x],∃e∈thr,∃to∈thr,¬x_1<256∧y=idx x_1 e to:=fun y hy=>
   (ih hl q hq y hy).imp id fun⟨x,hx,r⟩=>⟨x,mem_append_left _ hx,r⟩
  have hq':=roads_thr hst l hl q hq
  rcases h x (mem_append_right _ (mem_singleton.mpr rfl)) with hx|hx
  ·obtain⟨tl,h1,h2⟩:=hx.step q.1 hq' q.2
   rw [show stepRoad x q=_ from h1,mem_singleton] at hp
   subst hp
   rcases mem_append.mp hy with hy|hy
   ·exact old y hy
   ·rcases h2 with ⟨rfl,_⟩|⟨z,rfl,h3,h4,h5,_⟩
    ·exact nomatch hy
    ·rw [mem_singleton] at hy;subst hy;exact .inl ⟨h3,h4,h5⟩
  ·rw [stepRoad_big hx,mem_map] at hp
   obtain⟨to,hto,rfl⟩:=hp
   rcases mem_append.mp hy with hy|hy
   ·exact old y hy
   ·rw [mem_singleton] at hy
    exact .inr ⟨x,mem_append_right _ (mem_singleton.mpr rfl),q.1,hq',to,hto,hx,hy⟩
theorem roads_len (st:Int)(body:List Int)(hb:body.length≤2):(∀r∈roadsOf st body,r.2.length≤2):=by
 have:=roads_bound 0 body [(st,[])] 0 (by simp)
 intro r hr
 have:=this.2 r hr
 exact lp [_,_] [(zA,.num 2),(zB,.add (.num 0) zA)] zB (.num 2) rfl hb this
theorem dig3 {a b x y:Int}(h:3*a+x=3*b+y)(h0:0≤x∧x≤2)(h1:0≤y∧y≤2):a=b∧x=y:=by
 have e:a=b:=iT (Int.not_lt.1 fun q=>cnF (lz [_,_,_,_] [(1,.add (.mulL 3 iA) iB,.add (.mulL 3 iC) iD),(1,.num 0,iB),(1,iD,.num 2),(3,si iC,iA)] 0 (.num 1) (.num 0) rfl (iqL h) h0.1 h1.2 q)) (Int.not_lt.1 fun q=>cnF (lz [_,_,_,_] [(1,.add (.mulL 3 iA) iB,.add (.mulL 3 iC) iD),(1,iD,.num 2),(1,.num 0,iB),(3,si iC,iA)] 0 (.num 1) (.num 0) rfl (iqR h) h0.2 h1.1 q))
 exact⟨e,iT (lz [_,_,_,_] [(1,.add (.mulL 3 iA) iB,.add (.mulL 3 iC) iD),(3,iC,iA)] 1 iB iD rfl (iqL h) (iqR e)) (lz [_,_,_,_] [(1,.add (.mulL 3 iA) iB,.add (.mulL 3 iC) iD),(3,iC,iA)] 1 iB iD rfl (iqR h) (iqL e))⟩
theorem idx_inj {A B s e st to:Int}(h1:s∈thr)(h2:e∈thr)(h3:st∈thr)(h4:to∈thr)(h:idx B s e=idx A st to):B=A∧s=st∧e=to:=by
 have e0:B=A:=iT (Int.not_lt.1 fun q=>Int.lt_irrefl _ (h▸idx_lt q h3 h4 h1 h2)) (Int.not_lt.1 fun q=>Int.lt_irrefl _ (h▸idx_lt q h1 h2 h3 h4))
 subst e0
 exact⟨rfl,dig3 (Int.add_left_cancel (by unfold idx at h;rw [Int.add_assoc,Int.add_assoc _ (3*st)] at h;exact h)) (thr_b h2) (thr_b h4)⟩
theorem flat_one {α β:Type}{l:List α}{a:α}{g:α→List β}(hd:l.Nodup)(ha:a∈l)(h:∀b∈l,b≠a→g b=[]):l.flatMap g=g a:=by
 induction l with
 | nil=>exact nomatch ha
 | cons x l ih=>
  rw [nodup_cons] at hd
  rw [flatMap_cons]
  rcases mem_cons.mp ha with rfl|ha
  ·have:l.flatMap g=[]:=by
    rw [flatMap_eq_nil_iff]
    exact fun b hb=>h b (mem_cons_of_mem _ hb) fun e=>hd.1 (e▸hb)
   rw [this,append_nil]
  ·rw [h x mem_cons_self fun e=>hd.1 (e▸ha),nil_append]
   exact ih hd.2 ha fun b hb=>h b (mem_cons_of_mem _ hb)
theorem rows_pick {spB spM:List (Int×Str)}{G:Lg}{r:List Int}{A st to:Int}(hb:∀x∈r.drop 1,TrmOk spB spM x∨¬x<256)(hst:st∈startsOf A)(hto:to∈thr) :
  (((sendRows r).filter (headIs (idx A st to))).flatMap fun q=>prodL spM G (q.drop 1))=if r.headD 0=A then ((roadsOf st (r.drop 1)).filter fun p=>decide (p.1=to)).flatMap fun p=>prodL spM G p.2 else []:=by
 unfold sendRows
 rw [filter_flatMap,flatMap_assoc]
 have e1:∀st'∈startsOf (r.headD 0),((((roadsOf st' (r.drop 1)).map fun p=>idx (r.headD 0) st' p.1::p.2).filter (headIs (idx A st to))).flatMap fun q=>prodL spM G (q.drop 1))=if r.headD 0=A∧st'=st then ((roadsOf st (r.drop 1)).filter fun p=>decide (p.1=to)).flatMap fun p=>prodL spM G p.2 else []:=fun st' hst'=>by
  rw [filter_map,flatMap_map]
  by_cases h:r.headD 0=A∧st'=st
  ·rw [if_pos h,h.2]
   have e:(roadsOf st (r.drop 1)).filter (headIs (idx A st to) ∘ fun p=>idx (r.headD 0) st p.1::p.2)=(roadsOf st (r.drop 1)).filter fun p=>decide (p.1=to):=by
    refine List.filter_congr fun p _=>?_
    show decide (idx (r.headD 0) st p.1=idx A st to)=decide (p.1=to)
    rw [h.1]
    exact decide_eq_decide.mpr (Int.add_right_inj _)
   rw [e];rfl
  ·rw [if_neg h]
   have e:(roadsOf st' (r.drop 1)).filter (headIs (idx A st to) ∘ fun p=>idx (r.headD 0) st' p.1::p.2)=[]:=by
    rw [filter_eq_nil_iff]
    intro p hp q
    have hp':=roads_thr (starts_thr hst') _ hb p hp
    have q':idx (r.headD 0) st' p.1=idx A st to:=of_decide_eq_true q
    have:=idx_inj (starts_thr hst') hp' (starts_thr hst) hto q'
    exact h ⟨this.1,this.2.1⟩
   rw [e];rfl
 rw [flat_congr e1]
 by_cases hA:r.headD 0=A
 ·rw [if_pos hA,hA]
  rw [flat_one (starts_nd A) hst fun b _ hn=>if_neg fun q=>hn q.2]
  rw [if_pos ⟨rfl,rfl⟩]
 ·rw [if_neg hA,flatMap_eq_nil_iff]
  exact fun b _=>if_neg fun q=>hA q.1
theorem hy_at {spB spM:List (Int×Str)}{rules sender:List (List Int)}{A:Int}(hf:Falls rules)(hfs:Falls sender)(hp:sender.Perm (rules.flatMap sendRows))
  (hb':∀r∈rules,∀x∈r.drop 1,TrmOk spB spM x∨¬x<256) (hb:∀r∈rules,r.headD 0=A→∀x∈r.drop 1,¬x<256→Hy spB (lang spB rules) (lang spM sender) x) :
  ∀e∈startsOf A,(thr.flatMap fun to=>(lang spM sender (idx A e to)).map fun s=>(to,s)).Perm ((lang spB rules A).map (pairQ e)):=by
 intro st hst
 generalize hG:lang spM sender=G at hb ⊢
 have e1:∀to∈thr,(G (idx A st to)).Perm (rules.flatMap fun r=>if r.headD 0=A then ((roadsOf st (r.drop 1)).filter fun p=>decide (p.1=to)).flatMap fun p=>prodL spM G p.2 else []):=fun to hto=>by
  have:=lang_fix (sp:=spM) hfs (idx A st to)
  rw [hG] at this
  rw [this]
  refine (perm_flat _ (hp.filter _)).trans (List.Perm.of_eq ?_)
  rw [filter_flatMap,flatMap_assoc]
  exact flat_congr fun r hr=>rows_pick (hb' r hr) hst hto
 refine (perm_flat2 _ fun to hto=>(e1 to hto).map fun s=>(to,s)).trans ?_
 have e2:(thr.flatMap fun to=>(rules.flatMap fun r=>if r.headD 0=A then ((roadsOf st (r.drop 1)).filter fun p=>decide (p.1=to)).flatMap fun p=>prodL spM G p.2 else []).map fun s=>(to,s))=
   thr.flatMap fun to=>rules.flatMap fun r=>if r.headD 0=A then ((roadsOf st (r.drop 1)).filter fun p=>decide (p.1=to)).flatMap fun p=>(prodL spM G p.2).map fun s=>(p.1,s) else []:=by
  refine flat_congr fun to _=>?_
  rw [map_flatMap]
  refine flat_congr fun r _=>?_
  split
  ·rw [map_flatMap]
   refine flat_congr fun p hp=>?_
   rw [of_decide_eq_true (mem_filter.mp hp).2]
  ·rfl
 rw [e2]
 refine (flat_swap _ _ _).trans ?_
 rw [lang_fix hf A]
 have e3:(((rules.filter (headIs A)).flatMap fun r=>prodL spB (lang spB rules) (r.drop 1)).map (pairQ st))=rules.flatMap fun r=>if r.headD 0=A then (prodL spB (lang spB rules) (r.drop 1)).map (pairQ st) else []:=by
  rw [map_flatMap]
  clear e1 e2 hb hb' hp hf
  generalize lang spB rules=F
  induction rules with
  | nil=>rfl
  | cons r rules ih=>
   rw [flatMap_cons,filter_cons]
   by_cases h:r.headD 0=A
   ·have h':headIs A r=true:=decide_eq_true h
    rw [if_pos h',flatMap_cons,ih,if_pos h]
   ·have h':¬headIs A r=true:=fun q=>h (of_decide_eq_true q)
    rw [if_neg h',ih,if_neg h,nil_append]
 rw [e3]
 refine perm_flat2 _ fun r hr=>?_
 by_cases h:r.headD 0=A
 ·simp only [if_pos h]
  have hx:∀x∈r.drop 1,TrmOk spB spM x∨(¬x<256∧Hy spB (lang spB rules) G x):=fun x hx=>by
   rcases hb' r hr x hx with q|q
   ·exact .inl q
   ·exact .inr ⟨q,hb r hr h x hx q⟩
  refine List.Perm.trans ?_ (roads_ext (starts_thr hst) _ hx)
  rw [←flatMap_assoc]
  exact perm_flat _ (part_thr _ fun p hp=>roads_thr (starts_thr hst) _ (hb' r hr) p hp)
 ·simp only [if_neg h]
  rw [flatMap_eq_nil_iff.mpr fun _ _=>rfl]
end Mine
namespace Mine
structure Wd (other:Int)(word:Str):Prop where
 lo:7≤other
 hi:other<200
 n23:other≠23
 n52:other≠52
 n63:other≠63
 ne:word.cps.toList≠[]
 in_:∀c∈word.cps.toList,c≠13∧c≠10∧c≠46
 size:word.length≤4
noncomputable def bareM (other:Int)(word:Str):List (Int×Str):=[(other,word),(4,⟨#[10]⟩),(63,⟨#[13]⟩),(23,⟨#[46]⟩),(52,⟨#[46,46,46]⟩)]
noncomputable def markM (other:Int)(word:Str):List (Int×Str):=[(other,word),(4,⟨#[13,10]⟩),(23,⟨#[46]⟩),(223,⟨#[46,46]⟩),(52,⟨#[46,46,46]⟩),(252,⟨#[46,46,46,46]⟩)]
structure Gram (other:Int)(rules:List (List Int)):Prop where
 falls:rules.Pairwise (fun r r'=>r'.headD 0≤r.headD 0)
 row:∀r∈rules,r≠[]∧r.length≤3∧(r.headD 0=256∨r.headD 0=257∨r.headD 0=258)∧∀x∈r.drop 1,x=other∨x=4∨x=63∨x=23∨x=52∨(r.headD 0<x∧(x=257∨x=258))
 two:∀A,A=256∨A=257∨A=258→(rules.filter (headIs A)).length=2
 all:rules.length=6
theorem plain_word:∀(w:List Nat)(e:Nat),(∀c∈w,c≠13∧c≠10∧c≠46)→outQ e w=w∧(w≠[]→endQ e w=1)
 | [],_,_=>⟨rfl,fun h=>absurd rfl h⟩
 | c::w,e,h=>by
  have hc:=h c mem_cons_self
  have es:stepQ e c=([c],1):=by unfold stepQ;rw [if_neg hc.1,if_neg hc.2.1,if_neg hc.2.2]
  have ih:=plain_word w 1 fun d hd=>h d (mem_cons_of_mem _ hd)
  refine⟨?_,fun _=>?_⟩
  ·show (stepQ e c).1++outQ (stepQ e c).2 w=_
   rw [es];show [c]++outQ 1 w=_;rw [ih.1];rfl
  ·show endQ (stepQ e c).2 w=1
   rw [es]
   cases w with
   | nil=>rfl
   | cons d w=>exact ih.2 (by simp)
section
variable {other:Int}{word:Str}(W:Wd other word)
theorem look_hit {T:List (Int×Str)}{k:Int}{a:Str}:lookD ((k,a)::T) k=some a:=by unfold lookD;simp
theorem look_miss {T:List (Int×Str)}{k j:Int}{a:Str}(h:k≠j):lookD ((k,a)::T) j=lookD T j:=by
 unfold lookD;rw [find?_cons_of_neg (by simpa using h)]
include W
theorem bare_other:spell (bareM other word) other=word:=by unfold spell bareM;rw [look_hit];rfl
theorem bare_4:spell (bareM other word) 4=⟨#[10]⟩:=by have:=W.lo;unfold spell bareM;rw [look_miss (by exact Int.ne_of_gt (lw [_] [(.num 7,iA)] (.add (.num 4) (.num 1)) iA rfl this)),look_hit];rfl
theorem bare_63:spell (bareM other word) 63=⟨#[13]⟩:=by have:=W.n63;unfold spell bareM;rw [look_miss (by assumption),look_miss (by decide),look_hit];rfl
theorem bare_23:spell (bareM other word) 23=⟨#[46]⟩:=by have:=W.n23;unfold spell bareM;rw [look_miss (by assumption),look_miss (by decide),look_miss (by decide),look_hit];rfl
theorem bare_52:spell (bareM other word) 52=⟨#[46,46,46]⟩:=by have:=W.n52;unfold spell bareM;rw [look_miss (by assumption),look_miss (by decide),look_miss (by decide),look_miss (by decide),look_hit];rfl
theorem mark_other:lookD (markM other word) other=some word:=by unfold markM;rw [look_hit]
theorem mark_4:lookD (markM other word) 4=some ⟨#[13,10]⟩:=by have:=W.lo;unfold markM;rw [look_miss (by exact Int.ne_of_gt (lw [_] [(.num 7,iA)] (.add (.num 4) (.num 1)) iA rfl this)),look_hit]
theorem mark_23:lookD (markM other word) 23=some ⟨#[46]⟩:=by have:=W.n23;unfold markM;rw [look_miss (by assumption),look_miss (by decide),look_hit]
theorem mark_223:lookD (markM other word) 223=some ⟨#[46,46]⟩:=by have:=W.hi;unfold markM;rw [look_miss (by exact Int.ne_of_lt (lw [_] [(si iA,.num 200)] (si iA) (.num 223) rfl this)),look_miss (by decide),look_miss (by decide),look_hit]
theorem mark_52:lookD (markM other word) 52=some ⟨#[46,46,46]⟩:=by have:=W.n52;unfold markM;rw [look_miss (by assumption),look_miss (by decide),look_miss (by decide),look_miss (by decide),look_hit]
theorem mark_252:lookD (markM other word) 252=some ⟨#[46,46,46,46]⟩:=by have:=W.hi;unfold markM;rw [look_miss (by exact Int.ne_of_lt (lw [_] [(si iA,.num 200)] (si iA) (.num 252) rfl this)),look_miss (by decide),look_miss (by decide),look_miss (by decide),look_miss (by decide),look_hit]
theorem trm_other:TrmOk (bareM other word) (markM other word) other:=by
 have h1:=W.lo;have h2:=W.hi
 refine⟨lw [_] [(si iA,.num 200)] (si iA) (.num 256) rfl h2,fun e _ row=>⟨[other],?_,.inr ⟨other,rfl,lw [_] [(si iA,.num 200)] (si iA) (.num 256) rfl h2,Int.ne_of_gt (lw [_] [(.num 7,iA)] (.add (.num 0) (.num 1)) iA rfl h1),⟨_,mark_other W⟩,?_⟩⟩⟩
 ·unfold stepRoad
  rw [if_neg (by exact Int.not_lt.2 (lw [_] [(si iA,.num 200)] iA (.num 255) rfl h2)),if_neg (by have:=W.n63;lia),bare_other W]
  have:endI e word=1:=by unfold endI;rw [(plain_word _ _ W.in_).2 W.ne];rfl
  rw [this,if_neg (by have:=W.n23;have:=W.n52;lia)]
 ·rw [bare_other W]
  unfold spell;rw [mark_other W]
  unfold outI;rw [(plain_word _ _ W.in_).1];rfl
theorem trm_4:TrmOk (bareM other word) (markM other word) 4:=by
 refine⟨by decide,fun e he row=>?_⟩
 rw [bare_4 W]
 have s0:spell (markM other word) 4=⟨#[13,10]⟩:=by unfold spell;rw [mark_4 W];rfl
 rw [mem_thr] at he
 rcases he with rfl|rfl|rfl
 ·exact⟨[4],rfl,.inr ⟨4,rfl,by decide,by decide,⟨_,mark_4 W⟩,s0⟩⟩
 ·exact⟨[4],rfl,.inr ⟨4,rfl,by decide,by decide,⟨_,mark_4 W⟩,s0⟩⟩
 ·refine⟨[],?_,.inl ⟨rfl,rfl⟩⟩
  rw [append_nil];rfl
theorem trm_63:TrmOk (bareM other word) (markM other word) 63:=by
 refine⟨by decide,fun e he row=>?_⟩
 rw [bare_63 W]
 have s0:spell (markM other word) 4=⟨#[13,10]⟩:=by unfold spell;rw [mark_4 W];rfl
 rw [mem_thr] at he
 rcases he with rfl|rfl|rfl <;> exact⟨[4],rfl,.inr ⟨4,rfl,by decide,by decide,⟨_,mark_4 W⟩,s0⟩⟩
theorem trm_23:TrmOk (bareM other word) (markM other word) 23:=by
 refine⟨by decide,fun e he row=>?_⟩
 rw [bare_23 W]
 have s0:spell (markM other word) 23=⟨#[46]⟩:=by unfold spell;rw [mark_23 W];rfl
 have s1:spell (markM other word) 223=⟨#[46,46]⟩:=by unfold spell;rw [mark_223 W];rfl
 rw [mem_thr] at he
 rcases he with rfl|rfl|rfl
 ·exact⟨[223],rfl,.inr ⟨223,rfl,by decide,by decide,⟨_,mark_223 W⟩,s1⟩⟩
 ·exact⟨[23],rfl,.inr ⟨23,rfl,by decide,by decide,⟨_,mark_23 W⟩,s0⟩⟩
 ·exact⟨[223],rfl,.inr ⟨223,rfl,by decide,by decide,⟨_,mark_223 W⟩,s1⟩⟩
theorem trm_52:TrmOk (bareM other word) (markM other word) 52:=by
 refine⟨by decide,fun e he row=>?_⟩
 rw [bare_52 W]
 have s0:spell (markM other word) 52=⟨#[46,46,46]⟩:=by unfold spell;rw [mark_52 W];rfl
 have s1:spell (markM other word) 252=⟨#[46,46,46,46]⟩:=by unfold spell;rw [mark_252 W];rfl
 rw [mem_thr] at he
 rcases he with rfl|rfl|rfl
 ·exact⟨[252],rfl,.inr ⟨252,rfl,by decide,by decide,⟨_,mark_252 W⟩,s1⟩⟩
 ·exact⟨[52],rfl,.inr ⟨52,rfl,by decide,by decide,⟨_,mark_52 W⟩,s0⟩⟩
 ·exact⟨[252],rfl,.inr ⟨252,rfl,by decide,by decide,⟨_,mark_252 W⟩,s1⟩⟩
theorem Gram.big {rules:List (List Int)}(g:Gram other rules)(r:List Int)(hr:r∈rules):256≤r.headD 0:=by
 rcases (g.row r hr).2.2.1 with h|h|h <;> rw [h] <;> decide
theorem trm_of {rules:List (List Int)}(g:Gram other rules){r:List Int}(hr:r∈rules){x:Int}(hx:x∈r.drop 1):TrmOk (bareM other word) (markM other word) x∨(¬x<256∧r.headD 0<x∧(x=257∨x=258)):=by
 rcases (g.row r hr).2.2.2 x hx with rfl|rfl|rfl|rfl|rfl|⟨h1,h2⟩
 ·exact .inl (trm_other W)
 ·exact .inl (trm_4 W)
 ·exact .inl (trm_63 W)
 ·exact .inl (trm_23 W)
 ·exact .inl (trm_52 W)
 ·exact .inr ⟨by lia,h1,h2⟩
end
theorem Gram.isFalls {other:Int}{word:Str}(W:Wd other word){rules:List (List Int)}(g:Gram other rules):Falls rules:=
 ⟨g.falls,fun r hr x hx=>by
  rcases trm_of W g hr hx with h|h
  ·exact .inl h.small
  ·exact .inr h.2.1⟩
theorem head_falls {x y:List Int}(hx:x≠[])(hy:y≠[])(h:¬x<y):y.headD 0≤x.headD 0:=by
 cases x with
 | nil=>exact absurd rfl hx
 | cons a x=>
  cases y with
  | nil=>exact absurd rfl hy
  | cons b y=>
   show b≤a
   refine Int.not_lt.mp fun q=>h ?_
   exact List.Lex.rel q
structure Sends (rules sender:List (List Int)):Prop where
 perm:sender.Perm (rules.flatMap sendRows)
 falls:sender.Pairwise (fun x y=>¬x<y)
theorem send_row {other:Int}{word:Str}(W:Wd other word){rules:List (List Int)}(g:Gram other rules){q:List Int}(hq:q∈rules.flatMap sendRows) :
  ∃r∈rules,∃st∈startsOf (r.headD 0),∃e∈thr,q.headD 0=idx (r.headD 0) st e∧q≠[]∧q.length≤3∧∀y∈q.drop 1,
   (y<256∧y≠0∧∃z,lookD (markM other word) y=some z)∨(q.headD 0<y∧∃B,(B=257∨B=258)∧∃e∈thr,∃to∈thr,y=idx B e to):=by
 obtain⟨r,hr,hq⟩:=mem_flatMap.mp hq
 unfold sendRows at hq
 obtain⟨st,hst,hq⟩:=mem_flatMap.mp hq
 obtain⟨p,hp,rfl⟩:=mem_map.mp hq
 have hb:∀x∈r.drop 1,TrmOk (bareM other word) (markM other word) x∨¬x<256:=fun x hx=>(trm_of W g hr hx).imp id And.left
 have hp1:=roads_thr (starts_thr hst) _ hb p hp
 refine⟨r,hr,st,hst,p.1,hp1,rfl,cons_ne_nil _ _,?_,fun y hy=>?_⟩
 ·have:=roads_len st (r.drop 1) (by rw [length_drop];have:=(g.row r hr).2.1;exact (Nat.le_total 1 (List.length r)).elim (fun hq2=>lp [_,_] [(zA,.num 3),(su zB,zA)] zB (.num 2) rfl this (sbB _ _ hq2)) (fun hq2=>lp [_] [(zA,.num 0)] zA (.num 2) rfl (sbC _ _ hq2))) p hp
  rw [length_cons];exact lp [_] [(zA,.num 2)] (su zA) (.num 3) rfl this
 ·rcases roads_row (starts_thr hst) _ hb p hp y hy with h|⟨x,hx,e,he,to,hto,hn,rfl⟩
  ·exact .inl h
  ·rcases trm_of W g hr hx with h|⟨_,h2,h3⟩
   ·exact absurd h.small hn
   ·refine .inr ⟨?_,x,h3,e,he,to,hto,rfl⟩
    show idx (r.headD 0) st p.1<idx x e to
    exact idx_lt h2 (starts_thr hst) hp1 he hto
theorem Sends.isFalls {other:Int}{word:Str}(W:Wd other word){rules sender:List (List Int)}(g:Gram other rules)(s:Sends rules sender):Falls sender:=by
 refine⟨?_,fun q hq y hy=>?_⟩
 ·refine s.falls.imp_of_mem fun {x y} hx hy h=>?_
  obtain⟨_,_,_,_,_,_,_,hx1,_⟩:=send_row W g (s.perm.mem_iff.mp hx)
  obtain⟨_,_,_,_,_,_,_,hy1,_⟩:=send_row W g (s.perm.mem_iff.mp hy)
  exact head_falls hx1 hy1 h
 ·obtain⟨_,_,_,_,_,_,_,_,_,h⟩:=send_row W g (s.perm.mem_iff.mp hq)
  exact (h y hy).imp And.left And.left
theorem hy_all {other:Int}{word:Str}(W:Wd other word){rules sender:List (List Int)}(g:Gram other rules)(s:Sends rules sender) :
  ∀A,(A=256∨A=257∨A=258)→∀e∈startsOf A,(thr.flatMap fun to=>(lang (markM other word) sender (idx A e to)).map fun s=>(to,s)).Perm ((lang (bareM other word) rules A).map (pairQ e)):=by
 have hf:=g.isFalls W
 have hfs:=s.isFalls W g
 have hb:∀r∈rules,∀x∈r.drop 1,TrmOk (bareM other word) (markM other word) x∨¬x<256:=fun r hr x hx=>(trm_of W g hr hx).imp id And.left
 have h258:Hy (bareM other word) (lang (bareM other word) rules) (lang (markM other word) sender) 258:=fun e he=>
  hy_at hf hfs s.perm hb (fun r hr hA x hx hn=>by
   rcases trm_of W g hr hx with h|h
   ·exact absurd h.small hn
   ·lia) e he
 have h257:Hy (bareM other word) (lang (bareM other word) rules) (lang (markM other word) sender) 257:=fun e he=>
  hy_at hf hfs s.perm hb (fun r hr hA x hx hn=>by
   rcases trm_of W g hr hx with h|h
   ·exact absurd h.small hn
   ·have:x=258:=by lia
    rw [this];exact h258) e he
 rintro A (rfl|rfl|rfl)
 ·exact hy_at hf hfs s.perm hb (fun r hr hA x hx hn=>by
   rcases trm_of W g hr hx with h|h
   ·exact absurd h.small hn
   ·rcases h.2.2 with rfl|rfl
    ·exact h257
    ·exact h258)
 ·exact h257
 ·exact h258
theorem hy_pick {e:Int}{L:List Str}{G:Int→List Str}(h:(thr.flatMap fun to=>(G to).map fun s=>(to,s)).Perm (L.map (pairQ e))){to:Int}(hto:to∈thr) :
  (G to).Perm ((L.filter fun a=>decide (endI e a=to)).map (outI e)):=by
 have h2:=(h.filter fun p=>decide (p.1=to)).map (·.2)
 have e1:((thr.flatMap fun to=>(G to).map fun s=>(to,s)).filter fun p=>decide (p.1=to)).map (·.2)=G to:=by
  rw [filter_flatMap]
  rw [flat_one (a:=to) (by decide) hto fun b _ hn=>?_]
  ·rw [filter_map]
   have:(G to).filter ((fun p:Int×Str=>decide (p.1=to)) ∘ fun s=>(to,s))=G to:=filter_eq_self.mpr fun s _=>by simp
   rw [this,map_map]
   exact (map_congr_left fun s _=>rfl).trans (map_id _)
  ·rw [filter_eq_nil_iff]
   intro p hp
   obtain⟨s,_,rfl⟩:=mem_map.mp hp
   simpa using hn
 have e2:((L.map (pairQ e)).filter fun p=>decide (p.1=to)).map (·.2)=(L.filter fun a=>decide (endI e a=to)).map (outI e):=by
  rw [filter_map,map_map];rfl
 rw [e1,e2] at h2
 exact h2
theorem send_lang {other:Int}{word:Str}(W:Wd other word){rules sender:List (List Int)}(g:Gram other rules)(s:Sends rules sender){A e to:Int}(hA:A=256∨A=257∨A=258)(he:e∈startsOf A)(hto:to∈thr) :
  (lang (markM other word) sender (idx A e to)).Perm (((lang (bareM other word) rules A).filter fun a=>decide (endI e a=to)).map (outI e)):=
 hy_pick (hy_all W g s A hA e he) hto
end Mine
namespace Mine
structure Bd (N M:Nat)(L:List Str):Prop where
 len:L.length≤N
 size:∀s∈L,s.length≤M
theorem Bd.mono {N M N' M':Nat}{L:List Str}(b:Bd N M L)(h1:N≤N')(h2:M≤M'):Bd N' M' L:=⟨nT b.len h1,fun s hs=>nT (b.size s hs) h2⟩
theorem bd_nil (N M:Nat):Bd N M []:=⟨Nat.zero_le _,fun _ h=>nomatch h⟩
theorem prod_bd {sp:List (Int×Str)}{F:Lg}{N M:Nat}(body:List Int):(∀x∈body,Bd N M (symL sp F x))→Bd (N ^ body.length) (M*body.length) (prodL sp F body):=by
 induction body using snoc_ind with
 | h0=>intro _;rw [prodL_nil];exact⟨by simp,fun s hs=>by rw [mem_singleton] at hs;subst hs;exact Nat.zero_le _⟩
 | hs l x ih=>
  intro h
  have i:=ih fun y hy=>h y (mem_append_left _ hy)
  have hx:=h x (mem_append_right _ (mem_singleton.mpr rfl))
  rw [prodL_snoc]
  refine⟨?_,fun s hs=>?_⟩
  ·have:=sum_flat (fun a=>(symL sp F x).map (a++·)) N (prodL sp F l) fun a _=>by rw [length_map];exact hx.len
   rw [length_append,length_singleton,Nat.pow_succ,Nat.mul_comm]
   exact nT this (Nat.mul_le_mul_left _ i.len)
  ·obtain⟨a,ha,hs⟩:=mem_flatMap.mp hs
   obtain⟨b,hb,rfl⟩:=mem_map.mp hs
   have h1:=i.size a ha
   have h2:=hx.size b hb
   rw [cat_len,length_append,length_singleton,Nat.mul_succ];exact lp [_,_,_,_] [(zA,zB),(zC,zD)] (.add zA zC) (.add zB zD) rfl h1 h2
theorem prod_bd2 {sp:List (Int×Str)}{F:Lg}{N M:Nat}{body:List Int}(hN:0<N)(hl:body.length≤2)(h:∀x∈body,Bd N M (symL sp F x)):Bd (N*N) (M*2) (prodL sp F body):=by
 refine (prod_bd body h).mono ?_ (Nat.mul_le_mul_left _ hl)
 have:N ^ body.length≤N ^ 2:=Nat.pow_le_pow_right hN hl
 rwa [Nat.pow_two] at this
theorem flat_bd {α:Type}{N M k:Nat}{l:List α}{f:α→List Str}(hl:l.length≤k)(h:∀a∈l,Bd N M (f a)):Bd (k*N) M (l.flatMap f):=by
 refine⟨?_,fun s hs=>?_⟩
 ·have:=sum_flat f N l fun a ha=>(h a ha).len
  rw [Nat.mul_comm]
  exact nT this (Nat.mul_le_mul_left _ hl)
 ·obtain⟨a,ha,hs⟩:=mem_flatMap.mp hs
  exact (h a ha).size s hs
theorem bare_size {other:Int}{word:Str}(W:Wd other word){x:Int}(h:x=other∨x=4∨x=63∨x=23∨x=52):(∃y,lookD (bareM other word) x=some y)∧(spell (bareM other word) x).length≤4:=by
 have l1:=W.lo
 have l2:=W.n23
 have l3:=W.n52
 have l4:=W.n63
 rcases h with rfl|rfl|rfl|rfl|rfl
 ·rw [bare_other W];exact⟨⟨_,look_hit⟩,W.size⟩
 ·rw [bare_4 W];exact⟨⟨⟨#[10]⟩,by unfold bareM;rw [look_miss (by exact Int.ne_of_gt (lw [_] [(.num 7,iA)] (.add (.num 4) (.num 1)) iA rfl l1)),look_hit]⟩,by decide⟩
 ·rw [bare_63 W];exact⟨⟨⟨#[13]⟩,by unfold bareM;rw [look_miss (by assumption),look_miss (by decide),look_hit]⟩,by decide⟩
 ·rw [bare_23 W];exact⟨⟨⟨#[46]⟩,by unfold bareM;rw [look_miss (by assumption),look_miss (by decide),look_miss (by decide),look_hit]⟩,by decide⟩
 ·rw [bare_52 W];exact⟨⟨⟨#[46,46,46]⟩,by unfold bareM;rw [look_miss (by assumption),look_miss (by decide),look_miss (by decide),look_miss (by decide),look_hit]⟩,by decide⟩
theorem gram_bd {other:Int}{word:Str}(W:Wd other word){rules:List (List Int)}(g:Gram other rules):∀A,Bd 128 32 (lang (bareM other word) rules A):=by
 have hf:=g.isFalls W
 have fix:=lang_fix (sp:=bareM other word) hf
 generalize lang (bareM other word) rules=F at fix ⊢
 have hlen:∀r∈rules,(r.drop 1).length≤2:=fun r hr=>by rw [length_drop];have:=(g.row r hr).2.1;exact (Nat.le_total 1 (List.length r)).elim (fun hq2=>lp [_,_] [(zA,.num 3),(su zB,zA)] zB (.num 2) rfl this (sbB _ _ hq2)) (fun hq2=>lp [_] [(zA,.num 0)] zA (.num 2) rfl (sbC _ _ hq2))
 have hsym:∀(N M:Nat) (A:Int),1≤N→4≤M→(∀B,A<B→(B=257∨B=258)→Bd N M (F B))→∀r∈rules,r.headD 0=A→∀x∈r.drop 1,Bd N M (symL (bareM other word) F x):=fun N M A hN hM h r hr hA x hx=>by
  have t:(x=other∨x=4∨x=63∨x=23∨x=52)→Bd N M (symL (bareM other word) F x):=fun hx=>by
   have:=bare_size W hx
   have l1:=W.hi
   unfold symL
   rw [if_pos (by lia)]
   refine⟨hN,fun s hs=>?_⟩
   rw [mem_singleton] at hs;subst hs
   exact nT this.2 hM
  rcases (g.row r hr).2.2.2 x hx with q|q|q|q|q|⟨h1,h2⟩
  ·exact t (.inl q)
  ·exact t (.inr (.inl q))
  ·exact t (.inr (.inr (.inl q)))
  ·exact t (.inr (.inr (.inr (.inl q))))
  ·exact t (.inr (.inr (.inr (.inr q))))
  ·unfold symL
   rw [if_neg (by lia)]
   exact h x (lw [_,_,_] [(iA,iB),(si iB,iC)] (si iA) iC rfl (iqR hA) h1) h2
 have step:∀(N M:Nat) (A:Int),1≤N→4≤M→(A=256∨A=257∨A=258)→(∀B,A<B→(B=257∨B=258)→Bd N M (F B))→Bd (2*(N*N)) (M*2) (F A):=fun N M A hN hM hA h=>by
  rw [fix A]
  refine flat_bd (Nat.le_of_eq (g.two A hA)) fun r hr=>?_
  have hr':=mem_filter.mp hr
  exact prod_bd2 hN (hlen r hr'.1) (hsym N M A hN hM h r hr'.1 (of_decide_eq_true hr'.2))
 have b258:Bd 2 8 (F 258):=step 1 4 258 (lp [] [] (.num 1) (.num 1) rfl) (lp [] [] (.num 4) (.num 4) rfl) (by decide) fun B h1 h2=>by lia
 have b257:Bd 8 16 (F 257):=step 2 8 257 (lp [] [] (.num 1) (.num 2) rfl) (lp [] [] (.num 4) (.num 8) rfl) (by decide) fun B h1 h2=>by
  have:B=258:=by lia
  rw [this];exact b258
 have b256:Bd 128 32 (F 256):=step 8 16 256 (lp [] [] (.num 1) (.num 8) rfl) (lp [] [] (.num 4) (.num 16) rfl) (by decide) fun B h1 h2=>by
  rcases h2 with rfl|rfl
  ·exact b257
  ·exact b258.mono (lp [] [] (.num 2) (.num 8) rfl) (lp [] [] (.num 8) (.num 16) rfl)
 intro A
 by_cases hA:A=256∨A=257∨A=258
 ·rcases hA with rfl|rfl|rfl
  ·exact b256
  ·exact b257.mono (lp [] [] (.num 8) (.num 128) rfl) (lp [] [] (.num 16) (.num 32) rfl)
  ·exact b258.mono (lp [] [] (.num 2) (.num 128) rfl) (lp [] [] (.num 8) (.num 32) rfl)
 ·rw [fix A]
  have:rules.filter (headIs A)=[]:=by
   rw [filter_eq_nil_iff]
   intro r hr q
   have q':r.headD 0=A:=of_decide_eq_true q
   have:=(g.row r hr).2.2.1
   lia
  rw [this];exact bd_nil _ _
theorem outQ_len:∀(x:List Nat)(e:Nat),(outQ e x).length≤2*x.length
 | [],_=>Nat.le_refl _
 | c::x,e=>by
  have ih:=outQ_len x (stepQ e c).2
  show ((stepQ e c).1++outQ (stepQ e c).2 x).length≤_
  rw [length_append,length_cons]
  have:(stepQ e c).1.length≤2:=by
   unfold stepQ;repeat' split
   all_goals simp
  exact lp [_,_,_] [(zA,.mulL 2 zB),(zC,.num 2)] (.add zC zA) (.mulL 2 (su zB)) rfl ih this
theorem outI_len (e:Int)(a:Str):(outI e a).length≤2*a.length:=by
 rw [len_list a]
 show (outQ e.toNat a.cps.toList).toArray.size≤_
 rw [size_toArray]
 exact outQ_len _ _
theorem send_bd {other:Int}{word:Str}(W:Wd other word){rules sender:List (List Int)}(g:Gram other rules)(s:Sends rules sender):∀I,Bd 128 64 (lang (markM other word) sender I):=by
 intro I
 have hfs:=s.isFalls W g
 by_cases h:∃q∈sender,q.headD 0=I
 ·obtain⟨q,hq,rfl⟩:=h
  obtain⟨r,hr,st,hst,e,he,h1,_⟩:=send_row W g (s.perm.mem_iff.mp hq)
  rw [h1]
  have p:=send_lang W g s (g.row r hr).2.2.1 hst he
  have b:=gram_bd W g (r.headD 0)
  refine⟨?_,fun x hx=>?_⟩
  ·rw [p.length_eq,length_map]
   exact nT (length_filter_le _ _) b.len
  ·obtain⟨a,ha,rfl⟩:=mem_map.mp (p.mem_iff.mp hx)
   have:=b.size a (mem_filter.mp ha).1
   have:=outI_len st a
   exact lq [_,_] [(2,zA,.num 32),(1,zB,.mulL 2 zA)] 1 zB (.num 64) rfl (by assumption) this
 ·rw [lang_fix hfs I]
  have:sender.filter (headIs I)=[]:=by
   rw [filter_eq_nil_iff]
   intro q hq e
   exact h ⟨q,hq,of_decide_eq_true e⟩
  rw [this];exact bd_nil _ _
theorem lang_grow (sp:List (Int×Str)):∀(rest:List (List Int))(F:Lg)(A:Int),∃t,(rest.foldl (langStep sp) F) A=F A++t
 | [],F,A=>⟨[],by simp⟩
 | r::rest,F,A=>by
  obtain⟨t,ht⟩:=lang_grow sp rest (langStep sp F r) A
  rw [foldl_cons,ht]
  unfold langStep
  split
  ·exact⟨prodL sp F (r.drop 1)++t,by rw [append_assoc]⟩
  ·exact⟨t,rfl⟩
theorem lang_pre (sp:List (Int×Str))(rules:List (List Int))(i:Nat)(A:Int):∃t,lang sp rules A=lang sp (rules.take i) A++t:=by
 have:lang sp rules=(rules.drop i).foldl (langStep sp) (lang sp (rules.take i)):=by
  unfold lang;rw [←foldl_append,take_append_drop]
 rw [this];exact lang_grow sp _ _ _
theorem pre_bd {sp:List (Int×Str)}{rules:List (List Int)}{N M:Nat}{A:Int}(h:Bd N M (lang sp rules A))(i:Nat):Bd N M (lang sp (rules.take i) A):=by
 obtain⟨t,ht⟩:=lang_pre sp rules i A
 rw [ht] at h
 refine⟨?_,fun s hs=>h.size s (mem_append_left _ hs)⟩
 have:=h.len
 rw [length_append] at this;exact lp [_,_,_] [(.add zA zB,zC)] zA zC rfl this
theorem spread_len:∀t:DS,(∀p∈t,0<p.2)→t.length≤(spread t).length
 | [],_=>Nat.le_refl _
 | p::t,h=>by
  have ih:=spread_len t fun q hq=>h q (mem_cons_of_mem _ hq)
  have:=h p mem_cons_self
  show (p::t).length≤(List.replicate p.2.toNat p.1++spread t).length
  rw [length_append,List.length_replicate,length_cons];exact Int.ofNat_le.1 (lw [_,_,_,_] [(iA,iB),(.add (.num 0) (.num 1),iC),(iC,iD)] (si iA) (.add iD iB) rfl (cnL ih) this (Int.self_le_toNat _))
theorem Rep.len {t:DS}{L:List Str}(r:Rep t L):t.length≤L.length:=by
 rw [←r.spread.length_eq];exact spread_len t r.posv
structure GOk (sp:List (Int×Str))(rules:List (List Int)):Prop where
 len:rules.length≤2 ^ 18
 row:∀r∈rules,r≠[]∧r.length≤3
 spl:∀r∈rules,∀x∈r.drop 1,x<256→(∃y,lookD sp x=some y)∧(spell sp x).length≤64
 bd:∀A,Bd 128 64 (lang sp rules A)
theorem GOk.sym {sp:List (Int×Str)}{rules:List (List Int)}(g:GOk sp rules)(i:Nat){r:List Int}(hr:r∈rules){x:Int}(hx:x∈r.drop 1):Bd 128 64 (symL sp (lang sp (rules.take i)) x):=by
 unfold symL
 split
 ·rename_i h
  refine⟨by simp,fun s hs=>?_⟩
  rw [mem_singleton] at hs;subst hs
  exact (g.spl r hr x hx h).2
 ·exact pre_bd (g.bd x) i
theorem GOk.prod {sp:List (Int×Str)}{rules:List (List Int)}(g:GOk sp rules)(i:Nat){r:List Int}(hr:r∈rules)(j:Nat):Bd (128*128) (64*2) (prodL sp (lang sp (rules.take i)) ((r.drop 1).take j)):=by
 refine prod_bd2 (lp [] [] (.add (.num 0) (.num 1)) (.num 128) rfl) ?_ fun x hx=>g.sym i hr (mem_of_mem_take hx)
 have:=(g.row r hr).2
 rw [length_take,length_drop];exact (Nat.le_total 1 (List.length r)).elim (fun hq2=>lp [_,_,_] [(zA,.num 3),(zB,zC),(su zC,zA)] zB (.num 2) rfl this (Nat.min_le_right _ _) (sbB _ _ hq2)) (fun hq2=>lp [_,_] [(zA,zB),(zB,.num 0)] zA (.num 2) rfl (Nat.min_le_right _ _) (sbC _ _ hq2))
theorem GOk.prod' {sp:List (Int×Str)}{rules:List (List Int)}(g:GOk sp rules)(i:Nat){r:List Int}(hr:r∈rules):Bd (128*128) (64*2) (prodL sp (lang sp (rules.take i)) (r.drop 1)):=by
 have:=g.prod i hr (r.drop 1).length
 rwa [take_length] at this
theorem GOk.tab {sp:List (Int×Str)}{rules:List (List Int)}(g:GOk sp rules):TabOk sp rules where
 len:=nT g.len (by decide)
 row:=fun r hr=>⟨(g.row r hr).1,nT (g.row r hr).2 (by decide)⟩
 mul:=fun i r hi j x hj=>by
  have hr:=mem_of_getElem? hi
  have hx:=mem_of_getElem? hj
  refine⟨fun h=>(g.spl r hr x hx h).1,?_⟩
  have T:=tables_rep sp (rules.take i)
  have r1:=rule_rep (sp:=sp) T ((r.drop 1).take j)
  have r2:=follow_rep (sp:=sp) T x
  have b1:Bd 128 (64*2) (prodL sp (lang sp (rules.take i)) ((r.drop 1).take j)):=by
   have hj':=(List.getElem?_eq_some_iff.mp hj).1
   have hl:=(g.row r hr).2
   rw [length_drop] at hj'
   have hk:((r.drop 1).take j).length≤1:=by rw [length_take];exact lp [_,_,_,_] [(su zA,zB),(zC,.num 3),(zD,zA),(su zB,zC)] zD (.num 1) rfl hj' hl (Nat.min_le_left _ _) (sbB _ _ (lp [_,_,_] [(su zA,zB),(zB,zC)] (.num 1) zC rfl hj' (Nat.sub_le _ _)))
   refine (prod_bd _ fun x hx=>g.sym i hr (mem_of_mem_take hx)).mono ?_ (Nat.mul_le_mul_left _ (lp [_] [(zA,.num 1)] zA (.num 2) rfl hk))
   have:128 ^ ((r.drop 1).take j).length≤128 ^ 1:=Nat.pow_le_pow_right (lp [] [] (.add (.num 0) (.num 1)) (.num 128) rfl) hk
   simpa using this
  have b2:=g.sym i hr hx
  have l1:=r1.len
  have l2:=r2.len
  have l3:=b1.len
  have l4:=b2.len
  refine⟨?_,fun p hp=>⟨?_,?_,?_⟩,fun q hq=>?_⟩
  ·refine nT (Nat.mul_le_mul (nT l1 l3) (nT l2 l4)) (by decide)
  ·exact nT (b1.size _ (r1.pos p hp)) (by decide)
  ·exact Int.le_of_lt (r1.posv p hp)
  ·rw [r1.val p hp]
   have:=List.count_le_length (a:=p.1) (l:=prodL sp (lang sp (rules.take i)) ((r.drop 1).take j))
   exact lw [_,_] [(iA,.num 128),(iB,iA)] iB (.num 1099511627776) rfl (cnL l3) (cnL this)
  ·exact nT (b2.size _ (r2.pos q hq)) (by decide)
 add:=fun i r hi=>by
  have hr:=mem_of_getElem? hi
  have T:=tables_rep sp (rules.take i)
  have r1:=rule_rep (sp:=sp) T (r.drop 1)
  have r2:=T (r.headD 0)
  have l1:=r1.len
  have l2:=r2.len
  have l3:=(g.prod' i hr).len
  have l4:=(pre_bd (g.bd (r.headD 0)) i).len
  exact lp [_,_,_,_] [(zA,zB),(zC,zD),(zB,.mulL 128 (.num 128)),(zD,.num 128)] (.add zC zA) (.num 16777216) rfl l1 l2 l3 l4
theorem gram_ok {other:Int}{word:Str}(W:Wd other word){rules:List (List Int)}(g:Gram other rules):GOk (bareM other word) rules where
 len:=by rw [g.all];decide
 row:=fun r hr=>⟨(g.row r hr).1,(g.row r hr).2.1⟩
 spl:=fun r hr x hx hs=>by
  have h:x=other∨x=4∨x=63∨x=23∨x=52:=by
   rcases (g.row r hr).2.2.2 x hx with q|q|q|q|q|⟨h1,h2⟩
   ·exact .inl q
   ·exact .inr (.inl q)
   ·exact .inr (.inr (.inl q))
   ·exact .inr (.inr (.inr (.inl q)))
   ·exact .inr (.inr (.inr (.inr q)))
   ·lia
  have:=bare_size W h
  exact⟨this.1,nT this.2 (by decide)⟩
 bd:=fun A=>(gram_bd W g A).mono (Nat.le_refl _) (by decide)
theorem mark_size {other:Int}{word:Str}(W:Wd other word){x:Int}{z:Str}(h:lookD (markM other word) x=some z):z.length≤4:=by
 unfold lookD at h
 cases hf:(markM other word).find? (fun e=>decide (e.1=x)) with
 | none=>rw [hf] at h;exact nomatch h
 | some p=>
  rw [hf] at h
  have e:z=p.2:=by simpa using h.symm
  have hm:=mem_of_find?_eq_some hf
  rw [e]
  unfold markM at hm
  have hw:=W.size
  rcases mem_cons.mp hm with rfl|hm
  ·exact hw
  ·have:∀q∈([((4:Int),(⟨#[13,10]⟩:Str)),(23,⟨#[46]⟩),(223,⟨#[46,46]⟩),(52,⟨#[46,46,46]⟩),(252,⟨#[46,46,46,46]⟩)]:List (Int×Str)),q.2.length≤4:=by decide
   exact this p hm
theorem sendRows_length (r:List Int)(hr:r.length≤3):(sendRows r).length≤81:=by
 unfold sendRows
 have hs:(startsOf (r.headD 0)).length≤3:=by
  unfold startsOf;rw [length_map,length_range];split <;> (first|exact lp [] [] (.num 3) (.num 3) rfl|exact lp [] [] (.num 1) (.num 3) rfl)
 have:=sum_flat (fun st=>(roadsOf st (r.drop 1)).map fun p=>idx (r.headD 0) st p.1::p.2) 27 (startsOf (r.headD 0)) (fun st _=>by rw [length_map];exact (roadsOf_bound st _ (by rw [length_drop];exact nT (Nat.sub_le _ _) hr)).1)
 exact lq [_,_] [(27,zA,.num 3),(1,zB,.mulL 27 zA)] 1 zB (.num 81) rfl hs this
theorem send_ok {other:Int}{word:Str}(W:Wd other word){rules sender:List (List Int)}(g:Gram other rules)(s:Sends rules sender):GOk (markM other word) sender where
 len:=by
  rw [s.perm.length_eq]
  have:=sum_flat sendRows 81 rules fun r hr=>sendRows_length r (g.row r hr).2.1
  rw [g.all] at this
  exact lp [_] [(zA,.mulL 81 (.num 6))] zA (.num 262144) rfl this
 row:=fun q hq=>by
  obtain⟨r,hr,st,hst,e,he,h1,h2,h3,_⟩:=send_row W g (s.perm.mem_iff.mp hq)
  exact⟨h2,h3⟩
 spl:=fun q hq x hx hs=>by
  obtain⟨r,hr,st,hst,e,he,h1,h2,h3,h4⟩:=send_row W g (s.perm.mem_iff.mp hq)
  rcases h4 x hx with ⟨_,_,z,hz⟩|⟨h5,_⟩
  ·refine⟨⟨z,hz⟩,?_⟩
   unfold spell
   rw [hz]
   exact nT (mark_size W hz) (by decide)
  ·exfalso
   exact absurd hs (Int.not_lt.mpr (Int.le_trans (h1▸idx_ge (g.big W r hr) (starts_thr hst) he) (Int.le_of_lt h5)))
 bd:=send_bd W g s
theorem gram_states {other:Int}{rules:List (List Int)}(g:Gram other rules):StatesOk rules:=⟨by rw [g.all];decide,fun r hr=>⟨(g.row r hr).1,nT (g.row r hr).2.1 (by decide)⟩⟩
end Mine
namespace Mine
noncomputable def ManyRel (sp:List (Int×Str))(T:List (Int×Int))(F:Lg):Prop:=∀A,(lookD T A).getD 0=((F A).length:Int)
theorem ways_len {sp:List (Int×Str)}{T:List (Int×Int)}{F:Lg}(h:ManyRel sp T F)(body:List Int):waysOf T body=((prodL sp F body).length:Int):=by
 induction body using snoc_ind with
 | h0=>rfl
 | hs l x ih=>
  rw [prodL_snoc]
  have e:waysOf T (l++[x])=waysOf T l*symW T x:=by unfold waysOf;rw [foldl_append];rfl
  have e2:symW T x=((symL sp F x).length:Int):=by
   unfold symW symL
   by_cases hx:x>255
   ·rw [if_pos hx,if_neg (by exact Int.not_lt.2 (lw [_] [(.add (.num 255) (.num 1),iA)] (.num 256) iA rfl hx))];exact h x
   ·rw [if_neg hx,if_pos (by exact lw [_] [(iA,.num 255)] (si iA) (.num 256) rfl (Int.not_lt.1 hx))];rfl
  rw [e,ih,e2]
  have:∀L:List Str,(L.flatMap fun a=>(symL sp F x).map (a++·)).length=L.length*(symL sp F x).length:=fun L=>by
   induction L with
   | nil=>simp
   | cons a L ihL=>rw [flatMap_cons,length_append,length_map,length_cons,ihL,Nat.succ_mul,Nat.add_comm]
  rw [this];push_cast;rfl
theorem many_step {sp:List (Int×Str)}{T:List (Int×Int)}{F:Lg}(h:ManyRel sp T F)(r:List Int):ManyRel sp (manyStep T r) (langStep sp F r):=by
 intro A
 unfold manyStep langStep
 rw [lookD_put]
 by_cases hA:A=r.headD 0
 ·rw [if_pos hA,if_pos hA,Option.getD_some,hA,length_append]
  have:=h (r.headD 0)
  cases hl:lookD T (r.headD 0) with
  | none=>
   rw [hl] at this
   have h0:((F (r.headD 0)).length:Int)=0:=this.symm
   dsimp only
   rw [ways_len h];push_cast;exact iT (lw [_,_] [(.num 0,iA)] iB (.add iA iB) rfl (cn0 _)) (lw [_,_] [(iA,.num 0)] (.add iA iB) iB rfl (iqL h0))
  | some v=>
   rw [hl] at this
   have h0:((F (r.headD 0)).length:Int)=v:=this.symm
   dsimp only
   rw [ways_len h];push_cast;exact iT (lw [_,_,_] [(iA,iB)] (.add iA iC) (.add iB iC) rfl (iqR h0)) (lw [_,_,_] [(iA,iB)] (.add iA iC) (.add iB iC) rfl (iqL h0))
 ·rw [if_neg hA,if_neg hA];exact h A
theorem many_rel (sp:List (Int×Str))(rules:List (List Int)):ManyRel sp (manyOf rules) (lang sp rules):=by
 unfold manyOf lang
 generalize hi:([]:List (Int×Int))=T
 generalize hj:(fun _=>[]:Lg)=F
 have h:ManyRel sp T F:=by subst hi;subst hj;intro A;rfl
 clear hi hj
 induction rules generalizing T F with
 | nil=>exact h
 | cons r rules ih=>
  rw [foldl_cons,foldl_cons]
  exact ih _ _ (many_step h r)
theorem many_some (rules:List (List Int))(A:Int)(hA:∃r∈rules,r.headD 0=A):∃t,lookD (manyOf rules) A=some t:=by
 unfold manyOf
 generalize ([]:List (Int×Int))=T
 have keep:∀(rules:List (List Int)) (T:List (Int×Int)),(∃t,lookD T A=some t)→∃t,lookD (rules.foldl manyStep T) A=some t:=by
  intro rules
  induction rules with
  | nil=>intro T h;exact h
  | cons r rules ih=>
   intro T ⟨t,ht⟩
   rw [foldl_cons]
   refine ih _ ?_
   unfold manyStep
   rw [lookD_put]
   split
   ·exact⟨_,rfl⟩
   ·exact⟨t,ht⟩
 induction rules generalizing T with
 | nil=>obtain⟨r,hr,_⟩:=hA;exact nomatch hr
 | cons r rules ih=>
  rw [foldl_cons]
  obtain⟨q,hq,e⟩:=hA
  rcases mem_cons.mp hq with rfl|hq
  ·refine keep _ _ ?_
   unfold manyStep
   rw [lookD_put,if_pos e.symm]
   exact⟨_,rfl⟩
  ·exact ih ⟨q,hq,e⟩ _
theorem gram_has {other:Int}{rules:List (List Int)}(g:Gram other rules){A:Int}(hA:A=256∨A=257∨A=258):∃r∈rules,r.headD 0=A:=by
 have:=g.two A hA
 cases hf:rules.filter (headIs A) with
 | nil=>rw [hf] at this;exact nomatch this
 | cons r t=>
  have hr:r∈rules.filter (headIs A):=by rw [hf];exact mem_cons_self
  have hr':=mem_filter.mp hr
  exact⟨r,hr'.1,of_decide_eq_true hr'.2⟩
theorem gram_before {other:Int}{rules:List (List Int)}(g:Gram other rules){i:Nat}{r:List Int}(hi:rules[i]?=some r){A:Int}(hA:A=256∨A=257∨A=258)(h:r.headD 0<A):∃q∈rules.take i,q.headD 0=A:=by
 obtain⟨q,hq,e⟩:=gram_has g hA
 have hd:rules.drop i=r::rules.drop (i+1):=by
  obtain⟨hlt,hr⟩:=List.getElem?_eq_some_iff.mp hi
  rw [drop_eq_getElem_cons hlt,hr]
 rw [←take_append_drop i rules,mem_append] at hq
 rcases hq with hq|hq
 ·exact⟨q,hq,e⟩
 ·exfalso
  rw [hd] at hq
  rcases mem_cons.mp hq with rfl|hq
  ·exact cnF (lz [_,_] [(1,iA,iB),(1,si iB,iA)] 0 (.num 1) (.num 0) rfl (iqR e) h)
  ·have:=g.falls
   rw [←take_append_drop i rules,pairwise_append,hd,pairwise_cons] at this
   have:=this.2.1.1 q hq
   exact cnF (lz [_,_,_] [(1,si iA,iB),(1,iB,iC),(1,iC,iA)] 0 (.num 1) (.num 0) rfl h (iqR e) this)
theorem many_ok {other:Int}{word:Str}(W:Wd other word){rules:List (List Int)}(g:Gram other rules):ManyOk rules where
 len:=by rw [g.all];decide
 row:=fun r hr=>⟨(g.row r hr).1,nT (g.row r hr).2.1 (by decide)⟩
 ways:=fun i r hi j x hj=>by
  have hr:=mem_of_getElem? hi
  refine⟨?_,fun hx=>?_⟩
  ·rw [ways_len (many_rel (bareM other word) (rules.take i))]
   have:=((gram_ok W g).prod i hr j).len
   exact⟨(cn0 _),lw [_] [(iA,.mulL 128 (.num 128))] iA (.num 1099511627776) rfl (cnL this)⟩
  ·refine many_some _ _ ?_
   have hx':=mem_of_getElem? hj
   rcases trm_of W g hr hx' with h|⟨_,h2,h3⟩
   ·have:=h.small;lia
   ·exact gram_before g hi (.inr h3) h2
theorem count_len {t:DS}{L:List Str}(r:Rep t L):countD t=(L.length:Int):=by
 rw [←r.spread.length_eq]
 have hp:=r.posv
 unfold countD
 have go:∀(t:DS) (n:Int),(∀p∈t,0<p.2)→(t.map (·.2)).foldl (·+·) n=n+((spread t).length:Int):=by
  intro t
  induction t with
  | nil=>intro n _;show n=n+0;exact iT (lw [_] [] iA (.add iA (.num 0)) rfl) (lw [_] [] (.add iA (.num 0)) iA rfl)
  | cons p t ih=>
   intro n h
   rw [map_cons,foldl_cons,ih _ fun q hq=>h q (mem_cons_of_mem _ hq)]
   show n+p.2+_=n+(((List.replicate p.2.toNat p.1++spread t).length:Nat):Int)
   have:=h p mem_cons_self
   rw [length_append,List.length_replicate];push_cast;exact iT (lw [_,_,_,_] [(iA,iB)] (.add (.add iC iA) iD) (.add iC (.add iB iD)) rfl (Int.self_le_toNat _)) (lw [_,_,_,_] [(iA,iB)] (.add iC (.add iA iD)) (.add (.add iC iB) iD) rfl (cnT (lw [_] [(.add (.num 0) (.num 1),iA)] (.num 0) iA rfl this)))
 rw [go t 0 hp];exact iT (lw [_] [] (.add (.num 0) iA) iA rfl) (lw [_] [] iA (.add (.num 0) iA) rfl)
noncomputable def bef (w0 w1:Int)(x y:Str):Prop:=told w0 w1 (x,(x.length:Int)) (y,(y.length:Int))<0
noncomputable def kk (w0:Int)(x:Str):Int:=if w0>0 then (x.length:Int) else -(x.length:Int)
noncomputable def lx (w1:Int)(a b:List Nat):Prop:=if w1>0 then a<b else b<a
theorem kk_cat (w0:Int)(a b:Str):kk w0 (a++b)=kk w0 a+kk w0 b:=by
 unfold kk;rw [cat_len];split <;> (first|exact iT (lw [_,_] [] (.add iA iB) (.add iA iB) rfl) (lw [_,_] [] (.add iA iB) (.add iA iB) rfl)|exact iT (lw [_,_] [] (.neg (.add iA iB)) (.add (.neg iA) (.neg iB)) rfl) (lw [_,_] [] (.add (.neg iA) (.neg iB)) (.neg (.add iA iB)) rfl))
theorem kk_eq {w0:Int}{a b:Str}:kk w0 a=kk w0 b↔a.length=b.length:=by
 unfold kk;split <;> lia
theorem lx_asymm {w:Int}{a b:List Nat}(h:lx w a b):¬lx w b a:=by
 unfold lx at *;split at h
 ·rw [if_pos (by assumption)];exact lt_asymm h
 ·rw [if_neg (by assumption)];exact lt_asymm h
theorem lx_irrefl (w:Int)(a:List Nat):¬lx w a a:=fun h=>lx_asymm h h
theorem lx_trans {w:Int}{a b c:List Nat}(h:lx w a b)(h':lx w b c):lx w a c:=by
 unfold lx at *;split at h
 ·rw [if_pos (by assumption)] at h' ⊢;exact List.lt_trans h h'
 ·rw [if_neg (by assumption)] at h' ⊢;exact List.lt_trans h' h
theorem nat_tri (a b:List Nat):a<b∨a=b∨b<a:=by
 by_cases h1:a<b
 ·exact .inl h1
 ·by_cases h2:b<a
  ·exact .inr (.inr h2)
  ·exact .inr (.inl (List.le_antisymm (not_lt.mp h2) (not_lt.mp h1)))
theorem lx_tri (w:Int)(a b:List Nat):lx w a b∨a=b∨lx w b a:=by
 unfold lx;split
 ·exact nat_tri a b
 ·rcases nat_tri a b with h|h|h
  ·exact .inr (.inr h)
  ·exact .inr (.inl h)
  ·exact .inl h
theorem app_lt:∀(a a' b b':List Nat),a.length=a'.length→(a'++b'<a++b↔a'<a∨(a'=a∧b'<b))
 | [],[],b,b',_=>by simp
 | [],_::_,_,_,h=>nomatch h
 | _::_,[],_,_,h=>nomatch h
 | c::a,c'::a',b,b',hl=>by
  have ih:=app_lt a a' b b' (Nat.succ.inj hl)
  rw [cons_append,cons_append,cons_lt_cons_iff,cons_lt_cons_iff,ih]
  constructor
  ·rintro (h|⟨rfl,h|⟨rfl,h⟩⟩)
   ·exact .inl (.inl h)
   ·exact .inl (.inr ⟨rfl,h⟩)
   ·exact .inr ⟨rfl,h⟩
  ·rintro ((h|⟨rfl,h⟩)|⟨h,h'⟩)
   ·exact .inl h
   ·exact .inr ⟨rfl,.inl h⟩
   ·injection h with h1 h2
    subst h1;subst h2
    exact .inr ⟨rfl,.inr ⟨rfl,h'⟩⟩
theorem lx_app {w:Int}{a a' b b':List Nat}(hl:a.length=a'.length)(h:lx w (a'++b') (a++b)):lx w a' a∨(a'=a∧lx w b' b):=by
 unfold lx at *;split at h
 ·rw [if_pos (by assumption),if_pos (by assumption)];exact (app_lt a a' b b' hl).mp h
 ·rw [if_neg (by assumption),if_neg (by assumption)]
  exact ((app_lt a' a b' b hl.symm).mp h).imp id fun q=>⟨q.1.symm,q.2⟩
section
variable {w0 w1:Int}(h0:w0≠0)(h1:w1≠0)
include h0 h1
theorem bef_iff (x y:Str):bef w0 w1 x y↔kk w0 x<kk w0 y∨(kk w0 x=kk w0 y∧lx w1 x.cps.toList y.cps.toList):=by
 unfold bef told kk lx
 dsimp only
 have la:x.cps.toList<y.cps.toList→¬y.cps.toList<x.cps.toList:=fun h=>lt_asymm h
 by_cases c1:(x.length:Int)<y.length
 ·rw [if_pos c1]
  constructor
  ·intro h;left;rw [if_pos (by exact lw [_] [(.add (.neg iA) (.num 1),.num 0)] (.add (.num 0) (.num 1)) iA rfl h),if_pos (by exact lw [_] [(.add (.neg iA) (.num 1),.num 0)] (.add (.num 0) (.num 1)) iA rfl h)];exact c1
  ·intro h
   by_cases hw:w0>0
   ·exact lw [_] [(.add (.num 0) (.num 1),iA)] (.add (.neg iA) (.num 1)) (.num 0) rfl hw
   ·rw [if_neg hw,if_neg hw] at h
    lia
 ·rw [if_neg c1]
  by_cases c2:(y.length:Int)<x.length
  ·rw [if_pos c2]
   constructor
   ·intro h;left;rw [if_neg (by exact Int.not_lt.2 (lw [_] [(si iA,.num 0)] iA (.num 0) rfl h)),if_neg (by exact Int.not_lt.2 (lw [_] [(si iA,.num 0)] iA (.num 0) rfl h))];exact lw [_,_] [(si iA,iB)] (.add (.neg iB) (.num 1)) (.neg iA) rfl c2
   ·intro h
    by_cases hw:w0>0
    ·rw [if_pos hw,if_pos hw] at h;lia
    ·lia
  ·rw [if_neg c2]
   have e:x.length=y.length:=nA (Int.ofNat_le.1 (Int.not_lt.1 c2)) (Int.ofNat_le.1 (Int.not_lt.1 c1))
   rw [e]
   have:∀P:Prop,((if w0>0 then (y.length:Int) else -(y.length:Int))<(if w0>0 then (y.length:Int) else -(y.length:Int))∨((if w0>0 then (y.length:Int) else -(y.length:Int))=(if w0>0 then (y.length:Int) else -(y.length:Int))∧P))↔P:=fun P=>by
    constructor
    ·rintro (h|⟨_,h⟩)
     ·lia
     ·exact h
    ·intro h;exact .inr ⟨rfl,h⟩
   rw [this]
   by_cases c3:x.cps.toList<y.cps.toList
   ·rw [if_pos c3]
    by_cases hw:w1>0
    ·rw [if_pos hw];exact⟨fun _=>c3,fun _=>lw [_] [(.add (.num 0) (.num 1),iA)] (.add (.neg iA) (.num 1)) (.num 0) rfl hw⟩
    ·rw [if_neg hw];exact⟨fun h=>by lia,fun h=>absurd h (la c3)⟩
   ·rw [if_neg c3]
    by_cases c4:y.cps.toList<x.cps.toList
    ·rw [if_pos c4]
     by_cases hw:w1>0
     ·rw [if_pos hw];exact⟨fun h=>by lia,fun h=>absurd h c3⟩
     ·rw [if_neg hw];exact⟨fun _=>c4,fun _=>by lia⟩
    ·rw [if_neg c4]
     refine⟨fun h=>by lia,fun h=>?_⟩
     split at h
     ·exact absurd h c3
     ·exact absurd h c4
theorem bef_irrefl (x:Str):¬bef w0 w1 x x:=fun h=>by
 rw [bef_iff h0 h1] at h
 rcases h with h|⟨_,h⟩
 ·exact cnF (lz [_] [(1,si iA,iA)] 0 (.num 1) (.num 0) rfl h)
 ·exact lx_irrefl _ _ h
theorem bef_trans {x y z:Str}(h:bef w0 w1 x y)(h':bef w0 w1 y z):bef w0 w1 x z:=by
 rw [bef_iff h0 h1] at h h' ⊢
 rcases h with h|⟨e,h⟩ <;> rcases h' with h'|⟨e',h'⟩
 ·left;exact lw [_,_,_] [(si iA,iB),(si iB,iC)] (si iA) iC rfl h h'
 ·left;exact Int.le_trans h (iqL e')
 ·left;exact lw [_,_,_] [(iA,iB),(si iB,iC)] (si iA) iC rfl (iqL e) h'
 ·right;exact⟨iT (Int.le_trans (iqL e) (iqL e')) (Int.le_trans (iqR e') (iqR e)),lx_trans h h'⟩
theorem bef_tri (x y:Str):bef w0 w1 x y∨x=y∨bef w0 w1 y x:=by
 rw [bef_iff h0 h1,bef_iff h0 h1]
 by_cases h:kk w0 x<kk w0 y
 ·exact .inl (.inl h)
 ·by_cases h':kk w0 y<kk w0 x
  ·exact .inr (.inr (.inl h'))
  ·rcases lx_tri w1 x.cps.toList y.cps.toList with q|q|q
   ·exact .inl (.inr ⟨iT (Int.not_lt.1 h') (Int.not_lt.1 h),q⟩)
   ·exact .inr (.inl (str_inj q))
   ·exact .inr (.inr (.inr ⟨iT (Int.not_lt.1 h) (Int.not_lt.1 h'),q⟩))
theorem bef_cat {a a' b b':Str}(ha:¬bef w0 w1 a' a)(hb:¬bef w0 w1 b' b):¬bef w0 w1 (a'++b') (a++b):=by
 rw [bef_iff h0 h1] at ha hb ⊢
 rw [kk_cat,kk_cat,cat_cps,cat_cps]
 have k1:kk w0 a≤kk w0 a':=Int.not_lt.mp fun q=>ha (.inl q)
 have k2:kk w0 b≤kk w0 b':=Int.not_lt.mp fun q=>hb (.inl q)
 rintro (h|⟨e,h⟩)
 ·exact cnF (lz [_,_,_,_] [(1,iA,iB),(1,iC,iD),(1,si (.add iB iD),.add iA iC)] 0 (.num 1) (.num 0) rfl k1 k2 h)
 ·have e1:kk w0 a'=kk w0 a:=iT (lw [_,_,_,_] [(iA,iB),(.add iC iB,.add iD iA)] iC iD rfl k2 (iqL e)) k1
  have e2:kk w0 b'=kk w0 b:=iT (lw [_,_,_,_] [(.add iA iB,.add iC iD),(iC,iA)] iB iD rfl (iqL e) (iqR e1)) (lw [_,_,_,_] [(.add iA iB,.add iC iD),(iC,iA)] iB iD rfl (iqR e) (iqL e1))
  have el:a.cps.toList.length=a'.cps.toList.length:=by rw [←len_list,←len_list];exact (kk_eq.mp e1).symm
  rcases lx_app el h with q|⟨_,q⟩
  ·exact ha (.inr ⟨e1,q⟩)
  ·exact hb (.inr ⟨e2,q⟩)
theorem bef_le {x y z:Str}(h:¬bef w0 w1 y x)(h':¬bef w0 w1 z y):¬bef w0 w1 z x:=fun q=>by
 rcases bef_tri h0 h1 y z with p|rfl|p
 ·exact h (bef_trans h0 h1 p q)
 ·exact h q
 ·exact h' p
omit h0 h1 in
theorem catS_snoc (l:List Str)(x:Str):catS (l++[x])=catS l++x:=by
 refine str_inj ?_
 rw [cat_cps];unfold catS;simp
structure Fst (w0 w1:Int)(T:FT)(F:Lg):Prop where
 none_:∀A,lookD T A=none→F A=[]
 some_:∀A p,lookD T A=some p→p.2=(p.1.length:Int)∧p.1∈F A∧∀u∈F A,¬bef w0 w1 u p.1
omit h0 h1 in
theorem fst_none {sp:List (Int×Str)}{T:FT}{F:Lg}(h:Fst w0 w1 T F)(body:List Int):(∃x∈body,lacks T x=true)→prodL sp F body=[]:=by
 induction body using snoc_ind with
 | h0=>rintro ⟨x,hx,_⟩;exact nomatch hx
 | hs l y ih=>
  rintro ⟨x,hx,hl⟩
  rw [prodL_snoc]
  rcases mem_append.mp hx with hx|hx
  ·rw [ih ⟨x,hx,hl⟩];rfl
  ·rw [mem_singleton] at hx;subst hx
   unfold lacks at hl
   rw [Bool.and_eq_true] at hl
   have h1:x>255:=of_decide_eq_true hl.1
   have h2:lookD T x=none:=by simpa using hl.2
   have:symL sp F x=[]:=by unfold symL;rw [if_neg (by exact Int.not_lt.2 (lw [_] [(.add (.num 255) (.num 1),iA)] (.num 256) iA rfl h1))];exact h.none_ x h2
   rw [this]
   rw [flatMap_eq_nil_iff]
   exact fun _ _=>rfl
theorem fst_prod {sp:List (Int×Str)}{T:FT}{F:Lg}(h:Fst w0 w1 T F)(body:List Int):(∀x∈body,lacks T x=false)→catS (body.map (symTxt sp T))∈prodL sp F body∧∀u∈prodL sp F body,¬bef w0 w1 u (catS (body.map (symTxt sp T))):=by
 induction body using snoc_ind with
 | h0=>
  intro _
  rw [prodL_nil]
  refine⟨mem_singleton.mpr rfl,fun u hu=>?_⟩
  rw [mem_singleton] at hu;subst hu
  exact bef_irrefl h0 h1 _
 | hs l x ih=>
  intro hl
  have i:=ih fun y hy=>hl y (mem_append_left _ hy)
  have hx:=hl x (mem_append_right _ (mem_singleton.mpr rfl))
  have s:symTxt sp T x∈symL sp F x∧∀u∈symL sp F x,¬bef w0 w1 u (symTxt sp T x):=by
   unfold symTxt symL
   by_cases hb:x>255
   ·rw [if_pos hb,if_neg (by exact Int.not_lt.2 (lw [_] [(.add (.num 255) (.num 1),iA)] (.num 256) iA rfl hb))]
    cases hq:lookD T x with
    | none=>
     exfalso
     unfold lacks at hx
     rw [hq] at hx
     simp at hx;exact cnF (lz [_] [(1,.add (.num 255) (.num 1),iA),(1,iA,.num 255)] 0 (.num 1) (.num 0) rfl hb hx)
    | some p=>exact (h.some_ x p hq).2
   ·rw [if_neg hb,if_pos (by exact lw [_] [(iA,.num 255)] (si iA) (.num 256) rfl (Int.not_lt.1 hb))]
    refine⟨mem_singleton.mpr rfl,fun u hu=>?_⟩
    rw [mem_singleton] at hu;subst hu
    exact bef_irrefl h0 h1 _
  rw [List.map_append,map_cons,map_nil,catS_snoc,prodL_snoc]
  refine⟨mem_flatMap.mpr ⟨_,i.1,mem_map.mpr ⟨_,s.1,rfl⟩⟩,fun u hu=>?_⟩
  obtain⟨a,ha,hu⟩:=mem_flatMap.mp hu
  obtain⟨b,hb,rfl⟩:=mem_map.mp hu
  exact bef_cat h0 h1 (i.2 a ha) (s.2 b hb)
theorem fst_step {sp:List (Int×Str)}{T:FT}{F:Lg}(h:Fst w0 w1 T F)(r:List Int):Fst w0 w1 (firstStep sp w0 w1 T r) (langStep sp F r):=by
 unfold firstStep
 by_cases hf:(r.drop 1).filter (lacks T)=[]
 ·rw [if_pos hf]
  have hl:∀x∈r.drop 1,lacks T x=false:=fun x hx=>by
   have:=filter_eq_nil_iff.mp hf x hx
   simpa using this
  have P:=fst_prod h0 h1 (sp:=sp) h _ hl
  generalize ht:catS ((r.drop 1).map (symTxt sp T))=t at P
  have hnew:newOf sp T (r.drop 1)=(t,(t.length:Int)):=by unfold newOf;rw [ht]
  rw [hnew]
  have key:∀p,(if told w0 w1 (t,(t.length:Int)) ((lookD T (r.headD 0)).getD (t,(t.length:Int)))<0 then (t,(t.length:Int)) else (lookD T (r.headD 0)).getD (t,(t.length:Int)))=p→
    p.2=(p.1.length:Int)∧p.1∈F (r.headD 0)++prodL sp F (r.drop 1)∧∀u∈F (r.headD 0)++prodL sp F (r.drop 1),¬bef w0 w1 u p.1:=by
   rintro p rfl
   cases hq:lookD T (r.headD 0) with
   | none=>
    rw [Option.getD_none,ite_self,h.none_ _ hq,nil_append]
    exact⟨rfl,P⟩
   | some p=>
    rw [Option.getD_some]
    have S:=h.some_ _ p hq
    have ep:p=(p.1,(p.1.length:Int)):=Prod.ext rfl S.1
    rw [ep]
    by_cases hb:bef w0 w1 t p.1
    ·rw [if_pos (show told w0 w1 (t,(t.length:Int)) (p.1,(p.1.length:Int))<0 from hb)]
     refine⟨rfl,mem_append_right _ P.1,fun u hu=>?_⟩
     rcases mem_append.mp hu with hu|hu
     ·exact fun q=>S.2.2 u hu (bef_trans h0 h1 q hb)
     ·exact P.2 u hu
    ·rw [if_neg (show ¬told w0 w1 (t,(t.length:Int)) (p.1,(p.1.length:Int))<0 from hb)]
     refine⟨rfl,mem_append_left _ S.2.1,fun u hu=>?_⟩
     rcases mem_append.mp hu with hu|hu
     ·exact S.2.2 u hu
     ·exact bef_le h0 h1 hb (P.2 u hu)
  refine⟨fun A hA=>?_,fun A p hp=>?_⟩
  ·rw [lookD_put] at hA
   unfold langStep
   split at hA
   ·exact nomatch hA
   ·rename_i hn;rw [if_neg hn];exact h.none_ A hA
  ·rw [lookD_put] at hp
   unfold langStep
   split at hp
   ·rename_i he
    rw [if_pos he,he]
    exact key p (Option.some.inj hp)
   ·rename_i hn;rw [if_neg hn];exact h.some_ A p hp
 ·rw [if_neg hf]
  have:prodL sp F (r.drop 1)=[]:=by
   refine fst_none h _ ?_
   obtain⟨x,hx⟩:=exists_mem_of_ne_nil _ hf
   have:=mem_filter.mp hx
   exact⟨x,this.1,this.2⟩
  have e:langStep sp F r=F:=by
   funext A
   unfold langStep
   split
   ·rw [this,append_nil]
   ·rfl
  rw [e];exact h
theorem first_rel (sp:List (Int×Str))(rules:List (List Int)):Fst w0 w1 (firstOf sp w0 w1 rules) (lang sp rules):=by
 unfold firstOf lang
 generalize hi:([]:FT)=T
 generalize hj:(fun _=>[]:Lg)=F
 have h:Fst w0 w1 T F:=by
  subst hi;subst hj
  exact⟨fun _ _=>rfl,fun A p hp=>nomatch hp⟩
 clear hi hj
 induction rules generalizing T F with
 | nil=>exact h
 | cons r rules ih=>
  rw [foldl_cons,foldl_cons]
  exact ih _ _ (fst_step h0 h1 h r)
theorem GOk.first {sp:List (Int×Str)}{rules:List (List Int)}(g:GOk sp rules):FirstOk sp w0 w1 rules where
 len:=nT g.len (by decide)
 row:=fun r hr=>⟨(g.row r hr).1,nT (g.row r hr).2 (by decide)⟩
 spells:=fun r hr x hx h=>(g.spl r hr x hx (lw [_] [(iA,.num 255)] (si iA) (.num 256) rfl (Int.not_lt.1 h))).1
 size:=fun i r hi x hx=>by
  have hr:=mem_of_getElem? hi
  unfold symTxt
  split
  ·cases hq:lookD (firstOf sp w0 w1 (rules.take i)) x with
   | none=>exact Nat.zero_le _
   | some p=>
    have:=((first_rel h0 h1 sp (rules.take i)).some_ x p hq).2.1
    exact nT ((pre_bd (g.bd x) i).size _ this) (by decide)
  ·rename_i h
   exact nT (g.spl r hr x hx (lw [_] [(iA,.num 255)] (si iA) (.num 256) rfl (Int.not_lt.1 h))).2 (by decide)
end
end Mine
namespace Mine
theorem prod_ne {sp:List (Int×Str)}{F:Lg}(body:List Int):(∀x∈body,symL sp F x≠[])→prodL sp F body≠[]:=by
 induction body using snoc_ind with
 | h0=>intro _;rw [prodL_nil];exact cons_ne_nil _ _
 | hs l x ih=>
  intro h
  have i:=ih fun y hy=>h y (mem_append_left _ hy)
  have hx:=h x (mem_append_right _ (mem_singleton.mpr rfl))
  rw [prodL_snoc]
  obtain⟨a,ha⟩:=exists_mem_of_ne_nil _ i
  obtain⟨b,hb⟩:=exists_mem_of_ne_nil _ hx
  exact ne_nil_of_mem (mem_flatMap.mpr ⟨a,ha,mem_map.mpr ⟨b,hb,rfl⟩⟩)
theorem gram_ne {other:Int}{word:Str}(W:Wd other word){rules:List (List Int)}(g:Gram other rules):∀A,(A=256∨A=257∨A=258)→lang (bareM other word) rules A≠[]:=by
 have fix:=lang_fix (sp:=bareM other word) (g.isFalls W)
 generalize lang (bareM other word) rules=F at fix ⊢
 have step:∀A,(A=256∨A=257∨A=258)→(∀B,A<B→(B=257∨B=258)→F B≠[])→F A≠[]:=fun A hA h=>by
  obtain⟨r,hr,e⟩:=gram_has g hA
  have hp:prodL (bareM other word) F (r.drop 1)≠[]:=by
   refine prod_ne _ fun x hx=>?_
   unfold symL
   rcases trm_of W g hr hx with q|⟨q1,q2,q3⟩
   ·rw [if_pos q.small];exact cons_ne_nil _ _
   ·rw [if_neg q1];exact h x (lw [_,_,_] [(iA,iB),(si iB,iC)] (si iA) iC rfl (iqR e) q2) q3
  obtain⟨a,ha⟩:=exists_mem_of_ne_nil _ hp
  rw [fix A]
  exact ne_nil_of_mem (mem_flatMap.mpr ⟨r,mem_filter.mpr ⟨hr,decide_eq_true e⟩,ha⟩)
 have b258:F 258≠[]:=step 258 (by decide) fun B h1 h2=>by lia
 have b257:F 257≠[]:=step 257 (by decide) fun B h1 h2=>by
  have:B=258:=by lia
  rw [this];exact b258
 rintro A (rfl|rfl|rfl)
 ·exact step 256 (by decide) fun B _ h2=>by
   rcases h2 with rfl|rfl
   ·exact b257
   ·exact b258
 ·exact b257
 ·exact b258
noncomputable def atSt (st:Int)(p:Str×Int):Bool:=decide (endI 0 p.1=st)
noncomputable def sentOf (tb:DS)(st:Int):DS:=(tb.filter (atSt st)).foldl (fun d p=>addD d [(outI 0 p.1,p.2)]) []
noncomputable def postOf (tb:DS)(st:Int):List Str:=(tb.filter (atSt st)).map fun p=>outI 0 p.1
theorem sentOf_eq (tb:DS)(st:Int):sentOf tb st=addD [] ((tb.filter (atSt st)).map fun p=>(outI 0 p.1,p.2)):=by
 unfold sentOf addD
 rw [List.foldl_map];rfl
theorem spread_filter (f:Str→Bool):∀t:DS,spread (t.filter fun p=>f p.1)=(spread t).filter f
 | []=>rfl
 | p::t=>by
  have ih:=spread_filter f t
  show _=(List.replicate p.2.toNat p.1++spread t).filter f
  rw [filter_append,←ih,filter_cons]
  by_cases h:f p.1=true
  ·rw [if_pos h,List.filter_replicate,if_pos h];rfl
  ·rw [if_neg h,List.filter_replicate,if_neg h];rfl
theorem spread_map (f:Str→Str):∀t:DS,spread (t.map fun p=>(f p.1,p.2))=(spread t).map f
 | []=>rfl
 | p::t=>by
  have ih:=spread_map f t
  show List.replicate p.2.toNat (f p.1)++spread (t.map fun p=>(f p.1,p.2))=(List.replicate p.2.toNat p.1++spread t).map f
  rw [List.map_append,ih,List.map_replicate]
theorem sent_rep {tb:DS}{L:List Str}(r:Rep tb L)(st:Int):Rep (sentOf tb st) ((L.filter fun a=>decide (endI 0 a=st)).map (outI 0)):=by
 rw [sentOf_eq]
 have h:=rep_fold ((tb.filter (atSt st)).map fun p=>(outI 0 p.1,p.2)) [] [] Rep.nil (fun p hp=>by
  obtain⟨q,hq,rfl⟩:=mem_map.mp hp
  exact r.posv q (mem_filter.mp hq).1)
 rw [nil_append,spread_map] at h
 refine h.perm (List.Perm.map _ ?_)
 have:spread (tb.filter (atSt st))=(spread tb).filter fun a=>decide (endI 0 a=st):=spread_filter (fun a=>decide (endI 0 a=st)) tb
 rw [this]
 exact r.spread.filter _
section
variable {other:Int}{word:Str}(W:Wd other word){rules sender:List (List Int)}(g:Gram other rules)(s:Sends rules sender){tb:DS}(ht:lookD (tablesOf (bareM other word) rules) 256=some tb)
include W g s ht
theorem tb_rep:Rep tb (lang (bareM other word) rules 256):=by
 have:=tables_rep (bareM other word) rules 256
 rwa [ht] at this
theorem sent_rep2 {st:Int}(hst:st∈thr):Rep (sentOf tb st) (lang (markM other word) sender (256+st)):=by
 have h:=sent_rep (tb_rep W g s ht) st
 have p:=send_lang W g s (.inl rfl) (show (0:Int)∈startsOf 256 by decide) hst
 have e:idx 256 0 st=256+st:=by unfold idx;exact iT (lw [_] [] (.add (.add (.add (.num 256) (.mulL 9 (.sub (.num 256) (.num 256)))) (.mulL 3 (.num 0))) iA) (.add (.num 256) iA) rfl) (lw [_] [] (.add (.num 256) iA) (.add (.add (.add (.num 256) (.mulL 9 (.sub (.num 256) (.num 256)))) (.mulL 3 (.num 0))) iA) rfl)
 rw [e] at p
 exact h.perm p.symm
theorem post_mem {st:Int}(hst:st∈thr)(m:Str):m∈postOf tb st↔m∈lang (markM other word) sender (256+st):=by
 have p:=send_lang W g s (.inl rfl) (show (0:Int)∈startsOf 256 by decide) hst
 have e:idx 256 0 st=256+st:=by unfold idx;exact iT (lw [_] [] (.add (.add (.add (.num 256) (.mulL 9 (.sub (.num 256) (.num 256)))) (.mulL 3 (.num 0))) iA) (.add (.num 256) iA) rfl) (lw [_] [] (.add (.num 256) iA) (.add (.add (.add (.num 256) (.mulL 9 (.sub (.num 256) (.num 256)))) (.mulL 3 (.num 0))) iA) rfl)
 rw [e] at p
 have r:=tb_rep W g s ht
 rw [p.mem_iff]
 unfold postOf
 rw [mem_map,mem_map]
 constructor
 ·rintro ⟨q,hq,rfl⟩
  have:=mem_filter.mp hq
  exact⟨q.1,mem_filter.mpr ⟨r.pos q this.1,this.2⟩,rfl⟩
 ·rintro ⟨a,ha,rfl⟩
  have:=mem_filter.mp ha
  obtain⟨v,hv⟩:=r.all a this.1
  exact⟨(a,v),mem_filter.mpr ⟨hv,this.2⟩,rfl⟩
theorem post_ne:(thr.flatMap (postOf tb))≠[]:=by
 obtain⟨a,ha⟩:=exists_mem_of_ne_nil _ (gram_ne W g 256 (.inl rfl))
 obtain⟨v,hv⟩:=(tb_rep W g s ht).all a ha
 have h0:endI 0 a∈thr:=endI_thr (by decide) a
 refine ne_nil_of_mem (mem_flatMap.mpr ⟨_,h0,mem_map.mpr ⟨(a,v),mem_filter.mpr ⟨hv,?_⟩,rfl⟩⟩)
 unfold atSt;simp
theorem post_small:∀m∈thr.flatMap (postOf tb),m.length≤64:=by
 intro m hm
 obtain⟨st,hst,hm⟩:=mem_flatMap.mp hm
 exact (send_bd W g s (256+st)).size m ((post_mem W g s ht hst m).mp hm)
theorem tb_len:tb.length≤128:=nT (tb_rep W g s ht).len (gram_bd W g 256).len
theorem tb_small:∀p∈tb,p.1.length≤32∧0<p.2∧p.2≤128:=by
 intro p hp
 have r:=tb_rep W g s ht
 have b:=gram_bd W g 256
 refine⟨b.size _ (r.pos p hp),r.posv p hp,?_⟩
 rw [r.val p hp]
 have:=List.count_le_length (a:=p.1) (l:=lang (bareM other word) rules 256)
 have:=b.len
 exact Int.le_trans (cnL (by assumption)) (cnL this)
theorem post_len:(thr.flatMap (postOf tb)).length≤384:=by
 have:=sum_flat (postOf tb) 128 thr fun st _=>by
  unfold postOf
  rw [length_map]
  exact nT (length_filter_le _ _) (tb_len W g s ht)
 exact this
end
theorem Rep.get {t:DS}{L:List Str}(r:Rep t L){p:Str×Int}(hp:p∈t):getD' t p.1=some p.2:=by
 unfold getD'
 have hd:=r.nodup
 clear r
 induction t with
 | nil=>exact nomatch hp
 | cons q t ih=>
  rw [map_cons,nodup_cons] at hd
  rcases mem_cons.mp hp with rfl|hp
  ·rw [find?_cons_of_pos (by simp)];rfl
  ·have hne:q.1≠p.1:=fun e=>hd.1 (mem_map.mpr ⟨p,hp,e.symm⟩)
   rw [find?_cons_of_neg (by simpa using hne)]
   exact ih hp hd.2
theorem Rep.sub {t u:DS}{L:List Str}(r:Rep t L)(r':Rep u L):∀p∈t,p∈u:=fun p hp=>by
 obtain⟨v,hv⟩:=r'.all p.1 (r.pos p hp)
 have h1:=r'.val _ hv
 have h2:=r.val p hp
 have:p=(p.1,v):=Prod.ext rfl (by rw [h2];exact h1.symm)
 rw [this];exact hv
theorem Rep.eq_len {t u:DS}{L:List Str}(r:Rep t L)(r':Rep u L):t.length=u.length:=by
 have nd:∀{t:DS},(t.map (·.1)).Nodup→t.Nodup:=fun {t} h=>by
  induction t with
  | nil=>exact nodup_nil
  | cons q t ih=>
   rw [map_cons,nodup_cons] at h
   rw [nodup_cons]
   exact⟨fun hq=>h.1 (mem_map.mpr ⟨q,hq,rfl⟩),ih h.2⟩
 exact ((List.perm_ext_iff_of_nodup (nd r.nodup) (nd r'.nodup)).mpr fun p=>⟨r.sub r' p,r'.sub r p⟩).length_eq
theorem sorted_end {α:Type}{R:α→α→Prop}(hr:∀a,R a a){xs ys:List α}(hp:ys.Perm xs)(hs:ys.Pairwise R)(hne:xs≠[])(up:Bool) :
  ∃v,ys[if up=true then 0 else ys.length - 1]?=some v∧v∈xs∧∀m∈xs,if up=true then R v m else R m v:=by
 have hne':ys≠[]:=fun e=>hne (by rw [e] at hp;exact hp.symm.eq_nil)
 have hpos:0<ys.length:=List.length_pos_iff.mpr hne'
 cases up with
 | true=>
  refine⟨ys[0],by simp [hpos],hp.mem_iff.mp (getElem_mem _),fun m hm=>?_⟩
  rw [if_pos rfl]
  obtain⟨i,hi,rfl⟩:=mem_iff_getElem.mp (hp.mem_iff.mpr hm)
  rcases Nat.eq_zero_or_pos i with rfl|hi0
  ·exact hr _
  ·exact pairwise_iff_getElem.mp hs 0 i hpos hi hi0
 | false=>
  refine⟨ys[ys.length - 1],by simp [getElem?_eq_getElem (show ys.length - 1<ys.length by exact sbB _ _ (lp [_] [(.add (.num 0) (.num 1),zA)] (.num 1) zA rfl hpos))],hp.mem_iff.mp (getElem_mem _),fun m hm=>?_⟩
  rw [if_neg (by simp)]
  obtain⟨i,hi,rfl⟩:=mem_iff_getElem.mp (hp.mem_iff.mpr hm)
  rcases Nat.lt_or_ge i (ys.length - 1) with hlt|hge
  ·exact pairwise_iff_getElem.mp hs i _ hi (sbB _ _ (lp [_,_,_] [(su zA,zB),(zB,zC)] (.num 1) zC rfl hlt (Nat.sub_le _ _))) hlt
  ·have:i=ys.length - 1:=nA (lp [_,_,_] [(su zA,zB),(zB,su zC)] zA zC rfl hi (sbA _ _)) hge
   subst this;exact hr _
theorem pick_first {w0 w1:Int}(h0:w0≠0)(h1:w1≠0){P:List Str}(hne:P≠[]){ys:List Int}(hp:ys.Perm (P.map fun m=>(m.length:Int)))(hs:ys.Pairwise (·≤·)) :
  ∃size,ys[if decide (w0>0)=true then 0 else ys.length - 1]?=some size∧P.filter (fun m=>decide ((m.length:Int)=size))≠[]∧
   ∀zs:List Str,zs.Perm (P.filter fun m=>decide ((m.length:Int)=size))→zs.Pairwise (fun x y=>¬y.cps.toList<x.cps.toList)→
    ∃text,zs[if decide (w1>0)=true then 0 else zs.length - 1]?=some text∧text∈P∧size=(text.length:Int)∧∀m∈P,¬bef w0 w1 m text:=by
 obtain⟨size,e1,e2,e3⟩:=sorted_end (R:=fun a b:Int=>a≤b) (fun a=>Int.le_refl a) hp hs (by simpa using hne) (decide (w0>0))
 obtain⟨m0,hm0,em0⟩:=mem_map.mp e2
 have hfne:P.filter (fun m=>decide ((m.length:Int)=size))≠[]:=ne_nil_of_mem (mem_filter.mpr ⟨hm0,decide_eq_true em0⟩)
 refine⟨size,e1,hfne,fun zs hz hzs=>?_⟩
 obtain⟨text,t1,t2,t3⟩:=sorted_end (R:=fun x y:Str=>¬y.cps.toList<x.cps.toList) (fun a h=>List.lt_irrefl _ h) hz hzs hfne (decide (w1>0))
 have ht:=mem_filter.mp t2
 have hsz:(text.length:Int)=size:=of_decide_eq_true ht.2
 refine⟨text,t1,ht.1,hsz.symm,fun m hm=>?_⟩
 rw [bef_iff h0 h1]
 have hk:=e3 _ (mem_map.mpr ⟨m,hm,rfl⟩)
 rintro (h|⟨e,h⟩)
 ·unfold kk at h
  by_cases hw:w0>0
  ·rw [if_pos hw,if_pos hw] at h
   rw [if_pos (decide_eq_true hw)] at hk
   exact cnF (lz [_,_,_] [(1,iA,iB),(1,iB,iC),(1,si iC,iA)] 0 (.num 1) (.num 0) rfl (iqL hsz) hk h)
  ·rw [if_neg hw,if_neg hw] at h
   rw [if_neg (by simpa using hw)] at hk
   exact cnF (lz [_,_,_] [(1,iA,iB),(1,iC,iA),(1,.add (.neg iC) (.num 1),.neg iB)] 0 (.num 1) (.num 0) rfl (iqR hsz) hk h)
 ·have el:(m.length:Int)=size:=by
   have:=kk_eq.mp e
   exact iT (Int.le_trans (cnL (eqL this)) (iqL hsz)) (Int.le_trans (iqR hsz) (cnL (eqR this)))
  have ht3:=t3 m (mem_filter.mpr ⟨hm,decide_eq_true el⟩)
  unfold lx at h
  by_cases hw:w1>0
  ·rw [if_pos hw] at h
   rw [if_pos (decide_eq_true hw)] at ht3
   exact ht3 h
  ·rw [if_neg hw] at h
   rw [if_neg (by simpa using hw)] at ht3
   exact ht3 h
noncomputable def bestOf (T:FT):List (Str×Int):=thr.filterMap fun st=>lookD T (256+st)
theorem best_law {w0 w1:Int}(h0:w0≠0)(h1:w1≠0){other:Int}{word:Str}(W:Wd other word){rules sender:List (List Int)}(g:Gram other rules)(s:Sends rules sender){tb:DS}(ht:lookD (tablesOf (bareM other word) rules) 256=some tb)
  {text:Str}(hm:text∈thr.flatMap (postOf tb))(hmin:∀m∈thr.flatMap (postOf tb),¬bef w0 w1 m text) :
  (text,(text.length:Int))∈bestOf (firstOf (markM other word) w0 w1 sender)∧∀row∈bestOf (firstOf (markM other word) w0 w1 sender),¬told w0 w1 row (text,(text.length:Int))<0:=by
 have F:=first_rel h0 h1 (markM other word) sender
 have inP:∀st∈thr,∀p,lookD (firstOf (markM other word) w0 w1 sender) (256+st)=some p→p.1∈thr.flatMap (postOf tb):=fun st hst p hp=>
  mem_flatMap.mpr ⟨st,hst,(post_mem W g s ht hst p.1).mpr (F.some_ _ p hp).2.1⟩
 constructor
 ·obtain⟨st,hst,hm'⟩:=mem_flatMap.mp hm
  have hl:=(post_mem W g s ht hst text).mp hm'
  cases hq:lookD (firstOf (markM other word) w0 w1 sender) (256+st) with
  | none=>rw [F.none_ _ hq] at hl;exact nomatch hl
  | some p=>
   have S:=F.some_ _ p hq
   have e:p.1=text:=by
    rcases bef_tri h0 h1 p.1 text with q|q|q
    ·exact absurd q (hmin _ (inP st hst p hq))
    ·exact q
    ·exact absurd q (S.2.2 text hl)
   unfold bestOf
   refine List.mem_filterMap.mpr ⟨st,hst,?_⟩
   rw [hq,←e,←S.1]
 ·intro row hrow
  obtain⟨st,hst,hq⟩:=List.mem_filterMap.mp hrow
  have S:=F.some_ _ row hq
  have e:row=(row.1,(row.1.length:Int)):=Prod.ext rfl S.1
  rw [e]
  exact hmin _ (inP st hst row hq)
end Mine
namespace Mine
noncomputable def tapeRows (i:Nat)(row:List Int):List (List Int):=[(256+(i:Int))::(row.take 2).filter (fun x=>x != 0),(256+(i:Int))::(row.drop 2).filter (fun x=>x != 0)]
theorem tapeK_rows (i:Nat)(row:List Int):tapeK i row=(tapeRows i row).flatMap (·++[0]):=by
 unfold tapeK tapeRows;simp
noncomputable def rowsTo (draws sym:List Int)(n:Nat):List (List Int):=(List.range n).flatMap fun i=>tapeRows i (rowOf sym (sizesK.getD i []) (draws.getD i 0))
theorem tapeTo_rows (draws sym:List Int)(n:Nat):tapeTo draws sym n=(rowsTo draws sym n).flatMap (·++[0]):=by
 unfold tapeTo rowsTo
 rw [flatMap_assoc]
 exact flat_congr fun i _=>tapeK_rows _ _
theorem rowOf_mem (sym:List Int):∀(zs:List Int)(n:Int),(∀z∈zs,0<z)→∀x∈rowOf sym zs n,∃z∈zs,∃k:Nat,(k:Int)<z∧x=sym.getD k 0
 | [],_,_,_,hx=>nomatch hx
 | z::zs,n,h,x,hx=>by
  rcases mem_cons.mp hx with rfl|hx
  ·have hz:=h z mem_cons_self
   have h1:=Int.fmod_nonneg_of_pos n hz
   have h2:=Int.fmod_lt_of_pos n hz
   exact⟨z,mem_cons_self,(n.fmod z).toNat,lw [_,_,_] [(si iA,iB),(iC,iA)] (si iC) iB rfl h2 (cnT h1),rfl⟩
  ·obtain⟨y,hy,r⟩:=rowOf_mem sym zs _ (fun y hy=>h y (mem_cons_of_mem _ hy)) x hx
   exact⟨y,mem_cons_of_mem _ hy,r⟩
theorem sym_cases {other x:Int}{k:Nat}(hk:k<8)(h:x=(symT other 23 52).getD k 0)(hn:x≠0):x=other∨x=4∨x=63∨x=23∨x=52∨(x=258∧k=6)∨(x=257∧k=7):=by
 subst h
 match k,hk,hn with
 | 0,_,hn=>exact absurd rfl hn
 | 1,_,_=>exact .inl rfl
 | 2,_,_=>exact .inr (.inl rfl)
 | 3,_,_=>exact .inr (.inr (.inl rfl))
 | 4,_,_=>exact .inr (.inr (.inr (.inl rfl)))
 | 5,_,_=>exact .inr (.inr (.inr (.inr (.inl rfl))))
 | 6,_,_=>exact .inr (.inr (.inr (.inr (.inr (.inl ⟨rfl,rfl⟩)))))
 | 7,_,_=>exact .inr (.inr (.inr (.inr (.inr (.inr ⟨rfl,rfl⟩)))))
theorem rows_ok {draws:List Int}{other:Int}:∀r∈rowsTo draws (symT other 23 52) 3,r≠[]∧r.length≤3∧(r.headD 0=256∨r.headD 0=257∨r.headD 0=258)∧(∀x∈r.drop 1,x≠0)∧
  ∀x∈r.drop 1,x=other∨x=4∨x=63∨x=23∨x=52∨(r.headD 0<x∧(x=257∨x=258)):=by
 intro r hr
 unfold rowsTo at hr
 obtain⟨i,hi,hr⟩:=mem_flatMap.mp hr
 rw [mem_range] at hi
 have hz:∀z∈sizesK.getD i [],0<z∧z≤8 - i:=by
  have:∀i<3,∀z∈sizesK.getD i [],0<z∧z≤8 - (i:Int):=by decide
  exact this i hi
 have hl:(rowOf (symT other 23 52) (sizesK.getD i []) (draws.getD i 0)).length≤4:=by
  rw [rowOf_length]
  have:∀i<3,(sizesK.getD i []).length≤4:=by decide
  exact this i hi
 have hm:=rowOf_mem (symT other 23 52) (sizesK.getD i []) (draws.getD i 0) fun z h=>(hz z h).1
 generalize rowOf (symT other 23 52) (sizesK.getD i []) (draws.getD i 0)=row at hr hl hm
 have part:∀(sub:List Int),sub.length≤2→(∀x∈sub,x∈row)→∀q,q=(256+(i:Int))::sub.filter (fun x=>x != 0)→q≠[]∧q.length≤3∧(q.headD 0=256∨q.headD 0=257∨q.headD 0=258)∧(∀x∈q.drop 1,x≠0)∧
   ∀x∈q.drop 1,x=other∨x=4∨x=63∨x=23∨x=52∨(q.headD 0<x∧(x=257∨x=258)):=by
  rintro sub hs hsub q rfl
  have nz:∀x∈sub.filter (fun x=>x != 0),x≠0:=fun x hx=>by simpa using (mem_filter.mp hx).2
  refine⟨cons_ne_nil _ _,?_,?_,nz,fun x hx=>?_⟩
  ·rw [length_cons]
   have:=length_filter_le (fun x:Int=>x != 0) sub
   exact lp [_,_] [(zA,.num 2),(zB,zA)] (su zB) (.num 3) rfl hs this
  ·exact (by decide:∀i:Nat,i<3→(256+(i:Int)=256∨256+(i:Int)=257∨256+(i:Int)=258)) i hi
  ·have hx':=(mem_filter.mp hx).1
   obtain⟨z,hz1,k,hk,e⟩:=hm x (hsub x hx')
   have:=hz z hz1
   show x=other∨x=4∨x=63∨x=23∨x=52∨(256+(i:Int)<x∧(x=257∨x=258))
   rcases sym_cases (Int.ofNat_lt.1 (lw [_,_,_] [(si iA,iB),(iB,.sub (.num 8) iC),(.num 0,iC)] (si iA) (.num 8) rfl hk this.2 (cn0 _))) e (nz x hx) with q|q|q|q|q|q|q
   ·exact .inl q
   ·exact .inr (.inl q)
   ·exact .inr (.inr (.inl q))
   ·exact .inr (.inr (.inr (.inl q)))
   ·exact .inr (.inr (.inr (.inr (.inl q))))
   ·exact .inr (.inr (.inr (.inr (.inr ⟨lw [_,_,_,_] [(si iA,iB),(iB,.sub (.num 8) iC),(.num 258,iD),(.num 6,iA)] (.add (.add (.num 256) iC) (.num 1)) iD rfl hk this.2 (iqR q.1) (cnL (eqR q.2)),.inr q.1⟩))))
   ·exact .inr (.inr (.inr (.inr (.inr ⟨lw [_,_,_,_] [(si iA,iB),(iB,.sub (.num 8) iC),(.num 257,iD),(.num 7,iA)] (.add (.add (.num 256) iC) (.num 1)) iD rfl hk this.2 (iqR q.1) (cnL (eqR q.2)),.inl q.1⟩))))
 unfold tapeRows at hr
 rcases mem_cons.mp hr with rfl|hr
 ·exact part (row.take 2) (by rw [length_take];exact Nat.min_le_left _ _) (fun x hx=>mem_of_mem_take hx) _ rfl
 ·rw [mem_singleton] at hr;subst hr
  exact part (row.drop 2) (by rw [length_drop];exact (Nat.le_total 2 (List.length row)).elim (fun hq2=>lp [_,_] [(zA,.num 4),(.add zB (.num 2),zA)] zB (.num 2) rfl hl (sbB _ _ hq2)) (fun hq2=>lp [_] [(zA,.num 0)] zA (.num 2) rfl (sbC _ _ hq2))) (fun x hx=>mem_of_mem_drop hx) _ rfl
theorem tape_split {draws:List Int}{other:Int}:(splitZ (tapeTo draws (symT other 23 52) 3)).1=rowsTo draws (symT other 23 52) 3:=by
 rw [tapeTo_rows,split_all]
 intro r hr x hx
 obtain⟨h1,_,h2,h3,_⟩:=rows_ok r hr
 cases r with
 | nil=>exact absurd rfl h1
 | cons a r=>
  rcases mem_cons.mp hx with rfl|hx
  ·rcases (show x=256∨x=257∨x=258 from h2) with rfl|rfl|rfl <;> decide
  ·exact h3 x hx
theorem tape_len (draws:List Int)(other:Int):(tapeTo draws (symT other 23 52) 3).length≤2 ^ 19:=by
 have:=sum_flat (fun i=>tapeK i (rowOf (symT other 23 52) (sizesK.getD i []) (draws.getD i 0))) 8 (List.range 3) (fun i hi=>by
  have h1:=tapeK_length i (rowOf (symT other 23 52) (sizesK.getD i []) (draws.getD i 0))
  rw [rowOf_length] at h1
  rw [mem_range] at hi
  have:∀i<3,(sizesK.getD i []).length≤4:=by decide
  have:=this i hi
  exact lp [_,_] [(zA,.add (.num 4) zB),(zB,.num 4)] zA (.num 8) rfl h1 this)
 have e:(tapeTo draws (symT other 23 52) 3).length≤8*(List.range 3).length:=this
 rw [length_range] at e
 exact lp [_] [(zA,.mulL 8 (.num 3))] zA (.num 524288) rfl e
theorem gram_of {draws:List Int}{other:Int}{rules:List (List Int)}(hp:rules.Perm (splitZ (tapeTo draws (symT other 23 52) 3)).1)(hs:rules.Pairwise fun x y=>¬x<y):Gram other rules:=by
 rw [tape_split] at hp
 have hr:=fun r hr=>rows_ok (draws:=draws) (other:=other) r (hp.mem_iff.mp hr)
 refine⟨?_,fun r h=>⟨(hr r h).1,(hr r h).2.1,(hr r h).2.2.1,(hr r h).2.2.2.2⟩,fun A hA=>?_,?_⟩
 ·exact hs.imp_of_mem fun {x y} hx hy h=>head_falls (hr x hx).1 (hr y hy).1 h
 ·rw [(hp.filter _).length_eq]
  unfold rowsTo
  simp only [show List.range 3=[0,1,2] from rfl,flatMap_cons,flatMap_nil,tapeRows,cons_append,nil_append]
  rcases hA with rfl|rfl|rfl <;> rfl
 ·rw [hp.length_eq];rfl
theorem sends_of {other:Int}{word:Str}(W:Wd other word){rules sender:List (List Int)}(g:Gram other rules)(hp:sender.Perm (splitZ (sendsOf rules)).1)(hs:sender.Pairwise fun x y=>¬x<y):Sends rules sender:=by
 refine⟨?_,hs⟩
 rw [sends_rows,split_all] at hp
 ·exact hp
 ·intro q hq x hx
  obtain⟨r,hr,st,hst,e,he,h1,h2,h3,h4⟩:=send_row W g hq
  cases q with
  | nil=>exact nomatch hx
  | cons a q=>
   have h6:256≤a:=(show a=_ from h1)▸idx_ge (g.big W r hr) (starts_thr hst) he
   rcases mem_cons.mp hx with rfl|hx
   ·exact fun e=>absurd (e▸h6) (by decide)
   ·rcases h4 x hx with ⟨_,h5,_⟩|⟨h5,_⟩
    ·exact h5
    ·exact fun e=>absurd (Int.lt_of_le_of_lt h6 (e▸h5)) (by decide)
theorem sends_len {other:Int}{rules:List (List Int)}(g:Gram other rules):(sendsOf rules).length≤2 ^ 19:=by
 have:=sum_flat sendRule 405 rules fun r hr=>sendRule_length r (nT (g.row r hr).2.1 (by decide))
 rw [g.all] at this
 have e:(sendsOf rules).length≤405*6:=this
 exact lp [_] [(zA,.mulL 405 (.num 6))] zA (.num 524288) rfl e
end Mine
section
variable {prog:Program}{w:World}{A:Around}{E:Value→Shared→Prop}{s:Shared}{h:Heap}{K:Heap}{base:Heap}{tk:Nat}{L:Addr}{f:Addr}{m:Str→Option Value}{led:List (Addr×Obj)}{env:Env}{α:Type}{β:Type}{qn:Str}{cd:Value}{O:Org}
namespace Mine
theorem nopl {a b:Int}(hb:b=46∨b=3∨b=4∨b=1000000):Builtin.divisionGoesByPylong a b=false:=by
 unfold Builtin.divisionGoesByPylong
 have:decide ((if (b == 0)=true then 0 else b.natAbs.log2 / 30+1)>300)=false:=by
  rcases hb with rfl|rfl|rfl|rfl <;> decide +kernel
 simp only [this,Bool.false_and]
section
variable {R:Rel α}
theorem St.keeps {h':Heap}(S:St O K L m led h)(hk:∀b o,h.get? b=some o→h'.get? b=some o):St O K L m led h':=
 S.move (fun b o _ _ e=>hk b o e) (S.ns.at' fun o e=>hk _ o e) (fun p hp=>⟨hk _ _ (S.ledg p hp).1,(S.ledg p hp).2⟩) S.nodup
theorem sameC_ne {C b:Addr}{o:Obj}{B:Heap}(hK:K.get? C=none)(hB:B.get? C=none)(hx:K.get? b=some o∨B.get? b=some o):b≠C:=by
 rintro rfl
 rcases hx with hx|hx
 ·rw [hK] at hx;cases hx
 ·rw [hB] at hx;cases hx
theorem St.sameC {h':Heap}{C:Addr}(S:St O K L m led h)(hs:Heap.SameBut C h h')(hK:K.get? C=none)(hB:O.B.get? C=none)(hL:C≠L)(hl:∀p∈led,p.1≠C):St O K L m led h':=
 S.move (fun b o _ hx e=>(hs.2 b (sameC_ne hK hB hx)).trans e) (S.ns.sameBut hs (Ne.symm hL))
  (fun p hp=>⟨(hs.2 _ (hl p hp)).trans (S.ledg p hp).1,(S.ledg p hp).2⟩) S.nodup
theorem for_goE {Qf:Flow→Shared→Prop}{Ra:Rel α}{xs:List α}{I:Addr}{ob:Obj}{target:Expr}{body:List Stmt}
  (S:St O K env.locals m ((I,ob)::led) h)(src:Src prog w A K h I Ra xs)(J:Nat→Heap→(Str→Option Value)→List (Addr×Obj)→Prop)(hJ:J 0 K m led)
  (turn:∀i a v K1 m1 led1 h1 tk1 ob1 E' (Q':Flow→Shared→Prop),xs[i]?=some a→Ra.r K1 v a→Sub K K1→J i K1 m1 led1→St O K1 env.locals m1 ((I,ob1)::led1) h1→
   (∀K' m' led' h' tk',Sub K1 K'→J (i+1) K' m' led'→St O K' env.locals m' ((I,ob1)::led') h'→Q' .next (sh s h' tk'))→
   wpAny (model prog w) A (assign target env v) (fun _ s2=>wpAny (model prog w) A (execs body env) Q' E' s2) E' (sh s h1 tk1))
  (done:∀K1 m1 led1 h1 tk1,Sub K K1→J xs.length K1 m1 led1→St O K1 env.locals m1 led1 h1→Qf .next (sh s h1 tk1))
  (ht:∀v,letOwnedTupleGo target (.ref I) v=pure ():=by intro _;rfl) :
  ForE prog w A E env target body Qf (.ref I) (sh s h tk):=
 for_coreE S src J hJ (fun i a v K1 m1 led1 h1 tk1 ob1 E' Q' a1 a2 a3 a4 a5 _ a7 _=>wpAny_of_eq (ht v) (turn i a v K1 m1 led1 h1 tk1 ob1 E' Q' a1 a2 a3 a4 a5 a7)) done
inductive CompAP {α β:Type}(prog:Program)(w:World)(A:Around)(s:Shared)(scope:Scope)(cl:List (Str×Addr))(env:Env)(x y:Str)(ifs:List Expr)(elt:Expr)(Ra:Rel α)(Rb:Rel β)(p:α→Bool)(f:α→β)(Q:Flow→Shared→Prop)(it:Value)(s₂:Shared):Prop
 | mk (O:Org) (K:Heap) (m:Str→Option Value) (led:List (Addr×Obj)) (I:Addr) (ob:Obj) (h:Heap) (tk:Nat) (xs:List α):it = .ref I→s₂=sh s h tk→xs.length≤2 ^ 24→St O K env.locals m ((I,ob)::led) h→
   Src prog w A K h I Ra xs→CompBody prog w A s h I K scope cl env x ifs elt Ra Rb xs p f→
   (∀v K' h' tk',St O K' env.locals (fun z=>if z=y then some v else m z) led h'→Sub K K'→(rList Rb).r K' v ((xs.filter p).map f)→Q .next (sh s h' tk'))→CompAP prog w A s scope cl env x y ifs elt Ra Rb p f Q it s₂
theorem comp_assign {Q:Flow→Shared→Prop}{Ra:Rel α}{Rb:Rel β}{elt iter:Expr}{x y:Str}{px py:Pos}{ifs:List Expr}{scope:Scope}{cl:List (Str×Addr)}{pos spos:Pos}(p:α→Bool)(f:α→β)
  (hsw:swapsWith (.ListComp elt [⟨.Name x px,iter,ifs,0⟩] scope pos) (some (.Name y py)) spos.line env=pure true)
  (hclos:closureFor scope env=pure cl)(hcell:∀y∈scope.names,y.2 ≠ .cell)(hkind:scope.kind = .function)
  (hnames:∀y∈scope.names,y.2 = .local→scope.names.lookup y.1=some .local)(hx:scope.names.lookup x=some .local)
  (hy:env.kindOf y=some .local)(hk:env.scope.kind = .function)
  (hit:wpAny (model prog w) A (eval iter env) (fun xv s₁=>wpAny (model prog w) A (pyIter xv) (CompAP prog w A s scope cl env x y ifs elt Ra Rb p f Q) E s₁) E (sh s h tk))
  (hs:∀x,foldedSetIterable iter env x=pure x:=by intro _;rfl) :
  wpAny (model prog w) A (exec (.Assign [.Name y py] (.ListComp elt [⟨.Name x px,iter,ifs,0⟩] scope pos) spos) env) Q E (sh s h tk):=by
 have hp:(env.scope.kind == .class||(env.scope.kind == .module&&env.locals != env.globals))=false:=by rw [hk];rfl
 rw [exec_Assign_Name_used _ _ _ _ hsw]
 refine wpAny_bind (wpAny_standAt (wpAny_bind ?_))
 show wpAny _ A (do let _ ←comprehension (.ListComp elt [⟨.Name x px,iter,ifs,0⟩] scope pos) scope env _ (newList []) false (eval iter env) (some (assign (.Name y py) env))) _ _ _
 refine wpAny_bind (wpAny_mono (wpAny_comprehension_free (use:=some (assign (.Name y py) env)) (Q:=fun _ s'=>Q .next s') rfl hs hclos hkind hnames
  (wpAny_mono hit (fun xv s₁ h₁=>wpAny_mono h₁ (fun it s₂ h₂=>?_) fun _ _ e=>e) fun _ _ e=>e)) (fun _ s' hq=>wpAny_pure (wpAny_pure hq)) fun _ _ e=>e)
 obtain⟨O,K,m,led,I,ob,h,tk,xs,rfl,rfl,hsz,S,src,B,hQ⟩:=h₂
 refine comp_run (R:=fun acc C=>compPost (model prog w) A E (some (assign (.Name y py) env)) (fun _ s'=>Q .next s') acc C) S src p f hcell hkind hx hsz B ?_
 intro D C K3 h2 tk2 mc hn hC hB g hv
 show wpAny _ A (assign (.Name y py) env (.ref D)) _ _ _
 have S2:=S.back g
 refine wpAny_assign_Name (wpAny_storeName_local hy S2.ns (fun h3 hn3 hs3=>?_) hp)
 have S3:=S2.store hn3 hs3
 have hLC:C≠env.locals:=fun e=>by
  have hl:=S.ns.lt
  rw [←e] at hl
  have ⟨o,_,_,ho,_⟩:=S.ns
  rw [←e,hB] at ho;cases ho
 refine⟨mc,hn.sameBut hs3 hLC,fun h4 hs4=>?_⟩
 refine hQ (.ref D) K3 h4 _ (S3.sameC hs4 hC ?_ hLC fun p hp e=>?_) g.kk hv
 ·cases q:O.B.get? C with
  | none=>rfl
  | some o=>have:=S.keepB _ _ q;rw [hB] at this;cases this
 ·have:=(S.ledg p (mem_cons_of_mem _ hp)).1
  rw [e,hB] at this;cases this
theorem ldf {x:Str}{pos:Pos}{c:Addr}{o:Obj}{v:Value}{Q:Value→Shared→Prop}(hh:h.get? c=some o)(ho:o.data = .cell (some v))(q:Q v (sh s h tk))
  (hc:env.cells.lookup x=some c)(hl:env.kindOf x=some .cell)(hk:env.scope.kind = .function)(hdb:(x == ("__debug__" : Str))=false) :
  wpAny (model prog w) A (eval (.Name x pos) env) Q E (sh s h tk):=wpAny_Name (wpAny_loadName_cell hk hl hc ⟨o,hh,ho⟩ q) hdb
theorem St.apart {I:Addr}{ob:Obj}(S:St O K L m ((I,ob)::led) h){i:Nat}{D:Addr}{o:Obj}(hi:led[i]?=some (D,o)):D≠I:=by
 have:=S.nodup
 rw [map_cons,nodup_cons] at this
 rintro rfl
 exact this.1 (mem_map.mpr ⟨_,mem_of_getElem? hi,rfl⟩)
theorem St.inComp {I C:Addr}{ob:Obj}{K1 h1:Heap}{m1:Str→Option Value}{led1:List (Addr×Obj)}(S:St O K L m ((I,ob)::led) h){i:Nat}{D:Addr}{o:Obj}(hi:led[i]?=some (D,o))(S1:St ⟨butI h I,K⟩ K1 C m1 led1 h1):h1.get? D=some o:=by
 refine S1.keepB _ _ ?_
 show (butI h I).get? D=some o
 rw [butI_get,if_neg (S.apart hi)]
 exact S.at (i+1) (by simpa using hi)
theorem sum_st {k:Nat}{v:Value}{xs:List Int}{Q:Value→Shared→Prop}(hA:OkA A (k+1))(S:St O K L m led h)(r:(rList rInt).r K v xs)
  (c:∀i t h' tk',St O K L m led h'→Q (.int i t) (sh s h' tk')):wpAny (model prog w) A (call (.builtin "sum") [v]) Q E (sh s h tk):=by
 obtain⟨a,vs,n,rfl,ha,x⟩:=r
 have hl:h.IsList a vs.toArray:=⟨_,S.stays _ _ ha,rfl,n,rfl⟩
 have hne:=S.ne_of_K ha
 refine call_sum_walkG (s:=sh s h tk) (wpAny_pyIter_list (s:=sh s h tk) hl ?_)
 have W:=Walks.list (prog:=prog) (w:=w) hA.in1.handled h.objs.size a hne vs.toArray
 have S1:=S.push { cls:=.type "list_iterator",data:=.fields #[.ref a,.int 0 0] }
 refine⟨h.objs.size,_,_,_,_,_,fun i=>xs.getD i 0,rfl,W,⟨⟨_,Heap.get?_push_size _ rfl,rfl,rfl⟩,hl.at fun o e=>Heap.get?_push_of_some _ e⟩,fun b hb=>?_,fun i v hv=>?_,fun h' tk' t' hk=>?_⟩
 ·simp only [mem_cons,not_mem_nil,or_false] at hb
  rcases hb with rfl|rfl
  ·exact get_lt (S1.at 0 rfl)
  ·exact get_lt (S1.tail.stays _ _ ha)
 ·obtain⟨b,hb,t,e⟩:=x.getL (by simpa using hv)
  refine⟨t,?_⟩
  rw [e];dsimp only;rw [getD_eq_getElem?_getD,hb];rfl
 ·refine c _ _ h' tk' (S.keeps fun b o e=>hk b o ?_ (Heap.get?_push_of_some _ e))
  simp only [mem_cons,not_mem_nil,or_false]
  exact Nat.ne_of_lt (get_lt e)
theorem strs_numbered (K:Heap):∀(tk:Nat)(xs:List Str),All2 (rStr.r K) (strsFrom tk xs) xs
 | _,[]=>.nil
 | tk,x::xs=>.cons ⟨tk,rfl⟩ (strs_numbered K (tk+1) xs)
theorem split_st {x y:Str}{t u:Tok}{Q:Value→Shared→Prop}(S:St O K L m led h)
  (h1:(decide (x.length<y.length)||decide (Builtin.Str.strKind x<Builtin.Str.strKind y))=false)(hy:(y.length == 0)=false)(hf:(Builtin.Str.occurrences x y 0 x.length (x.length+1)).isEmpty=false)
  (hsz:x.length≤sizeLine)(hsz2:(Builtin.Str.partsBetween x (Builtin.Str.occurrences x y 0 x.length (x.length+1)) y.length).length≤sizeLine)
  (c:∀K' h' tk' v,Sub K K'→St O K' L m led h'→(rList rStr).r K' v (Builtin.Str.partsBetween x (Builtin.Str.occurrences x y 0 x.length (x.length+1)) y.length)→Q v (sh s h' tk')) :
  wpAny (model prog w) A (call (.builtin "str.split") [.str x t,.str y u]) Q E (sh s h tk):=by
 refine call_meets (s:=sh s h tk) F.slot_str_split (typeIs_str _ _ _) F.entry_str_split (F.args_str_split_2 _ _) (meets_str_split_sep x y t u h1 hy hf hsz hsz2) ?_
 obtain⟨K1,hK1,S1,g⟩:=S.pushK (lo (strsFrom tk (Builtin.Str.partsBetween x (Builtin.Str.occurrences x y 0 x.length (x.length+1)) y.length)).toArray 0)
 exact c K1 _ _ _ hK1 S1 ⟨_,_,0,rfl,g,strs_numbered K1 _ _⟩
end
end Mine
namespace Mine
noncomputable def lwN:List Str:=["x","draws","every","sign","word","other","dot","dots","ways","faults","posted","rules","sends","sender","marks","told","state","kept","one","old","best"]
theorem lwN_nd:lwN.Nodup:=by decide +kernel
abbrev enL (q:Str)(L f:Addr)(cd:Value):Env:=en q (scopeOf (stA 72)) L f cd (cellsFrom (L+1) (scopeOf (stA 72)).names [])
abbrev cl8 (L:Nat)(o1 o2 o3 o4 o5 o6 o7 o8:Obj):List (Addr×Obj):=
 [((L+1:Nat),o1),((L+2:Nat),o2),((L+3:Nat),o3),((L+4:Nat),o4),((L+5:Nat),o5),((L+6:Nat),o6),((L+7:Nat),o7),((L+8:Nat),o8)]
noncomputable def bodyL:List Stmt:=bodyOf (stA 72)
noncomputable def lawTxt:Str:=strOf (kid (kid (valOf (bodyL.getD 2 (.Pass ⟨0,0,0,0⟩))) 0) 0)
noncomputable def everyS:List Str:=Builtin.Str.partsBetween lawTxt (Builtin.Str.occurrences lawTxt " " 0 lawTxt.length (lawTxt.length+1)) (" " : Str).length
noncomputable def headC (x:Str):Str:=⟨#[x.cps.toList.headD 0]⟩
noncomputable def signS:List Str:=everyS.filter fun x=>headC x != "."
theorem every_len:everyS.length=48:=by decide +kernel
theorem every_ne:∀x∈everyS,0<x.length:=by decide +kernel
theorem sign_len:signS.length=46:=by decide +kernel
noncomputable def rAny:Rel Unit:=⟨fun _ v _=>∃i t,v = .int i t,fun _ h=>h⟩
theorem any_ints {K:Heap}:∀{vs:List Value}{us:List Unit},All2 (rAny.r K) vs us→∃xs:List Int,All2 (rInt.r K) vs xs∧xs.length=us.length:=by
 intro vs us x
 induction x with
 | nil=>exact⟨[],.nil,rfl⟩
 | cons h _ ih=>
  obtain⟨i,t,e⟩:=h
  obtain⟨xs,h1,h2⟩:=ih
  exact⟨i::xs,.cons ⟨t,e⟩ h1,by rw [length_cons,length_cons,h2]⟩
noncomputable def sufS:List Str:=[""," ","\x0b"]
theorem pickL_len {α:Type}(xs:List α)(lo hi st:Option Int):(pickL xs lo hi st).length≤xs.length:=by
 have x:All2 (fun (_:Value) (_:α)=>True) (xs.map fun _=>Value.none) xs:=by
  induction xs with
  | nil=>exact .nil
  | cons a xs ih=>exact .cons trivial ih
 have h:=(pick_rel x lo hi st).length
 rw [←h]
 have:=slicePick_size_le (xs.map fun _=>Value.none).toArray lo hi st
 simpa using this
section
theorem w_draws {k:Nat}{m:List (Option Value)}{o1 o2 o3 o4 o5 o6 o7 o8:Obj}{v:Value}{script:List Int}{Q:Flow→Shared→Prop}(B:Mod base)(hb:Sub base K)(hA:OkA A (k+1))
  (S:St O K (enL qn L f cd).locals (loc lwN m) (cl8 L o1 o2 o3 o4 o5 o6 o7 o8) h)(hm:m.length=21)
  (e1:o1.data = .cell (some v))(rs:(rList rInt).r K v script)(hlen:script.length≤2 ^ 20){vb:Value}(e2:o2.data = .cell (some vb)){bs:List Int}(rb:(rTup rInt).r K vb bs)(hbs:bs.length=6)
  (c:∀K' h' tk' vd draws,Sub K K'→St O K' (enL qn L f cd).locals (loc lwN (m.set 1 (some vd))) (cl8 L o1 o2 o3 o4 o5 o6 o7 o8) h'→(rList rInt).r K' vd draws→draws.length=6→Q .next (sh s h' tk')) :
  wpAny (model prog w) A (exec (bodyL.getD 1 (.Pass ⟨0,0,0,0⟩)) (enL qn L f cd)) Q E (sh s h tk):=by
 obtain⟨T,bvs,rfl,hT,hbx⟩:=rb
 refine comp_assign (Ra:=rInt) (Rb:=rAny) (y:="draws") (fun _=>true) (fun _=>()) rfl rfl (by decide) rfl (by decide) (by decide) rfl rfl ?_ (fun _=>rfl)
 refine Call_ (gl_blt (v:=.type "range") B (hb.trans S.stays) (cw_type (args_cons (wpAny_Constant_int (args_nil ?_)))))
 refine iter_range (n:=6) hA S (.inr (.inr rfl)) fun I ob h1 tk1 S1 src hk1=>?_
 refine⟨_,K,_,_,I,ob,h1,_,_,rfl,rfl,by decide,S1,src,⟨?_,?_⟩,fun v K' h' tk' S6 hK6 hv=>?_⟩
 ·rintro a v K1 C led1 h6 tk6 Q' E' ha r hK hC S6 q
  exact tests0 (q K1 h6 tk6 (Sub.refl _) S6)
 ·rintro a v K1 C led1 h6 tk6 Q' E' ha hp ⟨t,rfl⟩ hK hC S6 q
  have ha6:0≤a∧a<6:=by
   obtain⟨j,hj,rfl⟩:=mem_map.mp ha
   rw [mem_range] at hj
   exact⟨Int.natCast_nonneg _,by show ((j:Nat):Int)<6;exact Int.ofNat_lt.2 ‹_›⟩
  have hs6:Sub base h6:=hb.trans (hK.trans S6.stays)
  refine wpAny_BinOp (Subscript_ (ldf (S1.inComp (i:=1) rfl S6) e2 (ld (env:=compEnvC _ _ C (enL qn L f cd)) S6 0 (by simp) ?_) rfl rfl rfl rfl))
  obtain⟨bv,hbv,⟨t2,rfl⟩⟩:=hbx.get (i:=a.toNat) (b:=bs[a.toNat]'(by lia)) (getElem?_eq_getElem (Int.ofNat_lt.1 (lw [_,_,_] [(.num 6,iA),(si iB,.num 6),(iC,iB)] (si iC) iA rfl (cnL (eqR hbs)) ha6.2 (cnT (ha6.1)))))
  refine item_tuT S6 (vs:=bvs) (hK _ _ hT) (j:=a.toNat) (by rw [hbx.length,hbs];exact seqIn ha6.1 ha6.2) (lw [_] [(.num 0,iA)] (.num (-9223372036854775808)) iA rfl ha6.1) (lw [_] [(si iA,.num 6)] (si iA) (.num 9223372036854775808) rfl ha6.2) hbv ?_
  refine Call_ (gl_blt (env:=compEnvC _ _ C (enL qn L f cd)) (v:=.builtin "sum") B hs6 (cw_blt (args_cons ?_)))
  refine comp_list (Ra:=rInt) (Rb:=rAny) (fun _=>true) (fun _=>()) rfl (by decide) rfl (by decide) (by decide) ?_ (fun _=>rfl)
  refine slice_lst3 (R:=rInt) (ldf (S1.inComp (i:=0) rfl S6) e1 ?_ rfl rfl rfl rfl)
  rw [evalPart_some]
  refine ld (env:=compEnvC _ _ C (enL qn L f cd)) S6 0 (by simp) (part_int fun t3=>wpAny_Constant_int ?_)
  refine⟨_,K1,_,_,_,h6,_,some a,some 60,6,script,rfl,S6,(rList rInt).mono hK rs,lp [_] [(zA,.num 1048576)] zA (.num 16777216) rfl hlen,.int a t,.int 60 t3,.int 6 _,by decide,fun K7 h7 v7 hK7 S7 hv7=>?_⟩
  refine iter_list hA S7 hv7 fun I2 ob2 h8 S8 src2=>?_
  refine⟨_,K7,_,_,_,I2,ob2,h8,_,_,rfl,rfl,?_,S8,src2,⟨?_,?_⟩,fun v9 K9 h9 tk9 S9 hK9 hv9=>?_⟩
  ·exact nT (pickL_len _ _ _ _) (lp [_] [(zA,.num 1048576)] zA (.num 16777216) rfl hlen)
  ·rintro a' v' K1' C' led1' h6' tk6' Q'' E'' ha' r' hK' hC' S6' q'
   exact tests0 (q' K1' h6' tk6' (Sub.refl _) S6')
  ·rintro a' v' K1' C' led1' h6' tk6' Q'' E'' ha' hp' ⟨t',rfl⟩ hK' hC' S6' q'
   refine wpAny_BinOp (ld (env:=compEnvC _ _ C' (compEnvC _ _ C (enL qn L f cd))) S6' 0 (by simp) (wpAny_Constant_int ?_))
   refine PyProof.Rows.mod_int (by decide) ?_
   exact q' _ K1' h6' _ (Sub.refl _) S6' ⟨_,_,rfl⟩
  ·obtain⟨la,lvs,ln,rfl,hla,hlx⟩:=hv9
   obtain⟨ys,hys,_⟩:=any_ints hlx
   refine args_nil (sum_st (k:=k) hA S9 ⟨la,lvs,ln,rfl,hla,hys⟩ fun i9 t9 h10 tk10 S10=>?_)
   refine P.add_int ?_
   exact q _ K9 h10 _ (hK7.trans hK9) S10 ⟨_,_,rfl⟩
 ·obtain⟨la,lvs,ln,rfl,hla,hlx⟩:=hv
  obtain⟨ys,hys,hl⟩:=any_ints hlx
  rw [loc_set 1 (ns:=lwN) rfl lwN_nd (lp [_] [(.num 21,zA)] (.add (.num 1) (.num 1)) zA rfl (eqR hm))] at S6
  exact c K' h' tk' _ ys hK6 S6 ⟨la,lvs,ln,rfl,hla,hys⟩ (by rw [hl];rfl)
variable {R:Rel α}
theorem item_lstR {value slice:Expr}{a:Addr}{vs:List Value}{n:Nat}{k:Int}{u:Tok}{x:Value}{Q:Value→Shared→Prop}(S:St O K L m led h)(ha:K.get? a=some (lo vs.toArray n))
  (h0:0≤k)(hfit:k<2 ^ 63)(hx:vs[k.toNat]?=some x)(q:Q x (sh s h tk))
  (hs:subscripted slice false (.ref a) (.int k u)=operate [.ref a,.int k u] (getItem (.ref a) (.int k u)):=by with_unfolding_all rfl) :
  wpAny (model prog w) A (subscriptTail value slice (.ref a) (.int k u)) Q E (sh s h tk):=
 item_listR (s:=sh s h tk) ⟨_,S.stays _ _ ha,rfl,n,rfl⟩ h0 hfit (by simpa using hx) q hs
theorem item_lastR {value slice:Expr}{a:Addr}{vs:List Value}{n:Nat}{u:Tok}{x:Value}{Q:Value→Shared→Prop}(ha:h.get? a=some (lo vs.toArray n))
  (hx:vs[vs.length - 1]?=some x)(q:Q x (sh s h tk))
  (hs:subscripted slice false (.ref a) (.int (-1) u)=operate [.ref a,.int (-1) u] (getItem (.ref a) (.int (-1) u)):=by with_unfolding_all rfl) :
  wpAny (model prog w) A (subscriptTail value slice (.ref a) (.int (-1) u)) Q E (sh s h tk):=by
 have hl:(sh s h tk).heap.IsList a vs.toArray:=⟨_,ha,rfl,n,rfl⟩
 have hpos:0<vs.length:=by
  cases vs with
  | nil=>simp at hx
  | cons _ _=>simp
 exact subscriptTail_builtinR hl.typeIs slot_list_getitem.lookup (wpAny_getItem_list_neg (Q:=fun r s'=>r=x∧Q r s') hl (by decide) (by rw [size_toArray];exact lw [_] [(.add (.num 0) (.num 1),iA)] (.neg iA) (.num (-1)) rfl (cnL hpos)) (by decide) (by
  rw [size_toArray]
  have:((-1:Int)+(vs.length:Int)).toNat=vs.length - 1:=predI _ hpos
  rw [this];simpa using hx) ⟨rfl,q⟩) hs
theorem w_every {m:List (Option Value)}{led:List (Addr×Obj)}{Q:Flow→Shared→Prop}(S:St O K (enL qn L f cd).locals (loc lwN m) led h)(hm:m.length=21)
  (c:∀K' h' tk' v,Sub K K'→St O K' (enL qn L f cd).locals (loc lwN (m.set 2 (some v))) led h'→(rList rStr).r K' v everyS→Q .next (sh s h' tk')) :
  wpAny (model prog w) A (exec (bodyL.getD 2 (.Pass ⟨0,0,0,0⟩)) (enL qn L f cd)) Q E (sh s h tk):=by
 refine wpAny_Assign_Name ?_
 refine wpAny_Call_method rfl rfl rfl PySem.F.plainAttrs_str PySem.F.slot_str_split PySem.F.type_str_split (wpAny_Constant_str (pos:=default) (k:=0) ⟨typeIs_str _ _ _,(by intro a e;cases e),?_⟩)
 refine Calls.callWith_builtin rfl (Calls.evalArgs_plain (Calls.spliced_cons (wpAny_Constant_str (pos:=default) (k:=0) (Calls.spliced_nil ?_))))
 refine split_st S (by decide +kernel) (by decide +kernel) (by decide +kernel) (by decide +kernel) (by decide +kernel) fun K1 h1 tk1 v hK1 S1 hv=>?_
 exact stn S1 2 lwN_nd (fun h2 tk2 S2=>c K1 h2 tk2 v hK1 S2 hv) rfl (by rw [getElem?_eq_getElem (lp [_] [(.num 21,zA)] (.add (.num 2) (.num 1)) zA rfl (eqR hm))];rfl)
end
end Mine
namespace Mine
section
variable {R:Rel α}
theorem mod_lt (a:Int){n:Nat}(hn:0<n):0≤a.fmod (n:Int)∧(a.fmod (n:Int)).toNat<n:=by
 have h1:=Int.fmod_nonneg_of_pos a (show (0:Int)<n by exact Int.ofNat_lt.2 ‹_›)
 have h2:=Int.fmod_lt_of_pos a (show (0:Int)<n by exact Int.ofNat_lt.2 ‹_›)
 exact⟨Int.le_trans (cn0 _) (cnT h1),Int.ofNat_lt.1 (lw [_,_,_] [(si iA,iB),(iC,iA)] (si iC) iB rfl h2 (cnT h1))⟩
theorem w_sign {x0 x3 x4 x5 x6 x7 x8 x9 x10 x11 x12 x13 x14 x15 x16 x17 x18 x19 x20:Option Value}{k:Nat}{Q:Flow→Shared→Prop}{vd ve:Value}{draws:List Int}(hA:OkA A k)(S:St O K (enL qn L f cd).locals (loc lwN [x0,some vd,some ve,x3,x4,x5,x6,x7,x8,x9,x10,x11,x12,x13,x14,x15,x16,x17,x18,x19,x20]) led h)(rd:(rList rInt).r K vd draws)(hd:draws.length=6)(re:(rList rStr).r K ve everyS)
  (c:∀K' h' tk' v,Sub K K'→St O K' (enL qn L f cd).locals (loc lwN [x0,some vd,some ve,some v,x4,x5,x6,x7,x8,x9,x10,x11,x12,x13,x14,x15,x16,x17,x18,x19,x20]) led h'→rStr.r K' v (signS.getD ((draws.getD 3 0).fmod 46).toNat ⟨#[]⟩)→Q .next (sh s h' tk')) :
  wpAny (model prog w) A (exec (bodyL.getD 3 (.Pass ⟨0,0,0,0⟩)) (enL qn L f cd)) Q E (sh s h tk):=by
 refine wpAny_Assign_Name ?_
 refine Subscript_ ?_
 refine comp_list (Ra:=rStr) (Rb:=rStr) (fun x=>headC x != ".") (fun y=>y) rfl (by decide) rfl (by decide) (by decide) ?_ (fun _=>rfl)
 refine ld S 2 lwN_nd (iter_list hA S re fun I ob h1 S1 src=>?_)
 refine⟨_,K,_,_,_,I,ob,h1,_,everyS,rfl,rfl,by rw [every_len];decide,S1,src,⟨?_,?_⟩,fun v K' h' tk' S6 hK6 hv=>?_⟩
 ·rintro a v K1 C led1 h6 tk6 Q' E' ha ⟨t,rfl⟩ hK hC S6 q
  have hne:=every_ne a ha
  refine tests1 (wpAny_isTrue_Compare1 ?_)
  refine Subscript_ (ld (env:=compEnvC _ _ C (enL qn L f cd)) S6 0 (by simp) (wpAny_Constant_int ?_))
  have hc:(seqIndex? 0 a.length).bind (a.cps[·]?)=some (a.cps.toList.headD 0):=by
   have hs:0<a.cps.size:=hne
   have h0:seqIndex? 0 a.length=some 0:=by unfold seqIndex?;simp;exact Nat.ne_of_gt hne
   rw [h0]
   show a.cps[0]?=_
   rw [←Array.length_toList] at hs
   rw [←Array.getElem?_toList]
   generalize a.cps.toList=l at hs
   cases l with
   | nil=>exact absurd hs (by simp)
   | cons x r=>rfl
  refine subscriptTail_builtin (typeIs_str _ _ _) slot_str_getitem.lookup (PyProof.Rows.getItem_str (by decide) hc ?_) (by with_unfolding_all rfl) (by intro _;with_unfolding_all rfl)
  refine wpAny_Constant_str (PyProof.Rows.ne_str (wpAny_truthy_bool ?_))
  exact q K1 h6 _ (Sub.refl _) S6
 ·rintro a v K1 C led1 h6 tk6 Q' E' ha hp r hK hC S6 q
  exact ld (env:=compEnvC _ _ C (enL qn L f cd)) S6 0 (by simp) (q _ K1 h6 tk6 (Sub.refl _) S6 r)
 ·rw [map_id'] at hv
  obtain⟨la,lvs,ln,rfl,hla,hlx⟩:=hv
  have hlx':All2 (rStr.r K') lvs signS:=hlx
  obtain⟨da,dvs,dn,rfl,hda,hdx⟩:=rd
  obtain⟨dv,hdv,⟨t3,rfl⟩⟩:=hdx.get (i:=3) (b:=draws.getD 3 0) (by rw [getElem?_eq_getElem (lp [_] [(.num 6,zA)] (.add (.num 3) (.num 1)) zA rfl (eqR hd)),getD_eq_getElem?_getD,getElem?_eq_getElem (lp [_] [(.num 6,zA)] (.add (.num 3) (.num 1)) zA rfl (eqR hd))];rfl)
  refine wpAny_BinOp (Subscript_ (ld S6 1 lwN_nd (wpAny_Constant_int (item_lst S6 (hK6 _ _ hda) (by decide) (by decide) hdv ?_))))
  refine wpAny_Constant_int (PyProof.Rows.mod_int (by decide) ?_)
  have hb:0≤(draws.getD 3 0).fmod 46∧((draws.getD 3 0).fmod 46).toNat<46:=mod_lt (draws.getD 3 0) (n:=46) (by decide)
  generalize (draws.getD 3 0).fmod 46=j at hb c ⊢
  obtain⟨sv,hsv,hsr⟩:=hlx'.get (i:=j.toNat) (b:=signS.getD j.toNat ⟨#[]⟩) (by rw [getD_eq_getElem?_getD,getElem?_eq_getElem (by rw [sign_len];exact hb.2)];rfl)
  refine item_lstR S6 hla hb.1 (lw [↑(Int.toNat j),j] [(si iA,.num 46),(iB,iA)] (si iB) (.num 9223372036854775808) rfl (cnL hb.2) (Int.self_le_toNat _)) hsv ?_
  exact stn S6 3 lwN_nd fun h7 tk7 S7=>c K' h7 tk7 sv hK6 S7 hsr
theorem w_word {x0 x2 x4 x5 x6 x7 x8 x9 x10 x11 x12 x13 x14 x15 x16 x17 x18 x19 x20:Option Value}{k:Nat}{Q:Flow→Shared→Prop}{vd vs:Value}{draws:List Int}{sign:Str}(hA:OkA A k)(S:St O K (enL qn L f cd).locals (loc lwN [x0,some vd,x2,some vs,x4,x5,x6,x7,x8,x9,x10,x11,x12,x13,x14,x15,x16,x17,x18,x19,x20]) led h)(rd:(rList rInt).r K vd draws)(hd:draws.length=6)(rs:rStr.r K vs sign)(hsz:sign.length≤1000)
  (c:∀K' h' tk' v,Sub K K'→St O K' (enL qn L f cd).locals (loc lwN [x0,some vd,x2,some vs,some v,x5,x6,x7,x8,x9,x10,x11,x12,x13,x14,x15,x16,x17,x18,x19,x20]) led h'→rStr.r K' v (sign++sufS.getD (((draws.getD 3 0).fdiv 46).fmod 3).toNat ⟨#[]⟩)→Q .next (sh s h' tk')) :
  wpAny (model prog w) A (exec (bodyL.getD 4 (.Pass ⟨0,0,0,0⟩)) (enL qn L f cd)) Q E (sh s h tk):=by
 obtain⟨ts,rfl⟩:=rs
 refine wpAny_Assign_Name (wpAny_BinOp (ld S 3 lwN_nd ?_))
 refine Subscript_ ?_
 refine tup_lit (R:=rStr) (args_cons (wpAny_Constant_str (args_cons (wpAny_Constant_str (args_cons (wpAny_Constant_str (args_nil ?_)))))))
 refine⟨_,K,_,_,_,h,_,sufS,rfl,S,.cons ⟨_,rfl⟩ (.cons ⟨_,rfl⟩ (.cons ⟨_,rfl⟩ .nil)),by decide,fun K1 h1 v1 hK1 S1 hv1=>?_⟩
 obtain⟨T,tvs,rfl,hT,htx⟩:=hv1
 obtain⟨da,dvs,dn,rfl,hda,hdx⟩:=rd
 obtain⟨dv,hdv,⟨t3,rfl⟩⟩:=hdx.get (i:=3) (b:=draws.getD 3 0) (by rw [getElem?_eq_getElem (lp [_] [(.num 6,zA)] (.add (.num 3) (.num 1)) zA rfl (eqR hd)),getD_eq_getElem?_getD,getElem?_eq_getElem (lp [_] [(.num 6,zA)] (.add (.num 3) (.num 1)) zA rfl (eqR hd))];rfl)
 refine wpAny_BinOp (wpAny_BinOp (Subscript_ (ld S1 1 lwN_nd (wpAny_Constant_int (item_lst S1 (hK1 _ _ hda) (by decide) (by decide) hdv ?_)))))
 refine wpAny_Constant_int (PyProof.Rows.floordiv_int (by decide) (wpAny_Constant_int (PyProof.Rows.mod_int (by decide) ?_)) (.inl (nopl (.inl rfl))))
 have hb:0≤((draws.getD 3 0).fdiv 46).fmod 3∧(((draws.getD 3 0).fdiv 46).fmod 3).toNat<3:=mod_lt ((draws.getD 3 0).fdiv 46) (n:=3) (by decide)
 generalize ((draws.getD 3 0).fdiv 46).fmod 3=j at hb c ⊢
 have hsl:sufS.length=3:=rfl
 obtain⟨sv,hsv,⟨t4,rfl⟩⟩:=htx.get (i:=j.toNat) (b:=sufS.getD j.toNat ⟨#[]⟩) (by rw [getD_eq_getElem?_getD,getElem?_eq_getElem (nT hb.2 (eqR hsl))];rfl)
 refine item_tuT S1 (vs:=tvs) hT (j:=j.toNat) (by rw [htx.length];exact seqIn hb.1 ((Int.toNat_lt hb.1).1 hb.2)) (lw [_,_] [(.num 0,iA),(iA,iB)] (.num (-9223372036854775808)) iB rfl (cn0 _) (cnT (hb.1))) (lw [↑(Int.toNat j),j] [(si iA,.num 3),(iB,iA)] (si iB) (.num 9223372036854775808) rfl (cnL hb.2) (Int.self_le_toNat _)) hsv ?_
 have hl1:(sufS.getD j.toNat ⟨#[]⟩).length≤1:=by
  have:∀j<3,(sufS.getD j ⟨#[]⟩).length≤1:=by decide
  exact this _ hb.2
 refine PyProof.Rows.add_str (fun t5 tk5=>?_) (by rw [sizeLine_eq];exact lp [_,_] [(zA,.num 1000),(zB,.num 1)] (.add zA zB) (.num 16777216) rfl hsz hl1)
 exact stn S1 4 lwN_nd fun h7 tk7 S7=>c K1 h7 tk7 _ hK1 S7 ⟨_,rfl⟩
end
end Mine
namespace Mine
noncomputable def tokV (x:Str):Int:=7+((everyS.idxOf x:Nat):Int)
structure Ex (prog:Program)(w:World)(base:Heap):Prop where
 ex:∃T:List (Str×Int),(rDict (PySem.strKind prog w) rInt).r base (.ref 91) T∧(∀x∈signS,getD' T x=some (tokV x))∧getD' T "." = some 23∧getD' T "..." = some 52
noncomputable def wdB (x y:Str):Bool:=decide (7≤tokV x)&&decide (tokV x<200)&&decide (tokV x≠23)&&decide (tokV x≠52)&&decide (tokV x≠63)&&!(x++y).cps.toList.isEmpty&&(x++y).cps.toList.all (fun c=>c != 13&&c != 10&&c != 46)&&decide ((x++y).length≤4)
theorem wd_all:(signS.all fun x=>sufS.all fun y=>wdB x y)=true:=by decide +kernel
theorem wd_of {x y:Str}(hx:x∈signS)(hy:y∈sufS):Wd (tokV x) (x++y):=by
 have h:=all_eq_true.mp (all_eq_true.mp wd_all x hx) y hy
 unfold wdB at h
 simp only [Bool.and_eq_true,decide_eq_true_eq,all_eq_true] at h
 obtain⟨⟨⟨⟨⟨⟨⟨h1,h2⟩,h3⟩,h4⟩,h5⟩,h6⟩,h7⟩,h8⟩:=h
 refine⟨h1,h2,h3,h4,h5,fun e=>?_,fun c hc=>?_,h8⟩
 ·rw [e] at h6;exact absurd h6 (by decide)
 ·have:=h7 c hc
  simp at this
  exact⟨this.1.1,this.1.2,this.2⟩
section
variable {R:Rel α}
inductive Sw3P (L:Addr)(ns:List Str)(i1 i2 i3:Nat)(s:Shared)(Q:Flow→Shared→Prop)(a b c:Value)(s₃:Shared):Prop
 | mk (O:Org) (K:Heap) (vs:List (Option Value)) (led:List (Addr×Obj)) (h:Heap) (tk:Nat):s₃=sh s h tk→St O K L (loc ns vs) led h→i1<vs.length→i2<vs.length→i3<vs.length→(∀h' tk',St O K L (loc ns (((vs.set i3 (some c)).set i2 (some b)).set i1 (some a))) led h'→Q .next (sh s h' tk'))→Sw3P L ns i1 i2 i3 s Q a b c s₃
theorem assign_sw3 {k:Nat}{x1 x2 x3:Str}{p1 p2 p3 tp vp pos:Pos}{n1 n2:Nat}{e1 e2 e3:Expr}{ns:List Str}{Q:Flow→Shared→Prop}(i1 i2 i3:Nat)(hnd:ns.Nodup)(hA:OkA A k)
  (kk:wpAny (model prog w) A (eval e1 env) (fun a s₁=>wpAny (model prog w) A (eval e2 env) (fun b s₂=>wpAny (model prog w) A (eval e3 env) (Sw3P env.locals ns i1 i2 i3 s Q a b) E s₂) E s₁) E (sh s h tk))
  (hi1:ns[i1]?=some x1:=by rfl)(hi2:ns[i2]?=some x2:=by rfl)(hi3:ns[i3]?=some x3:=by rfl)
  (hx1:env.kindOf x1=some .local:=by rfl)(hx2:env.kindOf x2=some .local:=by rfl)(hx3:env.kindOf x3=some .local:=by rfl)(hk:env.scope.kind = .function:=by rfl)
  (he1:starEach [e1,e2,e3] env=(false,eval e1 env)::starEach [e2,e3] env:=by rfl)(he2:starEach [e2,e3] env=(false,eval e2 env)::starEach [e3] env:=by rfl)(he3:starEach [e3] env=(false,eval e3 env)::starEach [] env:=by rfl)
  (hs:swapsWithSole [.Tuple [.Name x1 p1,.Name x2 p2,.Name x3 p3] n1 tp] (.Tuple [e1,e2,e3] n2 vp) pos.line env=pure false:=by rfl)
  (hw:swappedStores [.Tuple [.Name x1 p1,.Name x2 p2,.Name x3 p3] n1 tp] (.Tuple [e1,e2,e3] n2 vp) env=pure (some [x1,x2,x3]):=by rfl) :
  wpAny (model prog w) A (exec (.Assign [.Tuple [.Name x1 p1,.Name x2 p2,.Name x3 p3] n1 tp] (.Tuple [e1,e2,e3] n2 vp) pos) env) Q E (sh s h tk):=by
 have hp:(env.scope.kind == .class||(env.scope.kind == .module&&env.locals != env.globals))=false:=by rw [hk];rfl
 refine Assign_Tuple_swapped (names:=[x1,x2,x3]) (wpAny_Tuple (args_cons (wpAny_mono kk (fun a s₁ h₁=>args_cons (wpAny_mono h₁ (fun b s₂ h₂=>args_cons (wpAny_mono h₂ (fun c s₃ h₃=>args_nil ?_) fun _ _ x=>x) he3) fun _ _ x=>x) he2) fun _ _ x=>x) he1)) hs hw
 obtain⟨O,K,vs,led,h,tk,rfl,S,l1,l2,l3,c'⟩:=h₃
 refine⟨by simp [sizeLine],?_⟩
 have S1:=S.push (tu [a,b,c].toArray)
 refine wpAny_unpackItems_tuple (s:=sh s (h.push (tu [a,b,c].toArray)) tk) (items:=#[a,b,c]) hA.handled ⟨_,S1.at 0 rfl,rfl,0,rfl⟩ fun h2 hx2'=>?_
 have S2:=S1.tail.ext hx2'
 show wpAny _ _ (do holding [b,a] (bindName env x3 c);assignInOrder [bindName env x2,bindName env x1] [b,a]) _ _ _
 refine wpAny_bind (wpAny_holding (bindName_ (wpAny_storeName_local hx3 S2.ns (fun h₅ hn₅ hs₅=>?_) hp)))
 have S5:=S2.store hn₅ hs₅
 rw [loc_set i3 hi3 hnd l3] at S5
 show wpAny _ _ (do holding [a] (bindName env x2 b);assignInOrder [bindName env x1] [a]) _ _ _
 refine wpAny_bind (wpAny_holding (bindName_ (wpAny_storeName_local hx2 S5.ns (fun h₆ hn₆ hs₆=>?_) hp)))
 have S6:=S5.store hn₆ hs₆
 rw [loc_set i2 hi2 hnd (by simpa using l2)] at S6
 show wpAny _ _ (do holding [] (bindName env x1 a);assignInOrder [] []) _ _ _
 refine wpAny_bind (wpAny_holding (bindName_ (wpAny_storeName_local hx1 S6.ns (fun h₇ hn₇ hs₇=>wpAny_pure ?_) hp)))
 have S7:=S6.store hn₇ hs₇
 rw [loc_set i1 hi1 hnd (by simpa using l1)] at S7
 exact c' _ _ S7
theorem look_str {kvs:List (Str×Value)}{T:List (Str×Int)}{K:Heap}(x:All2 (PR (rInt.r K)) kvs T){k:Str}{a:Int}(h:getD' T k=some a):∃t,valueAt kvs k=some (.int a t):=by
 unfold getD' at h
 rcases pr_at x k with ⟨h1,h2⟩|⟨v,b,h1,h2,t,rfl⟩
 ·rw [h2] at h;exact nomatch h
 ·rw [h2] at h
  have:b=a:=by simpa using h
  subst this
  exact⟨t,h1⟩
theorem w_exact {x0 x1 x2 x4 x5 x6 x7 x8 x9 x10 x11 x12 x13 x14 x15 x16 x17 x18 x19 x20:Option Value}{k:Nat}{Q:Flow→Shared→Prop}{vs:Value}{sign:Str}(B:Mod base)(X:Ex prog w base)(hb:Sub base K)(hA:OkA A k)(S:St O K (enL qn L f cd).locals (loc lwN [x0,x1,x2,some vs,x4,x5,x6,x7,x8,x9,x10,x11,x12,x13,x14,x15,x16,x17,x18,x19,x20]) led h)(rs:rStr.r K vs sign)(hsg:sign∈signS)
  (c:∀h' tk' t1 t2 t3,St O K (enL qn L f cd).locals (loc lwN [x0,x1,x2,some vs,x4,some (.int (tokV sign) t1),some (.int 23 t2),some (.int 52 t3),x8,x9,x10,x11,x12,x13,x14,x15,x16,x17,x18,x19,x20]) led h'→Q .next (sh s h' tk')) :
  wpAny (model prog w) A (exec (bodyL.getD 5 (.Pass ⟨0,0,0,0⟩)) (enL qn L f cd)) Q E (sh s h tk):=by
 obtain⟨T,rT,hT,hT1,hT2⟩:=X.ex
 obtain⟨a,o,kvs,ea,hsys,ha,hdo,hx,_⟩:=rDict_at rT
 cases ea
 obtain⟨ts,rfl⟩:=rs
 have hs:Sub base h:=hb.trans S.stays
 obtain⟨t1,v1⟩:=look_str hx (hT sign hsg)
 obtain⟨t2,v2⟩:=look_str hx hT1
 obtain⟨t3,v3⟩:=look_str hx hT2
 refine assign_sw3 (ns:=lwN) 5 6 7 lwN_nd hA ?_
 refine Subscript_ (gl_ref (a:=91) B hs (ld S 3 lwN_nd (item_dct (hs _ _ ha) hdo (strkey _ _ sign _) v1 ?_)))
 refine Subscript_ (gl_ref (a:=91) B hs (wpAny_Constant_str (item_dct (hs _ _ ha) hdo (strkey _ _ "." _) v2 ?_)))
 refine Subscript_ (gl_ref (a:=91) B hs (wpAny_Constant_str (item_dct (hs _ _ ha) hdo (strkey _ _ "..." _) v3 ?_)))
 exact⟨O,K,_,_,h,_,rfl,S,by simp,by simp,by simp,fun h' tk' S'=>c h' tk' t1 t2 t3 S'⟩
noncomputable def wayS:List Int:=[1,-1,2,-3]
theorem w_ways {x0 x2 x3 x4 x5 x6 x7 x8 x9 x10 x11 x12 x13 x14 x15 x16 x17 x18 x19 x20:Option Value}{k:Nat}{Q:Flow→Shared→Prop}{vd:Value}{draws:List Int}(hA:OkA A k)(S:St O K (enL qn L f cd).locals (loc lwN [x0,some vd,x2,x3,x4,x5,x6,x7,x8,x9,x10,x11,x12,x13,x14,x15,x16,x17,x18,x19,x20]) led h)(rd:(rList rInt).r K vd draws)(hd:draws.length=6)
  (c:∀K' h' tk' v w0 w1,Sub K K'→St O K' (enL qn L f cd).locals (loc lwN [x0,some vd,x2,x3,x4,x5,x6,x7,some v,x9,x10,x11,x12,x13,x14,x15,x16,x17,x18,x19,x20]) led h'→(rList rInt).r K' v [w0,w1]→w0∈wayS→w1∈wayS→Q .next (sh s h' tk')) :
  wpAny (model prog w) A (exec (bodyL.getD 6 (.Pass ⟨0,0,0,0⟩)) (enL qn L f cd)) Q E (sh s h tk):=by
 refine comp_assign (Ra:=rInt) (Rb:=rInt) (y:="ways") (fun _=>true) (fun a=>wayS.getD (a.fmod 4).toNat 0) rfl rfl (by decide) rfl (by decide) (by decide) rfl rfl ?_ (fun _=>rfl)
 refine slice_lst (R:=rInt) (ld S 1 lwN_nd (part_int fun t1=>part_none ⟨_,_,_,_,_,_,_,_,_,draws,rfl,S,rd,lp [_] [(zA,.num 6)] zA (.num 16777216) rfl (eqL hd),.int 4 t1,.none,fun K4 h4 v4 hK4 S4 hv4=>?_⟩))
 rw [show pickL draws (some 4) none none=draws.drop 4 from pick_from draws 4 (lp [_] [(.num 6,zA)] (.num 4) zA rfl (eqR hd))] at hv4
 refine iter_list hA S4 hv4 fun I ob h5 S5 src=>?_
 refine⟨_,K4,_,_,I,ob,h5,_,draws.drop 4,rfl,rfl,by rw [length_drop];exact lp [_,_] [(zA,.num 6),(.add zB (.num 4),zA)] zB (.num 16777216) rfl (eqL hd) (sbB _ _ (lp [_] [(.num 6,zA)] (.num 4) zA rfl (eqR hd))),S5,src,⟨?_,?_⟩,fun v K' h' tk' S6 hK6 hv=>?_⟩
 ·rintro a v K1 C led1 h6 tk6 Q' E' ha r hK hC S6 q
  exact tests0 (q K1 h6 tk6 (Sub.refl _) S6)
 ·rintro a v K1 C led1 h6 tk6 Q' E' ha hp ⟨t,rfl⟩ hK hC S6 q
  refine Subscript_ ?_
  refine tup_lit (R:=rInt) ?_
  refine args_cons (wpAny_Constant_int (args_cons (UnaryOp_ (wpAny_Constant_int (PyProof.Rows.neg_int ?_)))))
  refine args_cons (wpAny_Constant_int (args_cons (UnaryOp_ (wpAny_Constant_int (PyProof.Rows.neg_int (args_nil ?_))))))
  refine⟨_,K1,_,_,_,h6,_,wayS,rfl,S6,.cons ⟨_,rfl⟩ (.cons ⟨_,rfl⟩ (.cons ⟨_,rfl⟩ (.cons ⟨_,rfl⟩ .nil))),by decide,fun K7 h7 v7 hK7 S7 hv7=>?_⟩
  obtain⟨T,tvs,rfl,hT,htx⟩:=hv7
  refine wpAny_BinOp (ld (env:=compEnvC _ _ C (enL qn L f cd)) S7 0 (by simp) (wpAny_Constant_int (PyProof.Rows.mod_int (by decide) ?_)))
  have hb:0≤a.fmod 4∧(a.fmod 4).toNat<4:=mod_lt a (n:=4) (by decide)
  generalize a.fmod 4=j at hb q ⊢
  have hsl:wayS.length=4:=rfl
  obtain⟨sv,hsv,hsr⟩:=htx.get (i:=j.toNat) (b:=wayS.getD j.toNat 0) (by rw [getD_eq_getElem?_getD,getElem?_eq_getElem (nT hb.2 (eqR hsl))];rfl)
  refine item_tuT S7 (vs:=tvs) hT (j:=j.toNat) (by rw [htx.length];exact seqIn hb.1 ((Int.toNat_lt hb.1).1 hb.2)) (lw [_,_] [(.num 0,iA),(iA,iB)] (.num (-9223372036854775808)) iB rfl (cn0 _) (cnT (hb.1))) (lw [↑(Int.toNat j),j] [(si iA,.num 4),(iB,iA)] (si iB) (.num 9223372036854775808) rfl (cnL hb.2) (Int.self_le_toNat _)) hsv ?_
  exact q _ K7 h7 _ hK7 S7 hsr
 ·rw [filter_eq_self.mpr (fun _ _=>rfl)] at hv
  rw [loc_set 8 (ns:=lwN) rfl lwN_nd (by simp)] at S6
  have hl:(draws.drop 4).length=2:=by rw [length_drop];exact nA (lp [_,_] [(zA,.num 6),(.add zB (.num 4),zA)] zB (.num 2) rfl (eqL hd) (sbB _ _ (lp [_] [(.num 6,zA)] (.num 4) zA rfl (eqR hd)))) (lp [_,_] [(.num 6,zA),(zA,.add zB (.num 4))] (.num 2) zB rfl (eqR hd) (sbA _ _))
  match hdd:draws.drop 4,hl with
  | [a,b],_=>
   rw [hdd] at hv
   have key:∀a:Int,wayS.getD (a.fmod 4).toNat 0∈wayS:=fun a=>by
    have hb:0≤a.fmod 4∧(a.fmod 4).toNat<4:=mod_lt a (n:=4) (by decide)
    have:∀j<4,wayS.getD j 0∈wayS:=by decide
    exact this _ hb.2
   exact c K' h' tk' v _ _ (hK4.trans hK6) S6 hv (key a) (key b)
end
end Mine
namespace Mine
section
variable {R:Rel α}
theorem w_faults {x0 x1 x2 x3 x4 x5 x6 x7 x8 x9 x10 x11 x12 x13 x14 x15 x16 x17 x18 x19 x20:Option Value}{k:Nat}{Q:Flow→Shared→Prop}(hA:OkA A k)(S:St O K (enL qn L f cd).locals (loc lwN [x0,x1,x2,x3,x4,x5,x6,x7,x8,x9,x10,x11,x12,x13,x14,x15,x16,x17,x18,x19,x20]) led h)
  (c:∀K' h' tk' v P,Sub K K'→St O K' (enL qn L f cd).locals (loc lwN [x0,x1,x2,x3,x4,x5,x6,x7,x8,some v,some (.ref P),x11,x12,x13,x14,x15,x16,x17,x18,x19,x20]) ((P,lo ([]:List Value).toArray 0)::led) h'→(rList rInt).r K' v []→@LE.le Nat _ O.B.objs.size P→Q .next (sh s h' tk')) :
  wpAny (model prog w) A (exec (bodyL.getD 7 (.Pass ⟨0,0,0,0⟩)) (enL qn L f cd)) Q E (sh s h tk):=by
 refine assign_sw2 hA ?_
 refine list_lit (R:=rInt) (args_nil ?_)
 refine⟨_,K,_,_,_,h,_,[],rfl,S,.nil,by decide,fun K1 h1 v1 hK1 S1 hv1=>?_⟩
 refine list_new S1 fun h2 S2=>?_
 refine⟨O,K1,_,_,h2,_,rfl,S2,fun h3 tk3 S3=>?_⟩
 rw [loc_set2 10 9 (ns:=lwN) rfl rfl lwN_nd (by simp) (by simp)] at S3
 exact c K1 h3 tk3 v1 _ hK1 S3 hv1 S1.sizeB
theorem w_rules {x0 x2 x3 x4 x8 x9 x10 x11 x12 x13 x14 x15 x16 x17 x18 x19 x20:Option Value}{k:Nat}{Q:Flow→Shared→Prop}{vd:Value}{draws:List Int}{other:Int}{t1 t2 t3:Tok}(B:Mod base)(hb:Sub base K)(hA:OkA A (k+4))(S:St O K (enL qn L f cd).locals (loc lwN [x0,some vd,x2,x3,x4,some (.int other t1),some (.int 23 t2),some (.int 52 t3),x8,x9,x10,x11,x12,x13,x14,x15,x16,x17,x18,x19,x20]) led h)
  (rd:(rList rInt).r K vd draws)(hd:draws.length=6)
  (c:∀K' h' tk' v rules,Sub K K'→St O K' (enL qn L f cd).locals (loc lwN [x0,some vd,x2,x3,x4,some (.int other t1),some (.int 23 t2),some (.int 52 t3),x8,x9,x10,some v,x12,x13,x14,x15,x16,x17,x18,x19,x20]) led h'→(rList (rList rInt)).r K' v rules→Gram other rules→Q .next (sh s h' tk')) :
  wpAny (model prog w) A (exec (bodyL.getD 8 (.Pass ⟨0,0,0,0⟩)) (enL qn L f cd)) Q E (sh s h tk):=by
 refine wpAny_Assign_Name ?_
 refine Call_ (gl_ref (a:=126) B (hb.trans S.stays) (cw_fn (B.fns (126,67) (by decide)) (args_cons ?_)))
 refine Call_ (gl_ref (a:=119) B (hb.trans S.stays) (cw_fn (B.fns (119,66) (by decide)) ?_))
 refine args_cons (ld S 1 lwN_nd (args_cons (ld S 5 lwN_nd (args_cons (ld S 6 lwN_nd (args_cons (ld S 7 lwN_nd (args_nil ⟨hb.trans S.stays,?_⟩))))))))
 refine tape_call (k:=k+3) B hb S.stays hA rd (lp [_] [(.num 6,zA)] (.num 3) zA rfl (eqR hd)) ⟨t1,rfl⟩ ⟨t2,rfl⟩ ⟨t3,rfl⟩ fun K1 h1 tk1 v1 g1 hv1=>?_
 have S1:=S.grow g1
 refine args_nil ⟨(hb.trans g1.kk).trans S1.stays,?_⟩
 refine rules_call (k:=k) B (hb.trans g1.kk) S1.stays hA hv1 (tape_len draws other) fun K2 h2 tk2 v2 rows g2 hv2 hp hsr=>?_
 have S2:=S1.grow g2
 refine stn S2 11 lwN_nd fun h3 tk3 S3=>?_
 exact c K2 h3 tk3 v2 rows (g1.kk.trans g2.kk) S3 hv2 (gram_of hp hsr)
theorem w_sends {x0 x1 x2 x3 x4 x5 x6 x7 x8 x9 x10 x12 x13 x14 x15 x16 x17 x18 x19 x20:Option Value}{k:Nat}{Q:Flow→Shared→Prop}{vr:Value}{rules:List (List Int)}{other:Int}(B:Mod base)(hb:Sub base K)(hA:OkA A (k+4))(S:St O K (enL qn L f cd).locals (loc lwN [x0,x1,x2,x3,x4,x5,x6,x7,x8,x9,x10,some vr,x12,x13,x14,x15,x16,x17,x18,x19,x20]) led h)
  (rr:(rList (rList rInt)).r K vr rules)(g:Gram other rules)
  (c:∀K' h' tk' v,Sub K K'→St O K' (enL qn L f cd).locals (loc lwN [x0,x1,x2,x3,x4,x5,x6,x7,x8,x9,x10,some vr,some v,x13,x14,x15,x16,x17,x18,x19,x20]) led h'→(rList rInt).r K' v (sendsOf rules)→Q .next (sh s h' tk')) :
  wpAny (model prog w) A (exec (bodyL.getD 9 (.Pass ⟨0,0,0,0⟩)) (enL qn L f cd)) Q E (sh s h tk):=by
 refine wpAny_Assign_Name ?_
 refine Call_ (gl_ref (a:=145) B (hb.trans S.stays) (cw_fn (B.fns (145,70) (by decide)) (args_cons (ld S 11 lwN_nd (args_nil ⟨hb.trans S.stays,?_⟩)))))
 refine states_call (k:=k+2) B hb S.stays hA rr (gram_states g) fun K1 h1 tk1 v1 g1 hv1=>?_
 have S1:=S.grow g1
 exact stn S1 12 lwN_nd fun h3 tk3 S3=>c K1 h3 tk3 v1 g1.kk S3 hv1
theorem w_sender {x0 x1 x2 x3 x4 x5 x6 x7 x8 x9 x10 x11 x13 x14 x15 x16 x17 x18 x19 x20:Option Value}{k:Nat}{Q:Flow→Shared→Prop}{vs:Value}{rules:List (List Int)}{other:Int}{word:Str}(W:Wd other word)(B:Mod base)(hb:Sub base K)(hA:OkA A (k+4))(S:St O K (enL qn L f cd).locals (loc lwN [x0,x1,x2,x3,x4,x5,x6,x7,x8,x9,x10,x11,some vs,x13,x14,x15,x16,x17,x18,x19,x20]) led h)
  (rs:(rList rInt).r K vs (sendsOf rules))(g:Gram other rules)
  (c:∀K' h' tk' v sender,Sub K K'→St O K' (enL qn L f cd).locals (loc lwN [x0,x1,x2,x3,x4,x5,x6,x7,x8,x9,x10,x11,some vs,some v,x14,x15,x16,x17,x18,x19,x20]) led h'→(rList (rList rInt)).r K' v sender→Sends rules sender→Q .next (sh s h' tk')) :
  wpAny (model prog w) A (exec (bodyL.getD 11 (.Pass ⟨0,0,0,0⟩)) (enL qn L f cd)) Q E (sh s h tk):=by
 refine wpAny_Assign_Name ?_
 refine Call_ (gl_ref (a:=126) B (hb.trans S.stays) (cw_fn (B.fns (126,67) (by decide)) (args_cons (ld S 12 lwN_nd (args_nil ⟨hb.trans S.stays,?_⟩)))))
 refine rules_call (k:=k) B hb S.stays hA rs (sends_len g) fun K2 h2 tk2 v2 rows g2 hv2 hp hsr=>?_
 have S2:=S.grow g2
 exact stn S2 13 lwN_nd fun h3 tk3 S3=>c K2 h3 tk3 v2 rows g2.kk S3 hv2 (sends_of W g hp hsr)
end
end Mine
namespace Mine
section
variable {R:Result→Shared→Prop}
theorem turn2_in (elt t0 i0 t1 i1:Expr)(scope:Scope)(pos:Pos)(it acc:Value)(env:Env) :
  compTurn (.ListComp elt [⟨t0,i0,[],0⟩,⟨t1,i1,[],0⟩] scope pos) 1 it acc env=(do
   standAt i1.pos
   match ←pyNext it with
   | none=>pure (.done .next)
   | some v=>
    letOwnedTupleGo t1 it v
    assign t1 env v
    let mut ok:=true
    for c in ([]:List Expr) do
     if ok then ok ←isTrue c env (eval c env)
    if ok then
     (do let _ ←call (.builtin "list.append") [acc,←eval elt env])
    again (.compLoop (.ListComp elt [⟨t0,i0,[],0⟩,⟨t1,i1,[],0⟩] scope pos) 1 it acc env)):=by rfl
theorem turn2_out (elt t0 i0 t1 i1:Expr)(scope:Scope)(pos:Pos)(it acc:Value)(env:Env) :
  compTurn (.ListComp elt [⟨t0,i0,[],0⟩,⟨t1,i1,[],0⟩] scope pos) 0 it acc env=(do
   standAt i0.pos
   match ←pyNext it with
   | none=>pure (.done .next)
   | some v=>
    letOwnedTupleGo t0 it v
    assign t0 env v
    let mut ok:=true
    for c in ([]:List Expr) do
     if ok then ok ←isTrue c env (eval c env)
    if ok then
     let x ←eval i1 env
     standAt i1.pos
     let x ←foldedSetIterable i1 env x
     let _ ←runOwn (.compStart (.ListComp elt [⟨t0,i0,[],0⟩,⟨t1,i1,[],0⟩] scope pos) 1 (←holding [x] (pyIter x)) acc env) env
    again (.compLoop (.ListComp elt [⟨t0,i0,[],0⟩,⟨t1,i1,[],0⟩] scope pos) 0 it acc env)):=by rfl
theorem loop2_in {elt t0 i0 t1 i1:Expr}{scope:Scope}{pos:Pos}{it acc:Value}{env:Env}(I:Nat→Shared→Prop)
  (turn:∀n s E,I n s→wpAny (model prog w) A (pyNext it) (fun r s₁=>match r with
   | none=>R (.ok .next) s₁
   | some v=>wpAny (model prog w) A (assign t1 env v) (fun _ s₂=>wpAny (model prog w) A (eval elt env) (fun x s₄=>
     wpAny (model prog w) A (call (.builtin "list.append") [acc,x]) (fun _ s₅=>∃m,m<n∧I m s₅) E s₄) E s₂) E s₁) E s)
  (n:Nat)(h:I n s)(ht:∀v,letOwnedTupleGo t1 it v=pure ():=by intro _;rfl) :
  codeAny (model prog w) A (.compLoop (.ListComp elt [⟨t0,i0,[],0⟩,⟨t1,i1,[],0⟩] scope pos) 1 it acc env) R s:=by
 refine codeAny_loop rfl I (fun n s hI=>?_) n h
 show wpAny _ A ((compTurn (.ListComp elt [⟨t0,i0,[],0⟩,⟨t1,i1,[],0⟩] scope pos) 1 it acc env).onRaise (fun x=>do noteFrame x env;theTreesLotGoes x)) _ _ s
 refine wpAny_noted ?_
 rw [turn2_in]
 refine wpAny_bind (wpAny_standAt (wpAny_bind (wpAny_mono (turn n s _ hI) (fun r s₁ h₁=>?_) fun _ _ h'=>h')))
 cases r with
 | none=>exact wpAny_pure h₁
 | some v=>
  refine wpAny_bind (wpAny_of_eq (ht v) ?_)
  refine wpAny_bind (wpAny_mono h₁ (fun _ s₂ h₂=>wpAny_bind (wpAny_pure ?_)) fun _ _ h'=>h')
  exact wpAny_bind (wpAny_bind (wpAny_mono h₂ (fun x s₄ h₄=>wpAny_bind (wpAny_mono h₄ (fun _ s₅ h₅=>wpAny_pure (wpAny_pure ⟨rfl,h₅⟩)) fun _ _ h'=>h')) fun _ _ h'=>h'))
theorem loop2_out {elt t0 i0 t1 i1:Expr}{scope:Scope}{pos:Pos}{it acc:Value}{env:Env}(I:Nat→Shared→Prop)
  (turn:∀n s E,I n s→wpAny (model prog w) A (pyNext it) (fun r s₁=>match r with
   | none=>R (.ok .next) s₁
   | some v=>wpAny (model prog w) A (assign t0 env v) (fun _ s₂=>wpAny (model prog w) A (eval i1 env) (fun x s₃=>wpAny (model prog w) A (pyIter x) (fun it1 s₄=>
     codeAny (model prog w) (A.mark none) (.compStart (.ListComp elt [⟨t0,i0,[],0⟩,⟨t1,i1,[],0⟩] scope pos) 1 it1 acc env) (fun r s₅=>∃f,r = .ok f∧∃m,m<n∧I m s₅) s₄) E s₃) E s₂) E s₁) E s)
  (n:Nat)(h:I n s)(ht:∀v,letOwnedTupleGo t0 it v=pure ():=by intro _;rfl)(hs:∀x,foldedSetIterable i1 env x=pure x:=by intro _;rfl) :
  codeAny (model prog w) A (.compLoop (.ListComp elt [⟨t0,i0,[],0⟩,⟨t1,i1,[],0⟩] scope pos) 0 it acc env) R s:=by
 refine codeAny_loop rfl I (fun n s hI=>?_) n h
 show wpAny _ A ((compTurn (.ListComp elt [⟨t0,i0,[],0⟩,⟨t1,i1,[],0⟩] scope pos) 0 it acc env).onRaise (fun x=>do noteFrame x env;theTreesLotGoes x)) _ _ s
 refine wpAny_noted ?_
 rw [turn2_out]
 refine wpAny_bind (wpAny_standAt (wpAny_bind (wpAny_mono (turn n s _ hI) (fun r s₁ h₁=>?_) fun _ _ h'=>h')))
 cases r with
 | none=>exact wpAny_pure h₁
 | some v=>
  refine wpAny_bind (wpAny_of_eq (ht v) ?_)
  refine wpAny_bind (wpAny_mono h₁ (fun _ s₂ h₂=>wpAny_bind (wpAny_pure ?_)) fun _ _ h'=>h')
  refine wpAny_bind (wpAny_mono h₂ (fun x s₃ h₃=>wpAny_bind (wpAny_standAt (wpAny_bind (wpAny_of_eq (hs x) (wpAny_bind (wpAny_holding (wpAny_mono h₃ (fun it1 s₄ h₄=>wpAny_bind ?_) fun _ _ h'=>h'))))))) fun _ _ h'=>h')
  refine wpAny_runOwn (codeAny_mono h₄ fun r s₅ hr=>?_) (by intro x;cases x)
  obtain⟨f,rfl,hm⟩:=hr
  exact wpAny_pure ⟨rfl,hm⟩
theorem start2_in {elt t0 i0 t1 i1:Expr}{scope:Scope}{pos:Pos}{it acc:Value}{env:Env}
  (h0:codeAny (model prog w) A (.compLoop (.ListComp elt [⟨t0,i0,[],0⟩,⟨t1,i1,[],0⟩] scope pos) 1 it acc env) R s)
  (h:∀E,wpAny (model prog w) A (pyIter it) (fun it' s'=>codeAny (model prog w) A (.compLoop (.ListComp elt [⟨t0,i0,[],0⟩,⟨t1,i1,[],0⟩] scope pos) 1 it' acc env) R s') E s) :
  codeAny (model prog w) A (.compStart (.ListComp elt [⟨t0,i0,[],0⟩,⟨t1,i1,[],0⟩] scope pos) 1 it acc env) R s:=by
 refine codeAny_of_tree ?_
 show wpAny _ _ ((compStart (.ListComp elt [⟨t0,i0,[],0⟩,⟨t1,i1,[],0⟩] scope pos) 1 it acc env).onRaise (fun x=>do noteFrame x env;standAt theWindowsPlace)) _ _ s
 refine wpAny_notedAt ?_
 unfold compStart
 show wpAny _ _ (ask >>= _) _ _ s
 refine wpAny_bind (wpAny_askSetting (wpAny_ite ?_))
 split
 ·first
   | exact wpAny_bind (wpAny_pure (wpAny_pure (And.intro rfl h0)))
   | exact wpAny_pure (And.intro rfl h0)
 ·first
   | exact wpAny_bind (wpAny_rule (wpAny_bind (wpAny_standAt (wpAny_bind (wpAny_mono (h _) (fun it' s' h'=>wpAny_pure (And.intro rfl h')) fun _ _ x=>x)))))
   | (refine wpAny_bind (wpAny_rule ?_);show wpAny _ _ (standAt i1.pos >>= _) _ _ s;exact wpAny_bind (wpAny_standAt (wpAny_bind (wpAny_mono (h _) (fun it' s' h'=>wpAny_pure (And.intro rfl h')) fun _ _ x=>x))))
end
end Mine
namespace Mine
section
theorem iter_listA {R:Rel α}{v:Value}{xs:List α}{Q:Value→Shared→Prop}(S:St O K L m led h)(r:(rList R).r K v xs)
  (c:∀I ob h',St O K L m ((I,ob)::led) h'→(∀A':Around,A'.handled=none→Src prog w A' K h' I R xs)→Q (.ref I) (sh s h' tk)) :
  wpAny (model prog w) A (pyIter v) Q E (sh s h tk):=by
 obtain⟨a,vs,n,rfl,ha,x⟩:=r
 have hl:h.IsList a vs.toArray:=⟨_,S.stays _ _ ha,rfl,n,rfl⟩
 have hne:=S.ne_of_K ha
 refine wpAny_pyIter_list (s:=sh s h tk) hl ?_
 have hlen:vs.toArray.size=xs.length:=x.length
 refine c h.objs.size _ _ (S.push { cls:=.type "list_iterator",data:=.fields #[.ref a,.int 0 0] }) fun A' hA'=>⟨_,_,_,_,hlen,Walks.list (prog:=prog) (w:=w) hA' h.objs.size a hne vs.toArray,⟨⟨_,Heap.get?_push_size _ rfl,rfl,rfl⟩,hl.at fun o e=>Heap.get?_push_of_some _ e⟩,fun i h' hx=>?_,fun b hb hbI=>?_,fun i v _ hv=>?_,fun i h' o hx e=>?_⟩
 ·obtain⟨⟨o,ho,_⟩,_⟩:=hx;exact⟨o,ho⟩
 ·simp only [mem_cons,not_mem_nil,or_false] at hb
  rcases hb with rfl|rfl
  ·exact absurd rfl hbI
  ·exact⟨_,ha⟩
 ·exact x.getL (by simpa using hv)
 ·obtain⟨⟨o',ho,hc,hd⟩,_⟩:=hx
  rw [ho] at e;cases e
  exact⟨_,_,hc,hd,by decide⟩
theorem flat_take2 {α:Type}{xs:List (List α)}{i:Nat}{a:List α}(h:xs[i]?=some a):(xs.take (i+1)).flatten=(xs.take i).flatten++a:=by
 rw [take_add_one,h,flatten_append];simp
inductive C2In (O:Org)(K:Heap)(L I D:Addr)(p:Addr×Obj)(x y:Str)(v:Value)(pre a:List Int)(n0:Nat)(Sx:Nat→Heap→Prop)(s:Shared)(k:Nat)(s':Shared):Prop
 | mk (j:Nat) (K1:Heap) (u:Option Value) (h1:Heap) (tk1:Nat) (ob1:Obj) (vs:List Value) (n1:Nat):s'=sh s h1 tk1→k=a.length+1 - j→j≤a.length→Sub K K1→
   St O K1 L (loc [x,y] [some v,u]) [(I,ob1),p,(D,lo vs.toArray n1)] h1→Sx j h1→All2 (rInt.r K1) vs (pre++a.take j)→vs.length≤n0+j→C2In O K L I D p x y v pre a n0 Sx s k s'
theorem comp2_in {R:Result→Shared→Prop}{x y:Str}{u:Option Value}{v:Value}{I D:Addr}{ob:Obj}{p:Addr×Obj}{vs:List Value}{n1:Nat}{pre a:List Int}{t0 i0 i1:Expr}{py pe:Pos}{scope:Scope}{pos:Pos}
  (S:St O K env.locals (loc [x,y] [some v,u]) [(I,ob),p,(D,lo vs.toArray n1)] h)(src:Src prog w A K h I rInt a)(hv:All2 (rInt.r K) vs pre)(nd2:([x,y]:List Str).Nodup)
  (hy:env.kindOf y=some .local)(hk:env.scope.kind = .function)(hdy:(y == ("__debug__" : Str))=false)(hsz:vs.length+a.length≤2 ^ 24)
  (fin:∀K5 u h6 tk6 vs5 n5,Sub K K5→St O K5 env.locals (loc [x,y] [some v,u]) [p,(D,lo vs5.toArray n5)] h6→All2 (rInt.r K5) vs5 (pre++a)→vs5.length≤vs.length+a.length→R (.ok .next) (sh s h6 tk6)) :
  codeAny (model prog w) A (.compStart (.ListComp (.Name y pe) [⟨t0,i0,[],0⟩,⟨.Name y py,i1,[],0⟩] scope pos) 1 (.ref I) (.ref D) env) R (sh s h tk):=by
 obtain⟨n,fp,P,Sx,hn,W,st0,hob,hfp,hP,_⟩:=src
 subst hn
 have inner:∀tk,codeAny (model prog w) A (.compLoop (.ListComp (.Name y pe) [⟨t0,i0,[],0⟩,⟨.Name y py,i1,[],0⟩] scope pos) 1 (.ref I) (.ref D) env) R (sh s h tk):=by
  intro tk
  refine loop2_in (C2In O K env.locals I D p x y v pre a vs.length Sx s) (fun k s' E5 H=>?_) (a.length+1) (.mk 0 K u h tk ob vs n1 rfl rfl (Nat.zero_le _) (Sub.refl _) S st0 (by simpa using hv) (Nat.le_refl _))
  obtain⟨j,K5,u,h5,tk5,ob5,vs5,n5,rfl,rfl,hj,hK5,S5,hs5,hvs5,hvl5⟩:=H
  by_cases hlt:j<a.length
  ·refine W.item j _ _ _ hlt hs5 fun v6 h6 tk6 hPv6 hs6 hk6=>?_
   obtain⟨z,hz,hzr⟩:=hP j v6 hlt hPv6
   obtain⟨ob6,ho6⟩:=hob _ _ hs6
   have S6:=S5.on hk6 ho6
   refine as_n S6 1 nd2 (fun h7 tk7 S7=>?_) rfl rfl hy hk
   refine ld S7 1 nd2 ?_ rfl rfl hy hk hdy
   have hszv:vs5.toArray.size≤sizeLine:=by
    rw [size_toArray,sizeLine_eq];exact lp [_,_,_,_] [(.add zA zB,.num 16777216),(zC,.add zA zD),(su zD,zB)] zC (.num 16777216) rfl hsz hvl5 hlt
   have hD7:=S7.ledg (D,lo vs5.toArray n5) (mem_cons_of_mem _ (mem_cons_of_mem _ mem_cons_self))
   refine wpAny_list_append_plain (s:=sh s h7 _) (hsz:=hszv) ⟨n5,hD7.1⟩ fun h8 hl8 hs8=>?_
   obtain⟨n8,ho8⟩:=hl8
   have S8:St O K5 env.locals (loc [x,y] [some v,some v6]) [(I,ob6),p,(D,lo (vs5++[v6]).toArray n8)] h8:=S7.turn (a:=D) (o':=lo (vs5++[v6]).toArray n8) 2 rfl hs8 (by rw [ho8];simp)
   refine⟨a.length+1 - (j+1),Nat.sub_lt_sub_left (Nat.lt_succ_of_lt hlt) (Nat.lt_succ_self j),.mk (j+1) K5 _ h8 _ ob6 (vs5++[v6]) n8 rfl rfl hlt hK5 S8 (W.frame _ _ _ hs6 (St.fpk hfp hK5 S6 hK5 S8 ho6)) ?_ (by rw [length_append];exact Nat.succ_le_succ hvl5)⟩
   rw [take_add_one,hz,←append_assoc]
   exact hvs5.app (.cons (rInt.mono hK5 hzr) .nil)
  ·obtain rfl:j=a.length:=nA hj (nN hlt)
   refine W.done _ _ _ hs5 fun h6 tk6 hk6=>?_
   rw [take_length] at hvs5
   exact fin K5 u h6 _ vs5 n5 hK5 (S5.off hk6) hvs5 hvl5
 exact start2_in (inner _) fun E9=>W.self 0 _ _ _ st0 (inner _)
inductive C2Out (h:Heap)(I:Addr)(K:Heap)(C:Addr)(x y:Str)(xs:List (List Int))(Sx:Nat→Heap→Prop)(s:Shared)(k:Nat)(s':Shared):Prop
 | mk (i:Nat) (K1:Heap) (u1 u2:Option Value) (h1:Heap) (tk1:Nat) (ob1:Obj) (vs:List Value) (n1:Nat):s'=sh s h1 tk1→k=xs.length+1 - i→i≤xs.length→Sub K K1→
   St ⟨butI h I,K⟩ K1 C (loc [x,y] [u1,u2]) [(I,ob1),(h.objs.size,lo vs.toArray n1)] h1→Sx i h1→All2 (rInt.r K1) vs (xs.take i).flatten→vs.length≤2 ^ 10*i→C2Out h I K C x y xs Sx s k s'
theorem loc2_none {x y:Str}:(fun z=>([]:List (Str×Value)).reverse.lookup z)=loc [x,y] [none,none]:=by funext z;simp [loc]
theorem comp2_run {k:Nat}{RR:Value→Addr→Result→Shared→Prop}{xs:List (List Int)}{I:Addr}{ob:Obj}{iter:Expr}{x y:Str}{px py pz pe:Pos}{scope:Scope}{cl:List (Str×Addr)}{pos:Pos}(hA:OkA A k)
  (S:St O K L m ((I,ob)::led) h)(srcA:∀A':Around,A'.handled=none→Src prog w A' K h I (rList rInt) xs)
  (hcell:∀y∈scope.names,y.2 ≠ .cell)(hkind:scope.kind = .function)(hx:scope.names.lookup x=some .local)(hy:scope.names.lookup y=some .local)(hxy:x≠y)(hdx:(x == ("__debug__" : Str))=false)(hdy:(y == ("__debug__" : Str))=false)
  (hsz:xs.length≤2 ^ 10)(hsr:∀r∈xs,r.length≤2 ^ 10)
  (fin:∀D C K3 h2 tk2 mc,h2.Ns C mc→K3.get? C=none→h.get? C=none→Grow K (butI h I) K3 h2→(rList rInt).r K3 (.ref D) xs.flatten→RR (.ref D) C (.ok .next) (sh s h2 tk2)) :
  wpAny (model prog w) A (newList []) (fun acc s₃=>wpAny (model prog w) A (newFunctionEnv scope env.globals cl [] env.qual none .none (some env)) (fun cenv s₄=>
   codeAny (model prog w) A (.compStart (.ListComp (.Name y pe) [⟨.Name x px,iter,[],0⟩,⟨.Name y py,.Name x pz,[],0⟩] scope pos) 0 (.ref I) acc { cenv with scope:=relabel scope env }) (RR acc cenv.locals) s₄) E s₃) E (sh s h tk):=by
 refine wpAny_newObj_type (wpAny_newFunctionEnv hcell (by intro y hy;simp at hy) (fun h₁ hns₁ hsb₁=>?_) hkind)
 dsimp only at hns₁ hsb₁ ⊢
 generalize hH2:h.push { cls:=.type "list",dict:=none,data:=.seq ([]:List Value).toArray }=H2 at hns₁ hsb₁ ⊢
 have hC:H2.objs.size=h.objs.size+1:=by rw [←hH2,Heap.size_push]
 have old:∀b o,h.get? b=some o→h₁.get? b=some o:=fun b o e=>
  hsb₁.extBut b o (neN (by have:=get_lt e;exact Nat.ne_of_lt (lp [_,_,_] [(su zA,zB),(su zC,zA)] (su zC) zB rfl (eqR hC) this))) (Heap.get?_push_of_some _ (hH2▸Heap.get?_push_of_some _ e))
 have hD:h₁.get? h.objs.size=some (lo ([]:List Value).toArray 0):=hsb₁.extBut _ _ (neN (Nat.ne_of_lt (eqR hC))) (Heap.get?_push_of_some _ (hH2▸Heap.get?_push_size _ rfl))
 have nd2:([x,y]:List Str).Nodup:=by simp [hxy]
 have S₁:=comp_st S hC old hD hns₁
 rw [loc2_none (x:=x) (y:=y)] at S₁
 obtain⟨n,fp,P,Sx,hn,W,st0,hob,hfp,hP,_⟩:=srcA A hA.handled
 subst hn
 have st1:Sx 0 h₁:=W.frame _ _ _ st0 fun b _ o e=>old b o e
 have loop:∀tk₃,codeAny (model prog w) A (.compLoop (.ListComp (.Name y pe) [⟨.Name x px,iter,[],0⟩,⟨.Name y py,.Name x pz,[],0⟩] scope pos) 0 (.ref I) (.ref h.objs.size) (compEnvC scope cl H2.objs.size env)) (RR (.ref h.objs.size) H2.objs.size) (sh s h₁ tk₃):=by
  intro tk₃
  refine loop2_out (C2Out h I K H2.objs.size x y xs Sx s) (fun k s' E1 H=>?_) (xs.length+1) (.mk 0 K none none h₁ tk₃ ob [] 0 rfl rfl (Nat.zero_le _) (Sub.refl _) S₁ st1 .nil (Nat.zero_le _))
  obtain⟨i,K1,u1,u2,h1,tk1,ob1,vs,n1,rfl,rfl,hi,hK,S1,hs1,hvs,hvl⟩:=H
  by_cases hlt:i<xs.length
  ·refine W.item i _ _ _ hlt hs1 fun v h2 tk2 hPv hs2 hk2=>?_
   obtain⟨a,ha,hr⟩:=hP i v hlt hPv
   have hal:=hsr a (mem_of_getElem? ha)
   obtain⟨ob2,ho2⟩:=hob _ _ hs2
   have S2:=S1.on hk2 ho2
   refine as_n (env:=compEnvC scope cl H2.objs.size env) S2 0 nd2 (fun h3 tk3 S3=>?_) rfl rfl (lookup_relabel_local hx) hkind
   refine ld (env:=compEnvC scope cl H2.objs.size env) S3 0 nd2 ?_ rfl rfl (lookup_relabel_local hx) hkind hdx
   refine iter_listA S3 ((rList rInt).mono hK hr) fun I2 obI2 h4 S4 src2=>?_
   refine comp2_in (env:=compEnvC scope cl H2.objs.size env) S4 (src2 (A.mark none) hA.mark.handled) hvs nd2 (lookup_relabel_local hy) hkind hdy (lq [_,_,_,_] [(1024,zA,.num 1024),(1,zB,.mulL 1024 zC),(1024,su zC,zA),(1,zD,.num 1024)] 1 (.add zB zD) (.num 16777216) rfl hsz hvl hlt hal) fun K5 u h6 tk6 vs5 n5 hK5 S6 hv5 hl5=>?_
   refine⟨_,rfl,xs.length+1 - (i+1),Nat.sub_lt_sub_left (Nat.lt_succ_of_lt hlt) (Nat.lt_succ_self i),.mk (i+1) K5 _ _ h6 tk6 ob2 vs5 n5 rfl rfl hlt (hK.trans hK5) S6 (W.frame _ _ _ hs2 (St.fpk hfp hK S2 (hK.trans hK5) S6 ho2)) (by rw [flat_take2 ha];exact hv5) (by rw [Nat.mul_succ];exact lp [_,_,_,_] [(zA,.mulL 1024 zB),(zC,.num 1024),(zD,.add zA zC)] zD (.add (.mulL 1024 zB) (.num 1024)) rfl hvl hal hl5)⟩
  ·obtain rfl:i=xs.length:=nA hi (nN hlt)
   refine W.done _ _ _ hs1 fun h2 tk2 hk2=>?_
   rw [take_length] at hvs
   exact comp_end hC (S1.off hk2) fun K3 a0 a1 a2 a3 a4 a5=>fin _ _ K3 h2 tk2 _ a1 a2 a3 a4 ⟨_,vs,n1,rfl,a5,hvs.imp fun _ _ q=>rInt.mono a0 q⟩
 exact codeAny_compStart_list (loop _) (W.self 0 _ _ _ st1 (loop _))
inductive Comp2P (prog:Program)(w:World)(s:Shared)(Q:Value→Shared→Prop)(it:Value)(s₂:Shared):Prop
 | mk (O:Org) (K:Heap) (L:Addr) (m:Str→Option Value) (led:List (Addr×Obj)) (I:Addr) (ob:Obj) (h:Heap) (tk:Nat) (xs:List (List Int)):it = .ref I→s₂=sh s h tk→xs.length≤2 ^ 10→(∀r∈xs,r.length≤2 ^ 10)→St O K L m ((I,ob)::led) h→
   (∀A':Around,A'.handled=none→Src prog w A' K h I (rList rInt) xs)→(∀v K' h' tk',St O K' L m led h'→Sub K K'→(rList rInt).r K' v xs.flatten→Q v (sh s h' tk'))→Comp2P prog w s Q it s₂
theorem comp2_list {k:Nat}{Q:Value→Shared→Prop}{iter:Expr}{x y:Str}{px py pz pe:Pos}{scope:Scope}{cl:List (Str×Addr)}{pos:Pos}(hA:OkA A k)
  (hclos:closureFor scope env=pure cl)(hcell:∀y∈scope.names,y.2 ≠ .cell)(hkind:scope.kind = .function)
  (hnames:∀y∈scope.names,y.2 = .local→scope.names.lookup y.1=some .local)(hx:scope.names.lookup x=some .local)(hy:scope.names.lookup y=some .local)(hxy:x≠y)(hdx:(x == ("__debug__" : Str))=false)(hdy:(y == ("__debug__" : Str))=false)
  (hit:wpAny (model prog w) A (eval iter env) (fun xv s₁=>wpAny (model prog w) A (pyIter xv) (Comp2P prog w s Q) E s₁) E (sh s h tk))
  (hs:∀x,foldedSetIterable iter env x=pure x:=by intro _;rfl) :
  wpAny (model prog w) A (eval (.ListComp (.Name y pe) [⟨.Name x px,iter,[],0⟩,⟨.Name y py,.Name x pz,[],0⟩] scope pos) env) Q E (sh s h tk):=by
 rw [eval_ListComp]
 refine wpAny_comprehension_free (use:=none) rfl hs hclos hkind hnames (wpAny_mono hit (fun xv s₁ h₁=>wpAny_mono h₁ (fun it s₂ h₂=>?_) fun _ _ e=>e) fun _ _ e=>e)
 obtain⟨O,K,L,m,led,I,ob,h,tk,xs,rfl,rfl,hsz,hsr,S,src,hQ⟩:=h₂
 refine comp2_run (RR:=fun acc C=>compPost (model prog w) A E none Q acc C) hA S src hcell hkind hx hy hxy hdx hdy hsz hsr ?_
 intro D C K3 h2 tk2 mc hn hC hB g hv
 exact⟨mc,hn,fun h3 hs3=>hQ _ K3 h3 tk2 (S.back (g.sameBut hC (by rw [butI_get,hB];split <;> rfl) hs3)) g.kk hv⟩
end
end Mine
namespace Mine
abbrev byText (w:World):Bool:=w.params.followText "set-order"
abbrev setO (es:Array (Int×Value))(ep:Nat)(t:SetTable):Obj:={ cls:=.type "set",dict:=none,data:=.set es ep t }
noncomputable def SetI (prog:Program)(w:World)(h:Heap)(a:Addr)(n:Nat):Prop:=
 ∃es ep t,h.get? a=some (setO es ep t)∧ElemsOf (intKind prog w) es.toList∧es.size≤n∧t.fits es.size=true∧(t.led=true∨byText w=true)
theorem layNew_led (t:SetTable)(es:Array (Int×Value))(h:Int)(x:Value):(layNew t es h x).2.1.led=t.led:=by
 unfold layNew
 split
 ·show (SetTable.orStandIn _ _).led=_
  unfold SetTable.orStandIn
  split <;> rfl
 ·rfl
theorem relaid_led {t t':SetTable}{hs:Array Int}{n:Nat}{order:Array Nat}(h:t.relaid hs n=some (t',order)):t'.led=t.led:=by
 unfold SetTable.relaid SetTable.laid at h
 cases hq:SetTable.layClean (SetTable.sizeAbove n - 1) hs with
 | none=>rw [hq] at h;exact nomatch h
 | some o=>
  rw [hq] at h
  injection h with h
  injection h with h1 h2
  rw [←h1]
theorem relayAll_led (t:SetTable)(es:Array (Int×Value))(n:Nat):(relayAll t es n).2.1.led=t.led:=by
 unfold relayAll
 split
 ·rename_i t' order hq
  dsimp only
  split
  ·exact relaid_led hq
  ·rfl
 ·rfl
section
variable {a:Addr}
theorem putSet_at {h:Heap}{es:Array (Int×Value)}{ep:Nat}{t:SetTable}(ho:h.get? a=some (setO es ep t))(es':Array (Int×Value))(t':SetTable):(h.update a (Obj.putSet es' t')).get? a=some (setO es' (ep+1) t'):=by
 have:=Heap.get?_update_self (Obj.putSet es' t') ho (by rw [putSet_of es' t' rfl];rfl)
 rw [putSet_of es' t' rfl] at this;exact this
theorem set_addI {n:Nat}{i:Int}{tok:Tok}{Q:Bool→Shared→Prop}(hS:SetI prog w s.heap a n)(hroom:n+1<scanBound)
  (h:∀b h',Heap.SameBut a s.heap h'→SetI prog w h' a (n+1)→Q b { s with heap:=h' }) :
  wpAny (model prog w) A (setAddHashed a (.int i tok) ((intKind prog w).hash i)) Q E s:=by
 obtain⟨es,ep,t,ho,hel,hn,hf,hl⟩:=hS
 have hkey:(intKind prog w).is i (.int i tok)=true:=intkey prog w i tok
 have hsc:(Value.int i tok).scannable=true:=rfl
 have hb:es.size<scanBound:=lp [_,_,_] [(.add (su zA) (.num 1),zB),(zC,zA)] (su zC) zB rfl hroom hn
 unfold setAddHashed setAddHashedIn
 refine wpAny_holding (wpAny_bind (wpAny_setState_of ho rfl hf ?_))
 dsimp only
 rw [byScan_of hsc hb hel]
 simp only [↓reduceIte]
 unfold setAddByScan
 refine wpAny_bind ?_
 refine wpAny_bind (wpAny_rule ?_)
 refine wpAny_bind (wpAny_setScan_of hkey ho rfl hf hel ?_)
 cases hr:List.findIdx? (fun e=>(intKind prog w).is i e.2) es.toList with
 | some j=>
  dsimp only
  refine wpAny_pure (wpAny_pure ?_)
  have e:s={ s with heap:=s.heap }:=by cases s;rfl
  rw [e]
  exact h _ s.heap (Heap.SameBut.refl a s.heap) ⟨es,ep,t,ho,hel,lp [_,_] [(zA,zB)] zA (su zB) rfl hn,hf,hl⟩
 | none=>
  dsimp only
  have hgw:∀(b:Bool) {s₁:Shared} {Q':Unit→Shared→Prop},Q' () s₁→wpAny (model prog w) A (match b with|true=>rule "set.scan.the-table-gave-way" | false=>pure ()) Q' E s₁:=
   fun b s₁ Q' hq=>by cases b <;> first|exact wpAny_pure hq|exact wpAny_rule hq
  have hperm:=layNew_perm t es ((intKind prog w).hash i) (.int i tok)
  have hfits:=layNew_fits t es ((intKind prog w).hash i) (.int i tok)
  have hled:=layNew_led t es ((intKind prog w).hash i) (.int i tok)
  generalize hL:layNew t es ((intKind prog w).hash i) (.int i tok)=Ly at hperm hfits hled ⊢
  obtain⟨es1,t1,wasDummy,gave⟩:=Ly
  dsimp only at hperm hfits hled ⊢
  rw [Array.toList_push] at hperm
  have hel1:ElemsOf (intKind prog w) es1.toList:=(hel.push hkey hsc).perm hperm
  have hsz1:es1.size=es.size+1:=by rw [←Array.length_toList,hperm.length_eq,length_append,Array.length_toList];rfl
  have hb1:es1.size<scanBound:=lp [_,_,_,_] [(.add (su zA) (.num 1),zB),(zC,zA),(zD,su zC)] (su zD) zB rfl hroom hn (eqL hsz1)
  refine wpAny_bind (hgw _ ?_)
  have tail:∀t2:SetTable,t2.fits es1.size=true→t2.led=t.led→wpAny (model prog w) A (do
    storeSet a es1 t2
    if (!wasDummy&&t2.tooFull)=true then do
      (match (relayAll t2 es1 (SetTable.grown es1.size)).2.2 with|true=>rule "set.scan.the-table-gave-way" | false=>pure ())
      storeSet a (relayAll t2 es1 (SetTable.grown es1.size)).1 (relayAll t2 es1 (SetTable.grown es1.size)).2.1
      pure (some true)
     else pure (some true):Sem (Option Bool)) (fun r s'=>∃b,r=some b∧∀s'',s''=s'→Q b s'') E s:=by
   intro t2 hf2 hl2
   refine wpAny_bind (wpAny_storeSet_of ho rfl ?_ (fits_of_scanBound hb1))
   have ho1:=putSet_at ho es1 t2
   have hsb1:=Heap.SameBut.update s.heap a (Obj.putSet es1 t2)
   have hl1:t2.led=true∨byText w=true:=by rw [hl2];exact hl
   split
   ·have hp:=relayAll_perm t2 es1 (SetTable.grown es1.size)
    have hfr:=relayAll_fits t2 es1 (SetTable.grown es1.size)
    have hlr:=relayAll_led t2 es1 (SetTable.grown es1.size)
    generalize relayAll t2 es1 (SetTable.grown es1.size)=Rl at hp hfr hlr ⊢
    obtain⟨es2,t3,gave2⟩:=Rl
    dsimp only at hp hfr hlr ⊢
    have hel2:ElemsOf (intKind prog w) es2.toList:=hel1.perm hp
    have hsz:es2.size=es1.size:=by rw [←Array.length_toList,hp.length_eq,Array.length_toList]
    refine wpAny_bind (hgw _ ?_)
    refine wpAny_bind (wpAny_storeSet_of ho1 rfl ?_ (fits_of_scanBound (by rw [hsz];exact hb1)))
    refine wpAny_pure ⟨true,rfl,fun s'' hs=>?_⟩
    subst hs
    exact h _ _ (hsb1.trans (Heap.SameBut.update _ a _)) ⟨es2,_,t3,putSet_at ho1 es2 t3,hel2,by rw [hsz];exact lp [_,_,_] [(zA,zB),(zC,su zA)] zC (su zB) rfl hn (eqL hsz1),hfr,by rw [hlr];exact hl1⟩
   ·refine wpAny_pure ⟨true,rfl,fun s'' hs=>?_⟩
    subst hs
    exact h _ _ hsb1 ⟨es1,_,t2,ho1,hel1,lp [_,_,_] [(zA,zB),(zC,su zA)] zC (su zB) rfl hn (eqL hsz1),hf2,hl1⟩
  have fin:∀(m:Sem (Option Bool)) ,wpAny (model prog w) A m (fun r s'=>∃b,r=some b∧∀s'',s''=s'→Q b s'') E s→
    wpAny (model prog w) A m (fun r s'=>wpAny (model prog w) A (match r with|some added=>pure added|none=>setAddHashedIn a (.int i tok) ((intKind prog w).hash i) 99999) Q E s') E s:=fun m hm=>
   wpAny_mono hm (fun r s' ⟨b,e,hq⟩=>by subst e;exact wpAny_pure (hq s' rfl)) fun _ _ x=>x
  split
  ·refine wpAny_bind ?_
   rw [hashByValue_scannable 8 hsc]
   refine wpAny_pure ?_
   refine fin _ (tail _ ?_ ?_)
   ·split
    ·exact hfits
    ·exact SetTable.fits_plain_off hfits
   ·split
    ·exact hled
    ·exact hled
  ·refine wpAny_bind (wpAny_pure ?_)
   simp only [↓reduceIte]
   exact fin _ (tail _ hfits hled)
end
end Mine
namespace Mine
section
open PySem.F
theorem slot_set_iterator_next:Slot "set_iterator" "__next__" "set_iterator.__next__":=
 .of (owner:="set_iterator") (n:="__next__") (by rw [typeLookup_type,builtinLookup_eq_fast];kernel_rfl) (by decide +kernel) (by decide +kernel) (by decide +kernel)
  (by first|exact .inl (by decide +kernel)|exact .inr (by decide +kernel)) (by rw [isSubtype_type];kernel_rfl)
theorem entry_set_iterator_next:entryFor table "set_iterator.__next__" = some Builtin.«set_iterator.__next__»:=entryFor_of_tree (by kernel_rfl)
theorem entry_set_iter:entryFor table "set.__iter__" = some Builtin.«frozenset.__iter__»:=
 entryFor_alias (id':="frozenset.__iter__") (by kernel_rfl) rfl (by decide +kernel) (by kernel_rfl)
theorem owner_set_iterator:Manifest.owners.lookup (String.ofList ['r','o','t','a','r','e','t','i','_','t','e','s'].reverse)=some Manifest.sig_set_iterator:=by kernel_rfl
theorem args_set_iterator_next (a:Value):argsOk "set_iterator.__next__" ⟨[a],[]⟩:=by
 unfold argsOk;rw [signature?_of (id:="set_iterator.__next__") (n:=['_','_','t','x','e','n','_','_']) (o:=['r','o','t','a','r','e','t','i','_','t','e','s']) (by kernel_rfl) owner_set_iterator];kernel_rfl
end
theorem below_go (xs:Array Nat)(j:Nat):∀fuel lo hi,hi - lo≤fuel→lo≤hi→(hi=xs.size∨j≤xs.getD hi j)→(SetTable.below.go xs j fuel lo hi=xs.size∨j≤xs.getD (SetTable.below.go xs j fuel lo hi) j)
 | 0,lo,hi,h1,h2,h3=>by
  have:lo=hi:=nA (lp [_,_,_] [(.add zA zB,zC)] zB zC rfl (sbB _ _ h2)) (lp [_,_,_] [(zA,.num 0),(zB,.add zA zC)] zB zC rfl h1 (sbA _ _))
  subst this
  exact h3
 | fuel+1,lo,hi,h1,h2,h3=>by
  unfold SetTable.below.go
  by_cases hlt:lo<hi
  ·rw [if_pos hlt]
   dsimp only
   by_cases hm:xs.getD ((lo+hi) / 2) j<j
   ·rw [if_pos hm]
    exact below_go xs j fuel _ _ (lq [_,_,_,_,_,_] [(1,zA,su zB),(1,zC,.add zA zD),(1,su (.add zD zC),.add (.mulL 2 zE) (.num 2)),(2,.add zF (su zE),zC)] 2 zF zB rfl h1 (sbA _ _) (dvB _ 1) (sbB _ _ (lq [_,_,_] [(1,su zA,zB),(1,.mulL 2 zC,.add zA zB)] 2 (su zC) zB rfl hlt (dvA _ 2)))) (lq [_,_,_] [(1,su zA,zB),(1,.mulL 2 zC,.add zA zB)] 2 (su zC) zB rfl hlt (dvA _ 2)) h3
   ·rw [if_neg hm]
    exact below_go xs j fuel _ _ (lq [_,_,_,_,_,_] [(1,zA,su zB),(1,zC,.add zA zD),(1,.mulL 2 zE,.add zD zC),(2,.add zF zD,zE)] 2 zF zB rfl h1 (sbA _ _) (dvA _ 2) (sbB _ _ (lq [_,_,_] [(1,su zA,zB),(1,su (.add zA zB),.add (.mulL 2 zC) (.num 2))] 2 zA zC rfl hlt (dvB _ 1)))) (lq [_,_,_,_] [(1,su (.add zA zB),.add (.mulL 2 zC) (.num 2)),(1,.add zD zA,zB)] 2 zA zC rfl (dvB _ 1) (sbB _ _ (lp [_,_] [(su zA,zB)] zA zB rfl hlt))) (.inr (nN hm))
  ·rw [if_neg hlt]
   have:lo=hi:=nA (lp [_,_,_] [(.add zA zB,zC)] zB zC rfl (sbB _ _ h2)) (nN hlt)
   subst this
   exact h3
theorem below_ge {xs:Array Nat}{j p:Nat}(h:xs[SetTable.below xs j]?=some p):j≤p:=by
 have:=below_go xs j xs.size 0 xs.size (lp [_,_] [(.add zA (.num 0),zB)] zA zB rfl (sbB _ _ (lp [_] [] (.num 0) zA rfl))) (lp [_] [] (.num 0) zA rfl) (.inl rfl)
 rcases this with q|q
 ·have q':SetTable.below xs j=xs.size:=q
  rw [q'] at h
  simp at h
 ·have q':j≤xs.getD (SetTable.below xs j) j:=q
  rw [Array.getD_eq_getD_getElem?,h] at q'
  exact q'
theorem pick_go {α:Type}(next:Nat→Nat):∀fuel k (left:List α)(out:Array α),(pickOrder.go next fuel k left out).size≤out.size+fuel∧∀x∈(pickOrder.go next fuel k left out).toList,x∈out.toList∨x∈left
 | 0,k,left,out=>⟨Nat.le_refl _,fun x hx=>.inl hx⟩
 | fuel+1,k,left,out=>by
  unfold pickOrder.go
  cases hq:left[next k % left.length]? with
  | none=>exact⟨by dsimp only;exact lp [_,_] [] zA (.add zA (su zB)) rfl,fun x hx=>.inl hx⟩
  | some y=>
   dsimp only
   obtain⟨h1,h2⟩:=pick_go next fuel (k+1) (left.eraseIdx (next k % left.length)) (out.push y)
   rw [Array.size_push] at h1
   refine⟨lp [_,_,_] [(zA,.add (su zB) zC)] zA (.add zB (su zC)) rfl h1,fun x hx=>?_⟩
   rcases h2 x hx with q|q
   ·rw [Array.toList_push] at q
    rcases mem_append.mp q with q|q
    ·exact .inl q
    ·rw [mem_singleton.mp q]
     exact .inr (mem_of_getElem? hq)
   ·exact .inr (List.mem_of_mem_eraseIdx q)
theorem pick_size {α:Type}(next:Nat→Nat)(xs:Array α):(pickOrder next xs).size≤xs.size:=by
 have:=(pick_go next xs.size 0 xs.toList #[]).1
 simpa [pickOrder] using this
theorem pick_mem {α:Type}(next:Nat→Nat)(xs:Array α):∀x∈(pickOrder next xs).toList,x∈xs.toList:=fun x hx=>by
 rcases (pick_go next xs.size 0 xs.toList #[]).2 x hx with q|q
 ·simp at q
 ·exact q
section
variable {a it:Addr}
theorem wpAny_choose {M:Model}{src:Source}{n:Nat}{Q:Nat→Shared→Prop}(hn:n≠0)(c:∀i d,i<n→Q i { s with drawn:=d }):wpAny M A (choose src n) Q E s:=fun Γ p _=>by
 show Sem.wp _ _ (.choose src n .pure) _ _ _ _
 rw [Sem.wp_choose]
 exact⟨hn,c _ _ (Nat.mod_lt _ (nP hn))⟩
theorem wp_drawOrder {M:Model}{α:Type}:∀(n:Nat)(xs:List α)(s:Shared)(Q:List α→Shared→Prop),(∀d ys,(∀y∈ys,y∈xs)→ys.length≤n→Q ys { s with drawn:=d })→wpAny M A (drawOrder n xs) Q E s
 | 0,xs,s,Q,c=>by
  unfold drawOrder
  exact wpAny_pure (c s.drawn [] (fun _ hy=>nomatch hy) (Nat.le_refl _))
 | n+1,[],s,Q,c=>by
  unfold drawOrder
  exact wpAny_pure (c s.drawn [] (fun _ hy=>nomatch hy) (Nat.zero_le _))
 | n+1,x::xs,s,Q,c=>by
  unfold drawOrder
  refine wpAny_bind (wpAny_choose (by simp) fun i d hi=>?_)
  rw [getElem?_eq_getElem hi]
  dsimp only
  refine wpAny_bind (wp_drawOrder n _ _ _ fun d' ys hy hl=>?_)
  refine wpAny_pure (c d' _ (fun y hq=>?_) (by rw [length_cons];exact lp [_,_] [(zA,zB)] (su zA) (su zB) rfl hl))
  rcases mem_cons.mp hq with rfl|hq
  ·exact getElem_mem _
  ·exact List.mem_of_mem_eraseIdx (hy y hq)
abbrev itO (first:Value)(i:Nat)(a:Addr)(n ep:Nat):Obj:={ cls:=.type "set_iterator",data:=.fields #[first,.int i 0,.ref a,.int n 0,.int ep 0] }
abbrev thin (es:Array (Int×Value))(t:SetTable):Bool:=!t.plain&&decide (es.size>1)
noncomputable def ItAt (w:World)(h:Heap)(it a:Addr)(es:Array (Int×Value))(ep:Nat)(t:SetTable)(N:Nat):Prop:=
 ∃first i,h.get? it=some (itO first i a es.size ep)∧
  ((byText w=true∧(∃slot:Nat,first = .int slot 0)∧N=es.size - i)
   ∨ (byText w=false∧thin es t=false∧∃slot:Nat,first = .int slot 0∧N=t.place.toList.countP (fun j=>decide (slot≤j)))
   ∨ (∃(p:Addr) (L:List Nat) (tn:Nat),first = .ref p∧h.get? p=some (seqObj "tuple" (L.map fun i=>Value.int (i:Nat) 0).toArray tn)∧(∀j∈L,j<es.size)∧N=L.length - i))
end
end Mine
namespace Mine
section
variable {a it:Addr}
theorem int_of_elem {es:Array (Int×Value)}(hel:ElemsOf (intKind prog w) es.toList){e:Int×Value}(he:e∈es.toList):∃x tok,e.2 = .int x tok:=by
 obtain⟨⟨k,hk,_⟩,_⟩:=hel e he
 obtain⟨_,v⟩:=e
 cases v with
 | int x tok=>exact⟨x,tok,rfl⟩
 | _=>cases hk
theorem setsByText_at {Q:Bool→Shared→Prop}(c:Q (byText w) s):wpAny (model prog w) A setsByText Q E s:=by
 unfold setsByText
 exact wpAny_bind (wpAny_askSetting (wpAny_pure c))
theorem count_lt {slot p:Nat}:∀l:List Nat,p∈l→slot≤p→l.countP (fun j=>decide (p+1≤j))<l.countP (fun j=>decide (slot≤j))
 | [],hp,_=>nomatch hp
 | b::l,hp,hs=>by
  have mono:l.countP (fun j=>decide (p+1≤j))≤l.countP (fun j=>decide (slot≤j)):=List.countP_mono_left fun x _ hx=>by
   have:=of_decide_eq_true hx
   exact decide_eq_true (lp [_,_,_] [(zA,zB),(su zB,zC)] zA zC rfl hs this)
  rw [List.countP_cons,List.countP_cons]
  by_cases hb:b=p
  ·subst hb
   rw [if_neg (by simp -iota),if_pos (by simpa -iota using hs)]
   exact lp [_,_] [(zA,zB)] (.add (.add zA (.num 0)) (.num 1)) (su zB) rfl mono
  ·have ih:=count_lt l (by
    rcases mem_cons.mp hp with q|q
    ·exact absurd q.symm hb
    ·exact q) hs
   by_cases h1:p+1≤b
   ·rw [if_pos (by simpa -iota using h1),if_pos (by simp -iota;exact lp [_,_,_] [(zA,zB),(su zB,zC)] zA zC rfl hs h1)]
    exact lp [_,_] [(su zA,zB)] (.add (su zA) (.num 1)) (su zB) rfl ih
   ·rw [if_neg (by simpa -iota using h1)]
    exact lp [_,_,_] [(su zA,zB)] (.add (.add zA (.num 0)) (.num 1)) (.add zB zC) rfl ih
theorem setNext_text {es:Array (Int×Value)}{ep slot i:Nat}{t:SetTable}{Q:Option (Value×Nat)→Shared→Prop}(hb:byText w=true)(ho:s.heap.get? a=some (setO es ep t))(hf:t.fits es.size=true)
  (c0:Q none s)(c1:∀e∈es.toList,i<es.size→Q (some (e.2,slot)) s):wpAny (model prog w) A (setNext a slot i ep) Q E s:=by
 unfold setNext
 refine wpAny_bind (wpAny_setState_of ho rfl hf ?_)
 dsimp only
 refine wpAny_bind (setsByText_at ?_)
 rw [if_pos hb,if_neg (by simp -iota)]
 refine wpAny_bind (m:=setWalk a) ?_
 unfold setWalk
 refine wpAny_bind (wpAny_setState_of ho rfl hf ?_)
 dsimp only
 refine wpAny_bind (setsByText_at ?_)
 rw [if_pos hb]
 refine wpAny_bind (wpAny_askSetting (wpAny_pure ?_))
 refine wpAny_pure ?_
 have hsz:=pick_size ((model prog w).w.params.setOrder a ep) es
 have hmem:=pick_mem ((model prog w).w.params.setOrder a ep) es
 generalize pickOrder ((model prog w).w.params.setOrder a ep) es=xs at hsz hmem
 show Q (Option.map (fun e=>(e.2,slot)) xs[i]?) s
 cases hx:xs[i]? with
 | none=>exact c0
 | some e=>
  obtain⟨hi,rfl⟩:=Array.getElem?_eq_some_iff.mp hx
  exact c1 _ (hmem _ (by simp -iota)) (nT hi hsz)
theorem setNext_place {es:Array (Int×Value)}{ep slot i:Nat}{t:SetTable}{Q:Option (Value×Nat)→Shared→Prop}(hb:byText w=false)(hth:thin es t=false)(hl:t.led=true)(ho:s.heap.get? a=some (setO es ep t))(hf:t.fits es.size=true)
  (c0:Q none s)(c1:∀e∈es.toList,∀p∈t.place.toList,slot≤p→Q (some (e.2,p+1)) s):wpAny (model prog w) A (setNext a slot i ep) Q E s:=by
 unfold setNext
 refine wpAny_bind (wpAny_setState_of ho rfl hf ?_)
 dsimp only
 refine wpAny_bind (setsByText_at ?_)
 rw [if_neg (by rw [hb];simp -iota)]
 show wpAny _ _ (if thin es t=true then _ else _) _ _ _
 rw [if_neg (by rw [hth];simp -iota)]
 refine wpAny_bind (m:=if (!t.led&&!es.isEmpty)=true then _ else _) ?_
 rw [if_neg (by rw [hl];simp -iota)]
 refine wpAny_pure (wpAny_pure ?_)
 cases h1:es[SetTable.below t.place slot]? with
 | none=>exact c0
 | some e=>
  cases h2:t.place[SetTable.below t.place slot]? with
  | none=>exact c0
  | some p=>
   refine c1 e ?_ p ?_ (below_ge h2)
   ·exact mem_of_getElem? (Array.getElem?_toList.trans h1)
   ·exact mem_of_getElem? (Array.getElem?_toList.trans h2)
theorem setNextDrawn_at {es:Array (Int×Value)}{ep p:Nat}{t:SetTable}{Q:Value→Shared→Prop}(ho:s.heap.get? a=some (setO es ep t))(hf:t.fits es.size=true)(hp:p<es.size)
  (c:∀e∈es.toList,Q e.2 s):wpAny (model prog w) A (setNextDrawn a p ep) Q E s:=by
 unfold setNextDrawn
 refine wpAny_bind (wpAny_setState_of ho rfl hf ?_)
 dsimp only
 rw [if_neg (by simp -iota),Array.getElem?_eq_getElem hp]
 exact wpAny_pure (c es[p] (by simp -iota))
theorem stop_set {hp:Heap}{Q:Option Value→Shared→Prop}(hh:A.handled=none)(c:∀o1 o2,Q none (sh s ((hp.push o1).push o2) tk)) :
  wpAny (model prog w) A.in1 (newExc (.type "StopIteration") [] >>= fun e=>(raiseNew e:Sem PySem.Fin)) (fun fin s'=>∃v,fin=Fin.done (Flow.ret v)∧wpAny (model prog w) A (pure (some v)) Q E s')
  (fun e s'=>wpAny (model prog w) A (do
     let __do_lift ←isInstance e (Value.type "StopIteration")
     if __do_lift=true then pure none else throw e) Q E s') (sh s hp tk):=by
 refine wpAny_bind ?_
 simp -iota only [newExc,newTuple]
 refine wpAny_bind (wpAny_newObj_type ?_ (by size_fits))
 refine wpAny_bind (m:=firstArgMember _ _) (wpAny_of_eq (a:=Value.none) (by first|rfl|(simp -iota only [firstArgMember];rfl)) ?_)
 refine wpAny_newObj_type ?_ (by size_fits)
 simp -iota only [raiseNew]
 refine wpAny_bind (wpAny_handled ?_)
 rw [show A.in1.handled=none from hh]
 refine wpAny_bind (wpAny_pure (wpAny_throw ?_))
 refine wpAny_bind (wpAny_isInstance (T:="StopIteration") (b:=true) ⟨_,Heap.get?_push_size _ rfl,rfl⟩ isSubtype_stop ?_)
 exact wpAny_pure (c _ _)
theorem next_set {es:Array (Int×Value)}{ep N:Nat}{t:SetTable}{Q:Option Value→Shared→Prop}(hh:A.handled=none)(ho:h.get? a=some (setO es ep t))(hel:ElemsOf (intKind prog w) es.toList)(hf:t.fits es.size=true)
  (hl:t.led=true∨byText w=true)(I:ItAt w h it a es ep t N)
  (c1:∀x tok h' ob N',Heap.SameBut it h h'→h'.get? it=some ob→ItAt w h' it a es ep t N'→N'<N→Q (some (.int x tok)) (sh s h' tk))
  (c2:∀h' o1 o2 ob,Heap.SameBut it h h'→h'.get? it=some ob→Q none (sh s ((h'.push o1).push o2) tk)) :
  wpAny (model prog w) A (pyNext (.ref it)) Q E (sh s h tk):=by
 obtain⟨first,i,hit,R⟩:=I
 have hT:Shared.TypeIs (sh s h tk) (.ref it) "set_iterator":=⟨_,hit,rfl⟩
 unfold pyNext
 refine wpAny_bind (wpAny_attempt (wpAny_callSpecial?_slot (name:=Str.ofString "__next__") hT slot_set_iterator_next
  (wpAny_call_entry slot_set_iterator_next hT entry_set_iterator_next ?_ (args_set_iterator_next _))))
 unfold Builtin.«set_iterator.__next__» slotArgs
 simp -iota only [List.isEmpty_nil,Bool.not_true,Bool.false_eq_true,↓reduceIte,bind_assoc,length_nil,bne_self_eq_false]
 refine wpAny_bind (wpAny_pure ?_)
 refine wpAny_bind (wpAny_fieldsOf hit rfl ?_)
 dsimp only
 refine wpAny_bind (wpAny_setEntries_of ho rfl hf ?_)
 rw [if_neg (by simp -iota)]
 have stop:∀h' ob,Heap.SameBut it h h'→h'.get? it=some ob→wpAny (model prog w) A.in1 (do
   let e ←newExc (Value.type "StopIteration") []
   raiseNew e) (fun fin s'=>∃v,fin=Fin.done (Flow.ret v)∧wpAny (model prog w) A (pure (some v)) Q E s')
  (fun e s'=>wpAny (model prog w) A (do
     let __do_lift ←isInstance e (Value.type "StopIteration")
     if __do_lift=true then pure none else throw e) Q E s') (sh s h' tk):=fun h' ob hs hob=>
  stop_set hh fun o1 o2=>c2 h' o1 o2 ob hs hob
 rcases R with ⟨hb,⟨slot,rfl⟩,hN⟩|⟨hb,hth,slot,rfl,hN⟩|⟨p,L,tn,rfl,hp,hL,hN⟩
 ·dsimp only
  have hsz:es.size=es.size:=rfl
  refine wpAny_bind (setNext_text (s:=sh s h tk) hb ho hf ?_ fun e he hi=>?_)
  ·dsimp only
   refine wpAny_bind (wpAny_setField_rec hit (by simp -iota) fun h1 e1 hs1=>?_)
   exact stop h1 _ hs1 e1
  ·dsimp only
   obtain⟨x,tok,hx⟩:=int_of_elem hel he
   rw [hx]
   refine wpAny_bind (wpAny_setField_rec hit (by simp -iota) fun h1 e1 hs1=>?_)
   refine wpAny_bind (wpAny_setField_rec (s:=sh s h1 tk) e1 (by simp -iota) fun h2 e2 hs2=>?_)
   refine wpAny_pure ⟨_,rfl,wpAny_pure ?_⟩
   refine c1 x tok h2 _ (es.size - (i+1)) (hs1.trans hs2) e2 ⟨.int slot 0,i+1,e2,.inl ⟨hb,⟨slot,rfl⟩,rfl⟩⟩ ?_
   have:i<es.size:=hi
   exact lp [_,_,_,_,_] [(zA,zB),(zC,.add zA zD),(.add zE (su zD),zC)] (su zE) zB rfl (eqR hN) (sbA _ _) (sbB _ _ this)
 ·dsimp only
  have hl':t.led=true:=by
   rcases hl with q|q
   ·exact q
   ·rw [hb] at q;cases q
  refine wpAny_bind (setNext_place (s:=sh s h tk) hb hth hl' ho hf ?_ fun e he p hp hsp=>?_)
  ·dsimp only
   refine wpAny_bind (wpAny_setField_rec hit (by simp -iota) fun h1 e1 hs1=>?_)
   exact stop h1 _ hs1 e1
  ·dsimp only
   obtain⟨x,tok,hx⟩:=int_of_elem hel he
   rw [hx]
   refine wpAny_bind (wpAny_setField_rec hit (by simp -iota) fun h1 e1 hs1=>?_)
   refine wpAny_bind (wpAny_setField_rec (s:=sh s h1 tk) e1 (by simp -iota) fun h2 e2 hs2=>?_)
   refine wpAny_pure ⟨_,rfl,wpAny_pure ?_⟩
   refine c1 x tok h2 _ _ (hs1.trans hs2) e2 ⟨.int (p+1:Nat) 0,i+1,e2,.inr (.inl ⟨hb,hth,p+1,rfl,rfl⟩)⟩ ?_
   rw [hN]
   exact count_lt _ hp hsp
 ·dsimp only
  have hpi:p≠it:=by
   rintro rfl
   rw [hit] at hp
   have hc:=congrArg Obj.cls (Option.some.inj hp)
   injection hc with hc
   exact absurd hc (by decide)
  refine wpAny_bind (wpAny_seqItems (s:=sh s h tk) hp rfl ?_)
  dsimp only
  have hnat:((i:Int)).toNat=i:=Int.toNat_natCast i
  rw [hnat,getElem?_toArray,getElem?_map]
  cases hq:L[i]? with
  | none=>
   dsimp only [Option.map]
   refine wpAny_bind (wpAny_setField_rec hit (by simp -iota) fun h1 e1 hs1=>?_)
   refine wpAny_bind (wpAny_setField_rec (s:=sh s h1 tk) e1 (by simp -iota) fun h2 e2 hs2=>?_)
   exact stop h2 _ (hs1.trans hs2) e2
  | some j=>
   dsimp only [Option.map]
   obtain⟨hi,rfl⟩:=List.getElem?_eq_some_iff.mp hq
   refine wpAny_bind (setNextDrawn_at (s:=sh s h tk) ho hf (hL _ (getElem_mem hi)) fun e he=>?_)
   obtain⟨x,tok,hx⟩:=int_of_elem hel he
   rw [hx]
   refine wpAny_bind (wpAny_setField_rec hit (by simp -iota) fun h1 e1 hs1=>?_)
   refine wpAny_pure ⟨_,rfl,wpAny_pure ?_⟩
   refine c1 x tok h1 _ (L.length - (i+1)) hs1 e1 ⟨.ref p,i+1,e1,.inr (.inr ⟨p,L,tn,rfl,(hs1.2 p hpi).trans hp,hL,rfl⟩)⟩ ?_
   exact lp [_,_,_,_,_] [(zA,zB),(zC,.add zA zD),(.add zE (su zD),zC)] (su zE) zB rfl (eqR hN) (sbA _ _) (sbB _ _ hi)
end
end Mine
namespace Mine
section
variable {a it:Addr}
theorem iter_set {es:Array (Int×Value)}{ep:Nat}{t:SetTable}{Q:Value→Shared→Prop}(ho:h.get? a=some (setO es ep t))(hf:t.fits es.size=true)(hsz:es.size<scanBound)
  (c:∀d hp first N,(hp=h∨∃o,o.isFreed=false∧hp=h.push o)→ItAt w (hp.push (itO first 0 a es.size ep)) hp.objs.size a es ep t N→N≤es.size→Q (.ref hp.objs.size) (sh { s with drawn:=d } (hp.push (itO first 0 a es.size ep)) tk)) :
  wpAny (model prog w) A (pyIter (.ref a)) Q E (sh s h tk):=by
 have hT:Shared.TypeIs (sh s h tk) (.ref a) "set":=⟨_,ho,rfl⟩
 refine wpAny_pyIter_slot hT F.slot_set_iter (wpAny_call_entry F.slot_set_iter hT entry_set_iter ?_ (F.args_set_iter_1 _))
 unfold Builtin.«frozenset.__iter__» Builtin.Frozenset.slot0 slotArgs
 simp only [List.isEmpty_nil,Bool.not_true,Bool.false_eq_true,↓reduceIte,bind_assoc,length_nil,bne_self_eq_false]
 unfold Builtin.Frozenset.addrOf Builtin.Frozenset.sizeOf
 refine wpAny_bind (wpAny_pure ?_)
 try dsimp only
 refine wpAny_bind (wpAny_pure ?_)
 refine wpAny_bind (wpAny_bind (wpAny_setEntries_of ho rfl hf (wpAny_pure ?_)))
 have make:∀(d:Drawn) (hp:Heap) (first:Value),hp.get? a=some (setO es ep t)→(∀b o,hp.get? b=some o→(hp.push (itO first 0 a es.size ep)).get? b=some o)→Q (.ref hp.objs.size) (sh { s with drawn:=d } (hp.push (itO first 0 a es.size ep)) tk)→
   wpAny (model prog w) A.in1 (do
     let e ←setEpoch a
     let v ←newFields "set_iterator" [first,rawInt 0,Value.ref a,rawInt ↑es.size,rawInt ↑e]
     ret v) (fun fin s'=>∃v,fin=Fin.done (Flow.ret v)∧∃T' r,s'.TypeIs v T'∧typeLookup (Value.type T') (Str.ofString "__next__")=pure (some r)∧Q v s') E (sh { s with drawn:=d } hp tk):=fun d hp first ho' hk hQ=>by
  refine wpAny_bind (wpAny_setEpoch_of ho' rfl hf ?_)
  refine wpAny_bind ?_
  unfold newFields
  refine wpAny_newObj_type ?_ (by size_fits)
  exact wpAny_pure ⟨_,rfl,"set_iterator",_,⟨_,Heap.get?_push_size _ rfl,rfl⟩,slot_set_iterator_next.lookup,hQ⟩
 refine wpAny_bind (m:=setDrawn a) ?_
 unfold setDrawn
 refine wpAny_bind (wpAny_setState_of ho rfl hf ?_)
 dsimp only
 refine wpAny_bind (setsByText_at ?_)
 refine wpAny_pure ?_
 show wpAny _ _ (if (!byText w&&thin es t)=true then _ else _) _ _ _
 have hself:sh s h tk=sh { s with drawn:=s.drawn } h tk:=rfl
 by_cases hd:(!byText w&&thin es t)=true
 ·rw [if_pos hd]
  refine wpAny_bind (wp_drawOrder _ _ _ _ fun d ys hy hl=>?_)
  refine wpAny_bind (wpAny_newTuple ?_ (by rw [length_map];unfold scanBound at hsz;rw [sizeLine_eq];exact lp [_,_] [(su zA,.num 4096),(zB,zA)] zB (.num 16777216) rfl hsz hl))
  refine make d (h.push (seqObj "tuple" (ys.map fun i=>rawInt (i:Nat)).toArray 0)) (.ref h.objs.size) (Heap.get?_push_of_some _ ho) (fun b o e=>Heap.get?_push_of_some _ e) ?_
  refine c d _ _ ys.length (.inr ⟨_,rfl,rfl⟩) ⟨_,0,Heap.get?_push_size _ rfl,.inr (.inr ⟨_,ys,0,rfl,Heap.get?_push_of_some _ (Heap.get?_push_size _ rfl),fun j hj=>mem_range.mp (hy j hj),rfl⟩)⟩ hl
 ·rw [if_neg hd]
  refine wpAny_bind (wpAny_pure ?_)
  rw [hself]
  refine make s.drawn h (rawInt 0) ho (fun b o e=>Heap.get?_push_of_some _ e) ?_
  cases hb:byText w with
  | true=>
   refine c _ _ _ (es.size - 0) (.inl rfl) ⟨_,0,Heap.get?_push_size _ rfl,.inl ⟨hb,⟨0,rfl⟩,rfl⟩⟩ (Nat.sub_le _ _)
  | false=>
   have hth:thin es t=false:=by
    rw [hb] at hd
    cases q:thin es t
    ·rfl
    ·rw [q] at hd;exact absurd rfl hd
   refine c _ _ _ _ (.inl rfl) ⟨_,0,Heap.get?_push_size _ rfl,.inr (.inl ⟨hb,hth,0,rfl,rfl⟩)⟩ ?_
   have h1:=List.countP_le_length (p:=fun j=>decide (0≤j)) (l:=t.place.toList)
   have h2:t.place.size=es.size:=by
    simp only [SetTable.fits,Bool.and_eq_true,beq_iff_eq] at hf
    exact hf.1
   rw [Array.length_toList,h2] at h1
   exact h1
end
end Mine
namespace Mine
section
variable {R:Result→Shared→Prop}{I:Addr}{fp wr:List Addr}{G:Array GenState→Array GenState→Prop}{n:Nat}{P:Nat→Value→Prop}{St:Nat→Shared→Prop}
theorem SetI.moved {h h':Heap}{S:Addr}{n:Nat}(x:SetI prog w h S n)(hk:∀o,h.get? S=some o→h'.get? S=some o):SetI prog w h' S n:=by
 obtain⟨es,ep,t,ho,r⟩:=x;exact⟨es,ep,t,hk _ ho,r⟩
theorem set_update_loopI (W:WalksS prog w A.in1 I fp wr G n P St)(S:Addr)(hSf:S∉fp)
  (hval:∀i v,P i v→∃x t,v = .int x t)(hb:n+1<scanBound) :
  ∀(k i:Nat) (s:Shared),n - i=k→i≤n→St i s→SetI prog w s.heap S i→
   (∀s',Moved (S::wr) G s s'→SetI prog w s'.heap S n→R (.ok (.ret .none)) s')→
   codeAny (model prog w) A (.builtin "set.update.loop" ⟨[.ref S,.ref I],[]⟩) R s:=by
 have hSw:S∉wr:=fun h=>hSf (W.sub _ h)
 have hsub:∀b∈wr,b∈S::wr:=fun b hb=>mem_cons_of_mem _ hb
 intro k
 induction k with
 | zero=>
  intro i s hk hi hst hS hR
  have hin:i=n:=nA (lp [_,_,_] [(.add zA zB,zC)] zB zC rfl (sbB _ _ hi)) (lp [_,_,_] [(zA,.num 0),(zB,.add zA zC)] zB zC rfl (eqL hk) (sbA _ _))
  subst hin
  refine codeAny_builtin F.entry_set_update_loop ?_
  rw [Around.under_plainId F.plain_set_update_loop _]
  show wpAny _ A.in1 (pyNext (.ref I) >>= _) _ _ s
  refine wpAny_bind (W.done s _ _ hst fun s' hm=>?_)
  show wpAny _ A.in1 (ret Value.none) _ _ s'
  exact wpAny_pure (hR s' (hm.mono hsub) (hS.moved fun o e=>hm.heap S _ hSw e))
 | succ k ih=>
  intro i s hk hi hst hS hR
  have hlt:i<n:=lp [_,_,_,_] [(su zA,zB),(.add zB zC,zD)] (su zC) zD rfl (eqR hk) (sbB _ _ hi)
  refine codeAny_builtin F.entry_set_update_loop ?_
  rw [Around.under_plainId F.plain_set_update_loop _]
  show wpAny _ A.in1 (pyNext (.ref I) >>= _) _ _ s
  refine wpAny_bind (W.item i s _ _ hlt hst fun v s' hP hst' hm=>?_)
  obtain⟨x,t,rfl⟩:=hval i v hP
  have hS':SetI prog w s'.heap S i:=hS.moved fun o e=>hm.heap S _ hSw e
  show wpAny _ A.in1 (holding [Value.int x t] (setAdd S (.int x t)) >>= _) _ _ s'
  refine wpAny_bind (wpAny_holding ?_)
  unfold setAdd
  refine wpAny_holding ?_
  refine wpAny_bind ((intKind prog w).pyHash (k:=x) (intKind_is _ _ _ _) ?_)
  refine set_addI (s:={ s' with toks:=s'.toks+1 }) hS' (lp [_,_,_,_] [(.add (su zA) (.num 1),zB),(.add zC zD,zA)] (.add (su zD) (.num 1)) zB rfl hb (sbB _ _ (lp [_,_] [(su zA,zB)] zA zB rfl hlt))) fun b h' hsb hSi=>?_
  refine wpAny_pure ⟨plainId_quiet F.plain_set_update_loop _,ih (i+1) _ (nA (lp [_,_,_,_,_] [(zA,su zB),(zC,.add zA zD),(.add zE (su zD),zC)] zE zB rfl (eqL hk) (sbA _ _) (sbB _ _ hlt)) (lp [_,_,_,_,_] [(su zA,zB),(zC,.add zD (su zE)),(.add zB zE,zC)] zA zD rfl (eqR hk) (sbA _ _) (sbB _ _ (lp [_,_,_] [(.add zA (su zB),zC)] zB zC rfl (sbB _ _ hlt))))) hlt (W.frame _ s' _ _ hst' (Nat.le_succ _) fun b hb o e=>?_) hSi fun s'' hm'' hS''=>?_⟩
  ·rw [hsb.2 b (fun h:b=S=>hSf (by rw [←h];exact hb))];exact e
  ·refine hR s'' (Moved.trans W.gtrans ((hm.mono hsub).then_heap (Nat.le_succ _) fun b o hb e=>?_) hm'') hS''
   rw [hsb.2 b (fun h:b=S=>hb (by rw [h];exact mem_cons_self))];exact e
end
section
theorem set_new_1I (a:Value){Q₁:Value→Shared→Prop}
  (h:Q₁ (.ref s.heap.objs.size) { s with heap:=s.heap.push { cls:=.type "set",dict:=none,data:=.set #[] 0 (.fresh 0 0 (!byText w)) } }) :
  codeAny (model prog w) A (.call (.builtin "set.__new__") ⟨[.type "set",a],[]⟩) (wants Q₁ E) s:=by
 refine codeAny_of_tree ?_
 show wpAny _ A.in1 (do checkBuiltinCall "set.__new__" ⟨[.type "set",a],[]⟩;again (.builtin "set.__new__" ⟨[.type "set",a],[]⟩)) _ _ s
 refine wpAny_bind (wpAny_of_eq (F.newCall_set_1 a) (wpAny_pure ⟨plainId_quiet F.plain_set_new _,codeAny_builtin F.entry_set_new ?_⟩))
 rw [Around.under_plainId F.plain_set_new _]
 unfold Builtin.«set.__new__» Builtin.Frozenset.newClass
 have hsub:=sub_set_self
 obtain⟨hp,g,d,tk,os⟩:=s
 dsimp only
 wp_walk
 refine wpAny_askSetting (wpAny_pure ?_)
 dsimp only
 simp only [newObj]
 refine wpAny_bind (wpAny_alloc (wpAny_pure ?_))
 exact wpAny_pure h
theorem call_setI {l:Addr}{items:Array Value}{Q:Value→Shared→Prop}
  (hh:A.handled=none)(hl:s.heap.IsList l items)(hi:∀(i:Nat)(v:Value),items[i]?=some v→∃x t,v = .int x t)(hb:items.size+1<scanBound)
  (h:∀(h':Heap)(tk:Nat),SetI prog w h' s.heap.objs.size items.size→
   (∀b o,b<s.heap.objs.size→s.heap.get? b=some o→h'.get? b=some o)→Q (.ref s.heap.objs.size) { s with heap:=h',toks:=tk }) :
  wpAny (model prog w) A (call (.type "set") [.ref l]) Q E s:=by
 obtain⟨c,tl,hmro⟩:=F.called_set.mro
 have hmade:=F.called_set.made
 have hsub:=F.called_set.sub
 refine wpAny_call (codeAny_of_tree ?_)
 show wpAny _ _ (callAny (.type "set") _) _ _ _
 refine wpAny_pure ⟨Code.quiet_builtin _ (by decide +kernel),codeAny_builtin F.entry_type_call ?_⟩
 rw [Around.under_plain (weight_type_call_type "set" [.ref l] []) rfl]
 have h1:=F.called_set.notType
 have h2:=F.called_set.canCreate
 have hct:=F.typeCall_set_1 (.ref l)
 repeat (any_goals (first|assumption|wp_step))
 generalize hled:(!byText w)=led
 refine codeAny_mono (set_new_1I (.ref l) (E:=E) (Q₁:=fun obj s₁=>obj = .ref s.heap.objs.size∧s₁={ s with heap:=s.heap.push { cls:=.type "set",dict:=none,data:=.set #[] 0 (.fresh 0 0 led) } }) ⟨rfl,by rw [hled]⟩) fun r s₁ hr=>?_
 cases r with
 | error e=>exact hr
 | ok fl=>
  cases fl with
  | ret obj=>
   obtain⟨rfl,rfl⟩:=hr
   have hS:(s.heap.push { cls:=.type "set",dict:=none,data:=.set #[] 0 (.fresh 0 0 led) }).get? s.heap.objs.size=some { cls:=.type "set",dict:=none,data:=.set #[] 0 (.fresh 0 0 led) }:=Heap.get?_push_size _ rfl
   have hT:Shared.TypeIs { s with heap:=s.heap.push { cls:=.type "set",dict:=none,data:=.set #[] 0 (.fresh 0 0 led) } } (.ref s.heap.objs.size) "set":=⟨_,hS,rfl⟩
   have hli:=F.called_set.init.lookup
   have hbi:=F.called_set.init.bind (.ref s.heap.objs.size)
   repeat (any_goals (first|assumption|wp_step))
   refine codeAny_mono (codeAny_call_builtin (R:=wants (fun r s₂=>r = .none∧∃h' tk,s₂={ s with heap:=h',toks:=tk }∧
     SetI prog w h' s.heap.objs.size items.size∧
     (∀b o,b<s.heap.objs.size→s.heap.get? b=some o→h'.get? b=some o)) E) F.called_set.init.plain F.entry_set_init (check_set_init_1 hT ?_)) fun r₂ s₂ hr₂=>?_
   ·obtain⟨ol,hol,hcl,nl,hdl⟩:=hl
    obtain⟨ocls,odict,odata,oslots⟩:=ol
    simp only at hcl hdl
    subst hcl;subst hdl
    have hol':(s.heap.push { cls:=.type "set",dict:=none,data:=.set #[] 0 (.fresh 0 0 led) }).get? l=some { cls:=.type "list",dict:=odict,data:=.seq items nl,slots:=oslots }:=Heap.get?_push_of_some _ hol
    have hsls:=F.sub_list_set
    have hslf:=F.sub_list_frozenset
    have hne:(Value.type "list" == Value.type "dict")=false:=by decide
    have hl1:(s.heap.push { cls:=.type "set",dict:=none,data:=.set #[] 0 (.fresh 0 0 led) }).IsList l items:=⟨_,hol',rfl,nl,rfl⟩
    unfold Builtin.«set.__init__» noKeywords Builtin.Frozenset.updateFrom
    generalize hPI:pyIter=PI
    wp_walk
    subst hPI
    refine wpAny_pyIter_list hl1 ?_
    refine wpAny_bind (wpAny_runValue ?_)
    have hlS:l<s.heap.objs.size:=Heap.lt_size hol
    have hh3:A.in1.in1.in1.handled=none:=by simp [hh]
    have hneI:l≠(s.heap.push { cls:=.type "set",dict:=none,data:=.set #[] 0 (.fresh 0 0 led) }).objs.size:=by
     rw [Heap.size_push];exact Nat.ne_of_lt (Nat.lt_succ_of_lt hlS)
    have hSf:s.heap.objs.size∉[(s.heap.push { cls:=.type "set",dict:=none,data:=.set #[] 0 (.fresh 0 0 led) }).objs.size,l]:=by
     rw [Heap.size_push];simp only [mem_cons,mem_singleton,not_mem_nil,or_false,not_or]
     exact⟨Nat.ne_of_lt (Nat.lt_succ_self _),Nat.ne_of_gt hlS⟩
    refine set_update_loopI ((Walks.list hh3 _ l hneI items).toS) s.heap.objs.size
     hSf hi hb (items.size - 0) 0 _ (nA (lp [_] [] zA zA rfl) (lp [_] [] zA zA rfl)) (Nat.zero_le _)
     ⟨⟨_,Heap.get?_push_size _ rfl,rfl,rfl⟩,(hl1.push _)⟩ ?hS0 ?hR
    case hS0=>
     have hget:((s.heap.push { cls:=.type "set",dict:=none,data:=.set #[] 0 (.fresh 0 0 led) }).push { cls:=.type "list_iterator",data:=.fields #[.ref l,.int 0 0] }).get? s.heap.objs.size
       = some { cls:=.type "set",dict:=none,data:=.set #[] 0 (.fresh 0 0 led) }:=Heap.get?_push_of_some _ hS
     refine⟨#[],0,_,hget,(fun e he=>nomatch he),Nat.le_refl _,rfl,?_⟩
     show led=true∨_
     rw [←hled]
     cases byText w
     ·exact .inl rfl
     ·exact .inr rfl
    case hR=>
     intro s' hm hS'
     obtain⟨h',g',d',tk',os'⟩:=s'
     have eg:g'=s.gens:=hm.gens
     have ed:d'=s.drawn:=hm.drawn
     have eo:os'=s.os:=hm.os
     subst eg;subst ed;subst eo
     show wpAny _ _ _ _ _ _
     refine wpAny_pure ?_
     show wpAny _ _ (ret Value.none) _ _ _
     refine wpAny_pure ⟨rfl,h',tk',rfl,hS',fun b o hb e=>?_⟩
     have hb1:b≠s.heap.objs.size:=Nat.ne_of_lt hb
     have hb2:b≠(s.heap.push { cls:=.type "set",dict:=none,data:=.set #[] 0 (.fresh 0 0 led) }).objs.size:=by
      rw [Heap.size_push];exact Nat.ne_of_lt (Nat.lt_succ_of_lt hb)
     exact hm.heap b o (by simp only [mem_cons,mem_singleton,not_mem_nil,or_false,not_or];exact⟨hb1,hb2⟩) (Heap.get?_push_of_some _ (Heap.get?_push_of_some _ e))
   ·cases r₂ with
    | error e=>exact hr₂
    | ok fl₂=>
     cases fl₂ with
     | ret r=>
      obtain⟨rfl,h',tk,rfl,hS',hk'⟩:=hr₂
      repeat (any_goals (first|assumption|wp_step))
      exact h _ _ hS' hk'
     | _=>exact hr₂.elim
  | _=>exact hr.elim
end
end Mine
namespace Mine
section
variable {R:Result→Shared→Prop}{a it D:Addr}
abbrev lstO (acc:Array Value)(c:Nat):Obj:={ cls:=.type "list",dict:=none,data:=.seq acc c,slots:=#[] }
noncomputable def Ints (acc:Array Value):Prop:=∀v∈acc.toList,∃x tok,v = .int x tok
theorem it_ne {first:Value}{i n ep c:Nat}{acc:Array Value}(h1:h.get? it=some (itO first i a n ep))(h2:h.get? D=some (lstO acc c)):D≠it:=by
 rintro rfl
 rw [h1] at h2
 have hc:=congrArg Obj.cls (Option.some.inj h2)
 injection hc with hc
 exact absurd hc (by decide)
theorem set_ne {es:Array (Int×Value)}{ep c:Nat}{t:SetTable}{acc:Array Value}(h1:h.get? a=some (setO es ep t))(h2:h.get? D=some (lstO acc c)):D≠a:=by
 rintro rfl
 rw [h1] at h2
 have hc:=congrArg Obj.cls (Option.some.inj h2)
 injection hc with hc
 exact absurd hc (by decide)
theorem set_ne_it {es:Array (Int×Value)}{ep i n ep':Nat}{t:SetTable}{first:Value}{a':Addr}(h1:h.get? a=some (setO es ep t))(h2:h.get? it=some (itO first i a' n ep')):it≠a:=by
 rintro rfl
 rw [h1] at h2
 have hc:=congrArg Obj.cls (Option.some.inj h2)
 injection hc with hc
 exact absurd hc (by decide)
theorem ItAt.but {es:Array (Int×Value)}{ep c N:Nat}{t:SetTable}{acc:Array Value}{h':Heap}(I:ItAt w h it a es ep t N)(hD:h.get? D=some (lstO acc c))(hs:Heap.SameBut D h h'):ItAt w h' it a es ep t N:=by
 obtain⟨first,i,hit,R⟩:=I
 refine⟨first,i,(hs.2 _ (Ne.symm (it_ne hit hD))).trans hit,?_⟩
 rcases R with q|q|⟨p,L,tn,e,hp,r⟩
 ·exact .inl q
 ·exact .inr (.inl q)
 ·refine .inr (.inr ⟨p,L,tn,e,(hs.2 _ ?_).trans hp,r⟩)
  rintro rfl
  rw [hp] at hD
  have hc:=congrArg Obj.cls (Option.some.inj hD)
  injection hc with hc
  exact absurd hc (by decide)
theorem extend_loop {es:Array (Int×Value)}{ep:Nat}{t:SetTable}{res:Value}(hh:A.handled=none)(hel:ElemsOf (intKind prog w) es.toList)(hf:t.fits es.size=true)(hl:t.led=true∨byText w=true) :
  ∀(N:Nat) (h:Heap) (acc:Array Value) (c:Nat),h.get? a=some (setO es ep t)→ItAt w h it a es ep t N→h.get? D=some (lstO acc c)→Ints acc→acc.size+N≤4096→
   (∀h' acc' c',(∀b o,b≠D→b≠it→h.get? b=some o→h'.get? b=some o)→h'.get? D=some (lstO acc' c')→Ints acc'→acc'.size≤acc.size+N→R (.ok (.ret res)) (sh s h' tk))→
   codeAny (model prog w) A (.builtin "list.extend.loop" ⟨[.ref D,.ref it,res],[]⟩) R (sh s h tk):=by
 intro N
 induction N using Nat.strongRecOn with
 | _ N ih=>
  intro h acc c ho I hD hacc hsz hR
  obtain⟨first,i,hit,_⟩:=id I
  have hDi:=it_ne hit hD
  have hDa:=set_ne ho hD
  have hia:=set_ne_it ho hit
  refine codeAny_builtin F.entry_extend_loop ?_
  rw [Around.under_plainId F.plain_extend_loop _]
  show wpAny _ A.in1 (pyNext (.ref it) >>= _) _ _ _
  refine wpAny_bind (next_set (by simp -iota [hh]) ho hel hf hl I (fun x tok h1 ob N' hs hob I1 hlt=>?_) fun h1 o1 o2 ob hs hob=>?_)
  ·have hD1:h1.get? D=some (lstO acc c):=(hs.2 D hDi).trans hD
   show wpAny _ A.in1 (updateSeq D (·.push (.int x tok)) >>= _) _ _ _
   refine wpAny_bind ?_
   refine wpAny_updateSeq hD1 rfl ?_ (by rw [sizeLine_eq];exact lp [_,_] [(.add zA zB,.num 4096)] zA (.num 16777216) rfl hsz) (by show (acc.push _).size≤sizeLine+1;rw [Array.size_push,sizeLine_eq];exact lp [_,_] [(.add zA zB,.num 4096)] (su zA) (.add (.num 16777216) (.num 1)) rfl hsz)
   have hs2:Heap.SameBut D h1 (h1.update D (Obj.mapSeq (·.push (.int x tok)))):=Heap.SameBut.update ..
   refine wpAny_pure ⟨plainId_quiet F.plain_extend_loop _,ih N' hlt _ (acc.push (.int x tok)) _ ((hs2.2 a (Ne.symm hDa)).trans ((hs.2 a (Ne.symm hia)).trans ho)) (I1.but hD1 hs2) (Heap.get?_update_self _ hD1 rfl) ?_ (by rw [Array.size_push];exact lp [_,_,_] [(.add zA zB,.num 4096),(su zC,zB)] (.add (su zA) zC) (.num 4096) rfl hsz hlt) fun h' acc' c' hk hD' ha' hz=>?_⟩
   ·intro v hv
    rw [Array.toList_push] at hv
    rcases mem_append.mp hv with q|q
    ·exact hacc v q
    ·exact⟨x,tok,mem_singleton.mp q⟩
   ·refine hR h' acc' c' (fun b o hbD hbi e=>hk b o hbD hbi ((hs2.2 b hbD).trans ((hs.2 b hbi).trans e))) hD' ha' ?_
    rw [Array.size_push] at hz
    exact lp [_,_,_,_] [(su zA,zB),(zC,.add (su zD) zA)] zC (.add zD zB) rfl hlt hz
  ·refine wpAny_pure (hR _ acc c (fun b o hbD hbi e=>Heap.get?_push_of_some _ (Heap.get?_push_of_some _ ((hs.2 b hbi).trans e))) (Heap.get?_push_of_some _ (Heap.get?_push_of_some _ ((hs.2 D hDi).trans hD))) hacc (Nat.le_add_right _ _))
theorem collect_set {es:Array (Int×Value)}{ep:Nat}{t:SetTable}{Q:List Value→Shared→Prop}(hh:A.handled=none)(ho:h.get? a=some (setO es ep t))(hel:ElemsOf (intKind prog w) es.toList)(hf:t.fits es.size=true)(hl:t.led=true∨byText w=true)(hsz:es.size<scanBound)
  (c:∀d h' (acc:Array Value),(∀b o,h.get? b=some o→h'.get? b=some o)→Ints acc→acc.size≤es.size→Q acc.toList (sh { s with drawn:=d } h' tk)) :
  wpAny (model prog w) A (collect (.ref a)) Q E (sh s h tk):=by
 have hlt:a<h.objs.size:=Heap.lt_size ho
 unfold collect
 refine wpAny_bind (wpAny_runValue (codeAny_builtin F.entry_proto_collect ?_))
 rw [Around.under_plainId F.plain_proto_collect _]
 show wpAny _ A.in1 (newList [] >>= fun l=>again (.builtin "list.__iadd__" ⟨[l,.ref a],[]⟩)) _ _ (sh s h tk)
 refine wpAny_bind (wpAny_newObj_type ?_)
 refine wpAny_pure ⟨plainId_quiet F.plain_list_iadd _,codeAny_builtin F.entry_list_iadd ?_⟩
 rw [Around.under_plainId F.plain_list_iadd _]
 have ho1:(h.push (lstO #[] 0)).get? a=some (setO es ep t):=Heap.get?_push_of_some _ ho
 have hT1:Shared.TypeIs (sh s (h.push (lstO #[] 0)) tk) (.ref a) "set":=⟨_,ho1,rfl⟩
 show wpAny _ A.in1 (Builtin.List.listExtendWith (.ref h.objs.size) (.ref a) (.ref h.objs.size)) _ _ (sh s (h.push (lstO #[] 0)) tk)
 unfold Builtin.List.listExtendWith
 refine wpAny_bind (wpAny_typeOf hT1 ?_)
 have h1:Builtin.List.listSameRef (.ref h.objs.size) (.ref a)=false:=by simp [Builtin.List.listSameRef];exact Nat.ne_of_gt hlt
 have h2:(Value.type "set" == Value.type "list")=false:=by decide
 have h3:(Value.type "set" == Value.type "tuple")=false:=by decide
 simp -iota only [h1,h2,h3,Bool.or_false,Bool.false_eq_true,if_false]
 refine wpAny_bind (iter_set ho1 hf hsz fun d hp first N hhp I hN=>?_)
 have hk1:∀b o,(h.push (lstO #[] 0)).get? b=some o→(hp.push (itO first 0 a es.size ep)).get? b=some o:=fun b o e=>by
  rcases hhp with rfl|⟨o',_,rfl⟩
  ·exact Heap.get?_push_of_some _ e
  ·exact Heap.get?_push_of_some _ (Heap.get?_push_of_some _ e)
 have hle:h.objs.size<hp.objs.size:=by
  rcases hhp with rfl|⟨o',_,rfl⟩
  ·rw [Heap.size_push];exact Nat.lt_succ_self _
  ·rw [Heap.size_push,Heap.size_push];exact Nat.lt_succ_of_lt (Nat.lt_succ_self _)
 generalize hit:hp.objs.size=it at I hle
 generalize hp.push (itO first 0 a es.size ep)=h2' at I hk1
 have ho2:=hk1 _ _ ho1
 have hD2:h2'.get? h.objs.size=some (lstO #[] 0):=hk1 _ _ (Heap.get?_push_size _ rfl)
 have hT2:Shared.TypeIs (sh { s with drawn:=d } h2' tk) (.ref a) "set":=⟨_,ho2,rfl⟩
 refine wpAny_bind (wpAny_holding ?_)
 unfold Builtin.List.listLengthHint
 refine wpAny_bind (wpAny_specialOf hT2 F.slot_set_len.lookup ?_)
 generalize hid:("set.__len__" : String)=id0
 wp_delta
 rw [show splitId id0=some ("set","__len__") from by subst hid;decide +kernel]
 subst hid
 refine wpAny_bind (wpAny_isInstance (T:="set") (b:=true) hT2 (by rw [isSubtype_type];kernel_rfl) ?_)
 refine wpAny_ite_split (fun hab=>absurd hab (by decide)) (fun _=>?_)
 refine wpAny_ite_split (fun _=>?_) (fun hab=>absurd (by decide +kernel) hab)
 refine wpAny_bind (wpAny_typeOf hT2 ?_)
 refine wpAny_pure ?_
 show wpAny _ A.in1 (rule "list.extend.makes-room" >>= fun _=>Builtin.List.listTouch (.ref h.objs.size) >>= fun _=>
  again (.builtin "list.extend.loop" ⟨[.ref h.objs.size,.ref it,.ref h.objs.size],[]⟩)) _ _ _
 refine wpAny_bind (wpAny_rule ?_)
 refine wpAny_bind ?_
 show wpAny _ A.in1 (updateSeq h.objs.size (·.push .none) >>= fun _=>updateSeq h.objs.size (·.pop)) _ _ _
 refine wpAny_bind (wpAny_updateSeq hD2 rfl ?_)
 have hD3:=Heap.get?_update_self (Obj.mapSeq (·.push Value.none)) hD2 rfl
 have sb3:Heap.SameBut h.objs.size h2' (h2'.update h.objs.size (Obj.mapSeq (·.push Value.none))):=Heap.SameBut.update ..
 generalize h2'.update h.objs.size (Obj.mapSeq (·.push Value.none))=h3' at hD3 sb3
 refine wpAny_updateSeq hD3 rfl ?_
 have hD4:=Heap.get?_update_self (Obj.mapSeq (·.pop)) hD3 rfl
 have sb4:Heap.SameBut h.objs.size h3' (h3'.update h.objs.size (Obj.mapSeq (·.pop))):=Heap.SameBut.update ..
 generalize h3'.update h.objs.size (Obj.mapSeq (·.pop))=h4' at hD4 sb4
 have sb:=sb3.trans sb4
 have hDa:h.objs.size≠a:=Nat.ne_of_gt hlt
 refine wpAny_pure ⟨plainId_quiet F.plain_extend_loop _,extend_loop (tk:=tk) (s:={ s with drawn:=d }) hh hel hf hl N h4' #[] _ ((sb.2 a (Ne.symm hDa)).trans ho2) (I.but hD2 sb) hD4 (fun v hv=>nomatch hv) (by rw [Array.size_empty];unfold scanBound at hsz;exact lp [_,_] [(su zA,.num 4096),(zB,zA)] (.add (.num 0) zB) (.num 4096) rfl hsz hN) fun h' acc' c' hk hD' ha' hz=>?_⟩
 show wpAny _ A (load h.objs.size >>= _) _ _ _
 refine wpAny_bind (wpAny_load hD' ?_)
 refine wpAny_pure (c d h' acc' (fun b o e=>?_) ha' ?_)
 ·have hb:b<h.objs.size:=Heap.lt_size e
  have hb1:b≠h.objs.size:=Nat.ne_of_lt hb
  exact hk b o hb1 (Nat.ne_of_lt (Nat.lt_trans hb hle)) ((sb.2 b hb1).trans (hk1 b o (Heap.get?_push_of_some _ e)))
 ·rw [Array.size_empty] at hz
  exact lp [_,_,_] [(zA,zB),(zC,.add (.num 0) zA)] zC zB rfl hN hz
end
end Mine
namespace Mine
section
noncomputable def intOf:Value→Int
 | .int x _=>x
 | _=>0
theorem ints_are {K:Heap}:∀vs:List Value,(∀v∈vs,∃x tok,v = .int x tok)→All2 (rInt.r K) vs (vs.map intOf)
 | [],_=>.nil
 | v::vs,hv=>by
  obtain⟨x,tok,rfl⟩:=hv v mem_cons_self
  exact .cons ⟨tok,rfl⟩ (ints_are vs fun u hu=>hv u (mem_cons_of_mem _ hu))
noncomputable def intOrd:Ord:=⟨fun p q=>decide (intOf p.1<intOf q.1),fun a b h=>decide_eq_false (by have:=of_decide_eq_true h;exact Int.not_lt.2 (lw [_,_] [(si iA,iB)] iA iB rfl this)),fun a b c h1 h2=>decide_eq_false (by have:=of_decide_eq_false h1;have:=of_decide_eq_false h2;exact Int.not_lt.2 (Int.le_trans (Int.not_lt.1 (by assumption)) (Int.not_lt.1 this)))⟩
theorem sorted_set {k:Nat}{a:Addr}{es:Array (Int×Value)}{ep:Nat}{t:SetTable}{Q:Value→Shared→Prop}(hA:OkA A (k+3))(S:St O K L m led h)
  (ho:h.get? a=some (setO es ep t))(hel:ElemsOf (intKind prog w) es.toList)(hf:t.fits es.size=true)(hl:t.led=true∨byText w=true)(hsz:es.size<scanBound)
  (c:∀d K' h' tk' v ys,Sub K K'→St O K' L m led h'→(rList rInt).r K' v ys→ys.length≤es.size→Q v (sh { s with drawn:=d } h' tk')) :
  wpAny (model prog w) A (call (.builtin "sorted") [.ref a]) Q E (sh s h tk):=by
 refine Calls.call_function_entry kind_sorted plain_sorted entry_sorted (args_sorted1 _) ?_
 unfold Builtin.«sorted»
 refine wpAny_bind (m:=checkCount "sorted" 1 1 _) (wpAny_pure ?_)
 refine wpAny_bind (collect_set (s:=s) hA.1 ho hel hf hl hsz fun d h1 acc hk ha hz=>?_)
 have hz':acc.toList.length≤es.size:=by rw [Array.length_toList];exact hz
 have hz4:es.size<4096:=hsz
 refine wpAny_bind (wpAny_newList ?_ (by rw [sizeLine_eq];exact lp [_,_] [(zA,zB),(su zB,.num 4096)] zA (.num 16777216) rfl hz' hz4))
 have S2:St O K L m led h1:=S.keeps hk
 have S3:=S2.push (seqObj "list" acc.toList.toArray 0)
 have hlow:@LE.le Nat _ O.B.objs.size h1.objs.size:=S2.sizeB
 show wpAny _ _ _ _ _ (sh { s with drawn:=d } (h1.push (seqObj "list" acc.toList.toArray 0)) tk)
 generalize hD:h1.objs.size=D at S3 hlow
 generalize h1.push (seqObj "list" acc.toList.toArray 0)=h3 at S3
 refine wpAny_bind (wpAny_holding ?_)
 refine wpAny_call_entry (s:=sh { s with drawn:=d } h3 tk) slot_list_sort ⟨_,S3.at 0 rfl,rfl⟩ entry_list_sort ?_ (args_list_sort _)
 have hA1:OkA A.in1.in1 (k+1):=hA.in1.in1
 refine sort_run (k:=k) (T:=.type "int") (R:=intOrd) hA1 S3 (fun h' _ v hv=>?_) (by decide) (by decide) (fun A' h' hu hs p q hp hq E tk Q' hQ=>?_) (lp [_,_] [(zA,zB),(su zB,.num 4096)] zA (.num 1048576) rfl hz' hz4) fun vs' h4 tk4 n4 S4 hp hs=>?_
 ·obtain⟨x,tok,rfl⟩:=ha v hv
  exact Looks.of_pure rfl
 ·have hv:∀p∈(pairsOf acc.toList).toList,p.1∈acc.toList:=fun p hp=>by
   rw [pairsOf_toList] at hp
   exact (of_mem_zip hp).1
  obtain⟨x,t1,e1⟩:=ha _ (hv p hp)
  obtain⟨y,t2,e2⟩:=ha _ (hv q hq)
  rw [e1,e2,keyLt'_oneType]
  refine oneLt_int ?_
  have:=hQ tk
  have e:intOrd.lt p q=decide (x<y):=by
   show decide (intOf p.1<intOf q.1)=_
   rw [e1,e2]
   rfl
  rw [e] at this
  exact this
 ·refine⟨_,rfl,wpAny_pure ⟨_,rfl,?_⟩⟩
  obtain⟨K5,hK5,S5,hfr⟩:=S4.freeze led (sublist_cons_self ..)
  have hnd:=S4.nodup
  rw [map_cons,nodup_cons] at hnd
  refine c d K5 h4 tk4 (.ref D) (vs'.map intOf) hK5 S5 ⟨D,vs',n4,rfl,hfr D _ (S4.at 0 rfl) hlow (S4.ledg _ mem_cons_self).2.1 hnd.1,ints_are _ fun v hv=>ha v (hp.mem_iff.mp hv)⟩ ?_
  rw [length_map,hp.length_eq]
  exact hz'
end
end Mine
namespace Mine
noncomputable def seenE:Expr:=kid (kid (valOf (bodyL.getD 10 (.Pass ⟨0,0,0,0⟩))) 0) 0
section
variable {R:Rel α}
theorem w_seen {x0 x1 x2 x3 x4 x5 x6 x7 x8 x9 x10 x13 x14 x15 x16 x17 x18 x19 x20:Option Value}{k:Nat}{Q:Value→Shared→Prop}{vr vs:Value}{rules:List (List Int)}{sends:List Int}(B:Mod base)(hb:Sub base K)(hA:OkA A (k+4))(S:St O K (enL qn L f cd).locals (loc lwN [x0,x1,x2,x3,x4,x5,x6,x7,x8,x9,x10,some vr,some vs,x13,x14,x15,x16,x17,x18,x19,x20]) led h)
  (rr:(rList (rList rInt)).r K vr rules)(rs:(rList rInt).r K vs sends)(hr:rules.length≤6)(hrl:∀r∈rules,r.length≤3)(hsl:sends.length≤2430)
  (c:∀d K' h' tk' v ys,Sub K K'→St O K' (enL qn L f cd).locals (loc lwN [x0,x1,x2,x3,x4,x5,x6,x7,x8,x9,x10,some vr,some vs,x13,x14,x15,x16,x17,x18,x19,x20]) led h'→(rList rInt).r K' v ys→ys.length≤4096→Q v (sh { s with drawn:=d } h' tk')) :
  wpAny (model prog w) A (eval seenE (enL qn L f cd)) Q E (sh s h tk):=by
 refine Call_ (gl_blt (v:=.builtin "sorted") B (hb.trans S.stays) (cw_blt (args_cons ?_)))
 refine Call_ (gl_blt (v:=.type "set") B (hb.trans S.stays) (cw_type (args_cons ?_)))
 refine wpAny_BinOp (ld S 12 lwN_nd ?_)
 refine comp2_list (k:=k+4) hA rfl (by decide) rfl (by decide) (by decide) (by decide) (by decide) (by decide) (by decide) ?_
 refine ld S 11 lwN_nd ?_
 refine iter_listA (R:=rList rInt) S rr fun I ob h1 S1 src=>?_
 refine⟨O,K,_,_,led,I,ob,h1,_,rules,rfl,rfl,lp [_] [(zA,.num 6)] zA (.num 1024) rfl hr,fun r hr=>by have:=hrl r hr;exact lp [_] [(zA,.num 3)] zA (.num 1024) rfl this,S1,src,fun v1 K1 h2 tk2 S2 hK1 hv1=>?_⟩
 have hfl:rules.flatten.length≤18:=by
  have:∀xs:List (List Int),(∀r∈xs,r.length≤3)→xs.flatten.length≤3*xs.length:=fun xs=>by
   induction xs with
   | nil=>intro _;simp
   | cons x xs ih=>
    intro hx
    have h1:=hx x mem_cons_self
    have h2:=ih fun r hr=>hx r (mem_cons_of_mem _ hr)
    rw [flatten_cons,length_append,length_cons]
    exact lp [_,_,_] [(zA,.num 3),(zB,.mulL 3 zC)] (.add zA zB) (.mulL 3 (su zC)) rfl h1 h2
  have:=this rules hrl
  exact lq [_,_] [(3,zA,.num 6),(1,zB,.mulL 3 zA)] 1 zB (.num 18) rfl hr this
 refine add_lsts (R:=rInt) S2 ((rList rInt).mono hK1 rs) hv1 (lp [_,_] [(zA,.num 2430),(zB,.num 18)] (.add zA zB) (.num 16777216) rfl hsl hfl) fun K3 h3 v3 hK3 S3 hv3=>?_
 obtain⟨l,us,n,rfl,hl,hx⟩:=hv3
 have hus:us.length=sends.length+rules.flatten.length:=by rw [hx.length,length_append]
 refine args_nil ?_
 refine call_setI (s:=sh s h3 tk2) (items:=us.toArray) hA.1 ⟨_,S3.stays _ _ hl,rfl,n,rfl⟩ (fun i v hv=>?_) (by rw [size_toArray,hus];unfold scanBound;exact lp [_,_] [(zA,.num 2430),(zB,.num 18)] (.add (su (.add zA zB)) (.num 1)) (.num 4096) rfl hsl hfl) fun h4 tk4 hS hk=>?_
 ·obtain⟨x,_,t,rfl⟩:=hx.getL (by simpa using hv)
  exact⟨_,_,rfl⟩
 ·obtain⟨es,ep,t,ho,hel,hn,hf,hlb⟩:=hS
  have S4:=S3.keeps (h':=h4) fun b o e=>hk b o (Heap.lt_size e) e
  have hz:us.toArray.size=us.length:=size_toArray ..
  have hn':es.size≤sends.length+rules.flatten.length:=by rw [←hus,←hz];exact hn
  refine args_nil ?_
  exact sorted_set (k:=k+1) hA S4 ho hel hf hlb (by unfold scanBound;exact lp [_,_,_] [(zA,.num 2430),(zB,.num 18),(zC,.add zA zB)] (su zC) (.num 4096) rfl hsl hfl hn') fun d K5 h5 tk5 v ys hK5 S5 hv hys=>c d K5 h5 tk5 v ys ((hK1.trans hK3).trans hK5) S5 hv (lp [_,_,_,_] [(zA,.num 2430),(zB,.num 18),(zC,.add zA zB),(zD,zC)] zD (.num 4096) rfl hsl hfl hn' hys)
end
end Mine
namespace Mine
section
variable {R:Rel α}
theorem w_terms {x0 x1 x2 x3 x4 x5 x6 x7 x8 x9 x10 x13 x14 x15 x16 x17 x18 x19 x20:Option Value}{o1 o2 o3 o4 o5 o6 o7 o8:Obj}{p0:Addr×Obj}{k:Nat}{Q:Flow→Shared→Prop}{vr vs v:Value}{rules:List (List Int)}{sends script:List Int}(B:Mod base)(hb:Sub base K)(hA:OkA A (k+4))(S:St O K (enL qn L f cd).locals (loc lwN [x0,x1,x2,x3,x4,x5,x6,x7,x8,x9,x10,some vr,some vs,x13,x14,x15,x16,x17,x18,x19,x20]) (p0::cl8 L o1 o2 o3 o4 o5 o6 o7 o8) h)
  (e1:o1.data = .cell (some v))(rv:(rList rInt).r K v script)(hlen:script.length≤2 ^ 20)
  (rr:(rList (rList rInt)).r K vr rules)(rs:(rList rInt).r K vs sends)(hr:rules.length≤6)(hrl:∀r∈rules,r.length≤3)(hsl:sends.length≤2430)
  (c:∀d K' h' tk' x0,Sub K K'→St O K' (enL qn L f cd).locals (loc lwN [x0,x1,x2,x3,x4,x5,x6,x7,x8,x9,x10,some vr,some vs,x13,x14,x15,x16,x17,x18,x19,x20]) (p0::cl8 L o1 o2 o3 o4 o5 o6 o7 o8) h'→Q .next (sh { s with drawn:=d } h' tk')) :
  wpAny (model prog w) A (exec (bodyL.getD 10 (.Pass ⟨0,0,0,0⟩)) (enL qn L f cd)) Q E (sh s h tk):=by
 refine for_ex ?_
 refine wpAny_BinOp (wpAny_BinOp ?_)
 refine w_seen B hb hA S rr rs hr hrl hsl fun d K1 h1 tk1 v1 ys hK1 S1 hv1 hys=>?_
 have c':=c d
 clear c
 generalize ({ s with drawn:=d }:Shared)=s at c' ⊢
 refine list_lit (R:=rInt) ?_
 refine args_cons (wpAny_Constant_int (args_cons (wpAny_Constant_int (args_cons (UnaryOp_ (wpAny_Constant_int (PyProof.Rows.neg_int (args_nil ?_))))))))
 refine⟨_,K1,_,_,_,h1,_,[255,1,-1],rfl,S1,.cons ⟨_,rfl⟩ (.cons ⟨_,rfl⟩ (.cons ⟨_,rfl⟩ .nil)),by decide,fun K2 h2 v2 hK2 S2 hv2=>?_⟩
 refine add_lsts (R:=rInt) S2 ((rList rInt).mono hK2 hv1) hv2 (by simp;exact lp [_] [(zA,.num 4096)] zA (.num 16777213) rfl hys) fun K3 h3 v3 hK3 S3 hv3=>?_
 refine slice_lst (R:=rInt) (ldc S3 (i:=1) rfl e1 (part_none (part_int fun t1=>⟨_,_,_,_,_,_,_,_,_,script,rfl,S3,(rList rInt).mono (hK1.trans (hK2.trans hK3)) rv,lp [_] [(zA,.num 1048576)] zA (.num 16777216) rfl hlen,.none,.int 60 t1,fun K4 h4 v4 hK4 S4 hv4=>?_⟩)))
 have hpl:=pickL_len script none (some 60) none
 refine add_lsts (R:=rInt) S4 ((rList rInt).mono hK4 hv3) hv4 (by simp;exact lp [_,_,_] [(zA,.num 1048576),(zB,.num 4096),(zC,zA)] (.add (.add zB (.num 3)) zC) (.num 16777216) rfl hlen hys hpl) fun K5 h5 v5 hK5 S5 hv5=>?_
 refine iter_list hA S5 hv5 fun I ob h6 S6 src=>?_
 refine for_goE S6 src (fun i K7 m7 led7=>led7=p0::cl8 L o1 o2 o3 o4 o5 o6 o7 o8∧∃x0,m7=loc lwN [x0,x1,x2,x3,x4,x5,x6,x7,x8,x9,x10,some vr,some vs,x13,x14,x15,x16,x17,x18,x19,x20]) ?_ ?_ ?_
 ·exact⟨rfl,x0,rfl⟩
 ·intro i x xv K7 m7 led7 h7 tk7 ob7 E7 QH1 hi hq1 hK7 hq2 S7 finH1
  obtain⟨tx,rfl⟩:=hq1
  obtain⟨rfl,x0,rfl⟩:=hq2
  have hb7:Sub base K7:=hb.trans (hK1.trans (hK2.trans (hK3.trans (hK4.trans (hK5.trans hK7)))))
  refine wpAny_assign_Name (stn S7 0 lwN_nd fun h8 tk8 S8=>?_)
  refine wpAny_execs_cons ?_
  refine wpAny_If ?_
  refine wpAny_isTrue_BoolOp ?_
  refine wpAny_allTrue_Or_cons ?_
  refine wpAny_isTrue_Compare1 (Call_ (gl_ref (a:=100) B (hb7.trans S8.stays) (cw_fn (B.fns (100,62) (by decide)) (args_cons (ld S8 0 lwN_nd (args_nil ⟨hb7.trans S8.stays,?_⟩))))))
  refine isterm_call (k:=k+3) B hb7 S8.stays hA ⟨tx,rfl⟩ fun h9 tk9 g9=>?_
  have S9:=S8.grow g9
  refine wpAny_Compare1 (ld S9 0 lwN_nd (wpAny_Constant_int (wpAny_lt_int ?_)))
  refine wpAny_isNot_self rfl (wpAny_truthy_bool ?_)
  rw [if_neg (by simp)]
  refine wpAny_allTrue_Or_cons ?_
  refine wpAny_isTrue_Compare1 (Call_ (gl_ref (a:=107) B (hb7.trans S9.stays) (cw_fn (B.fns (107,63) (by decide)) (args_cons (ld S9 0 lwN_nd (args_nil ⟨hb7.trans S9.stays,?_⟩))))))
  refine isnont_call (k:=k+3) B hb7 S9.stays hA ⟨tx,rfl⟩ fun h10 tk10 g10=>?_
  have S10:=S9.grow g10
  refine wpAny_Compare1 (ld S10 0 lwN_nd (wpAny_Constant_int (PyProof.Rows.gt_int ?_)))
  have e10:decide (x≥256)=decide ((255:Int)<x):=decide_eq_decide.mpr (by lia)
  rw [e10]
  refine wpAny_isNot_self rfl (wpAny_truthy_bool ?_)
  rw [if_neg (by simp)]
  refine wpAny_allTrue_Or_cons ?_
  refine wpAny_isTrue_Compare1 (Call_ (gl_ref (a:=114) B (hb7.trans S10.stays) (cw_fn (B.fns (114,64) (by decide)) (args_cons (ld S10 0 lwN_nd (args_nil ⟨hb7.trans S10.stays,?_⟩))))))
  refine iseof_call (k:=k+3) B hb7 S10.stays hA ⟨tx,rfl⟩ fun h11 tk11 g11=>?_
  have S11:=S10.grow g11
  refine wpAny_Compare1 (ld S11 0 lwN_nd (wpAny_Constant_int (P.eq_int ?_)))
  refine wpAny_isNot_self rfl (wpAny_truthy_bool ?_)
  rw [if_neg (by simp)]
  refine wpAny_allTrue_Or_nil ?_
  rw [if_neg (by simp)]
  refine wpAny_execs_nil (wpAny_execs_nil (finH1 K7 _ _ h11 _ (Sub.refl _) ⟨rfl,_,rfl⟩ S11))
 ·rintro K7 m7 led7 h7 tk7 hK7 ⟨rfl,x0',rfl⟩ S7
  exact c' K7 h7 tk7 x0' (hK1.trans (hK2.trans (hK3.trans (hK4.trans (hK5.trans hK7))))) S7
end
end Mine
namespace Mine
theorem crlf_eq:(⟨#[13,10]⟩:Str)="\r\n":=by rw [Str.ofString_eq_toList];rfl
theorem lf_eq:(⟨#[10]⟩:Str)="\n":=by rw [Str.ofString_eq_toList];rfl
theorem cr_eq:(⟨#[13]⟩:Str)="\r":=by rw [Str.ofString_eq_toList];rfl
theorem d1_eq:(⟨#[46]⟩:Str) = ".":=by rw [Str.ofString_eq_toList];rfl
theorem d2_eq:(⟨#[46,46]⟩:Str) = "..":=by rw [Str.ofString_eq_toList];rfl
theorem d3_eq:(⟨#[46,46,46]⟩:Str) = "...":=by rw [Str.ofString_eq_toList];rfl
theorem d4_eq:(⟨#[46,46,46,46]⟩:Str) = "....":=by rw [Str.ofString_eq_toList];rfl
section
variable {κ:Type}[DecidableEq κ]{R:Rel α}
theorem merged_new {V:Type}:∀(kvs acc:List (κ×Value)),((acc++kvs).map (·.1)).Nodup→merged acc kvs=acc++kvs
 | [],acc,_=>by simp [merged]
 | p::kvs,acc,h=>by
  have hs:stored acc p.1 p.2=acc++[p]:=by
   unfold stored
   rw [if_neg]
   intro q
   obtain⟨e,he,hk⟩:=any_eq_true.mp q
   have hk':e.1=p.1:=by simpa using hk
   rw [List.map_append,List.nodup_append] at h
   exact h.2.2 e.1 (mem_map.mpr ⟨e,he,rfl⟩) p.1 (by simp) hk'
  have:merged acc (p::kvs)=merged (acc++[p]) kvs:=by
   rw [←hs];rfl
  rw [this,merged_new (V:=V) kvs (acc++[p]) (by simpa using h)]
  simp
theorem pair_ev {ke ve:Sem Value}{p:Pos}{rest:List (Sem Value×Sem Value)}{Q:List (Value×Value)→Shared→Prop}
  (k:wpAny (model prog w) A ke (fun kv s₁=>wpAny (model prog w) A ve (fun vv s₂=>wpAny (model prog w) A (evalPairs rest) (fun vs s₃=>Q ((kv,vv)::vs) s₃) E s₂) E s₁) E s) :
  wpAny (model prog w) A (evalPairs ((ke,(do let vv ←ve;standAt p;pure vv))::rest)) Q E s:=
 evalPairs_cons (wpAny_mono k (fun kv s₁ h₁=>wpAny_bind (wpAny_mono h₁ (fun vv s₂ h₂=>wpAny_bind (wpAny_standAt (wpAny_pure h₂))) fun _ _ x=>x)) fun _ _ x=>x)
theorem carries_of {knd:PySem.KeyKind prog w κ}{K1:Heap}:∀{ps:List (Value×Value)}{xs:List (κ×α)},All2 (fun (p:Value×Value)(x:κ×α)=>knd.is x.1 p.1=true∧R.r K1 p.2 x.2) ps xs→
  ∃kvs:List (κ×Value),Carries knd ps kvs∧kvs.map (·.1)=xs.map (·.1)∧All2 (PR (R.r K1)) kvs xs∧kvs.length=xs.length:=by
 intro ps xs x
 induction x with
 | nil=>exact⟨[],trivial,rfl,.nil,rfl⟩
 | @cons p x ps xs h _ ih=>
  obtain⟨kvs,c1,c2,c3,c4⟩:=ih
  obtain⟨kv,vv⟩:=p
  obtain⟨k,a⟩:=x
  exact⟨(k,vv)::kvs,⟨h.1,rfl,c1⟩,by rw [map_cons,map_cons,c2],.cons ⟨rfl,h.2⟩ c3,by rw [length_cons,length_cons,c4]⟩
inductive DictP {κ α:Type}[DecidableEq κ]{prog:Program}{w:World}(knd:PySem.KeyKind prog w κ)(R:Rel α)(O:Org)(K:Heap)(L:Addr)(m:Str→Option Value)(led:List (Addr×Obj))(D:Addr)(s:Shared)(Q:Value→Shared→Prop)(ps:List (Value×Value))(s₁:Shared):Prop
 | mk (K1 h1:Heap) (tk1:Nat) (xs:List (κ×α)):s₁=sh s h1 tk1→Sub K K1→St O K1 L m ((D,emptyD)::led) h1→
   All2 (fun (p:Value×Value) (x:κ×α)=>knd.is x.1 p.1=true∧R.r K1 p.2 x.2) ps xs→(xs.map (·.1)).Nodup→xs.length≤15→
   (∀K' h' tk' v,Sub K1 K'→St O K' L m led h'→(rDict knd R).r K' v xs→Q v (sh s h' tk'))→DictP knd R O K L m led D s Q ps s₁
theorem dict_lit {knd:PySem.KeyKind prog w κ}{keys:List (Option Expr)}{vals:List Expr}{pos:Pos}{Q:Value→Shared→Prop}(S:St O K L m led h)(hsys:((h.objs.size:Addr) == sysModules)=false)
  (hall:keys.all (·.isSome)=true)(hl:keys.length=vals.length)(h0:keys≠[])(hlen:keys.length≤15)
  (k:∀D,St O K L m ((D,emptyD)::led) (h.push emptyD)→wpAny (model prog w) A (evalPairs (pairTrees keys vals env pos)) (DictP knd R O K L m led D s Q) E (sh s (h.push emptyD) tk)) :
  wpAny (model prog w) A (eval (.Dict keys vals pos) env) Q E (sh s h tk):=by
 refine wpAny_Dict_any hall hl h0 hlen ?_
 refine wpAny_mono (k h.objs.size (S.push emptyD)) (fun ps s₁ h₁=>?_) fun _ _ x=>x
 obtain⟨K1,h1,tk1,xs,rfl,hK1,S1,hx,hnd,hsz,c⟩:=h₁
 obtain⟨kvs,hc,hk,hr,hkl⟩:=carries_of hx
 have hm:merged [] kvs=kvs:=by
  have:=merged_new (V:=Value) kvs [] (by rw [nil_append,hk];exact hnd)
  simpa using this
 refine wpAny_storeAll (knd:=knd) ps kvs [] _ _ hc (dictOf_of (S1.at 0 rfl) (dictO_empty knd)) (by rw [sizeLine_eq];simp;exact lp [_,_] [(zA,.num 15),(zB,zA)] zB (.num 16777216) rfl hsz (eqL hkl)) fun h2 hd2 hs2=>?_
 rw [hm] at hd2
 obtain⟨o2,ho2,hdo2⟩:=dictO_of hd2
 have S2:=S1.turn 0 rfl hs2 ho2
 obtain⟨K2,hK2,S3,hfr⟩:=S2.freeze led (sublist_cons_self ..)
 have hnd2:=S2.nodup
 refine c K2 h2 _ _ hK2 S3 ⟨h.objs.size,o2,kvs,rfl,hsys,hfr _ _ ho2 S.sizeB (S2.ledg _ mem_cons_self).2.1 ?_,hdo2,hr.imp fun _ _ q=>⟨q.1,R.mono hK2 q.2⟩⟩
 have:(((h.objs.size,o2)::led).map (·.1)).Nodup:=hnd2
 rw [map_cons,nodup_cons] at this
 exact this.1
theorem w_marks {x0 x1 x2 x3 x6 x7 x8 x9 x10 x11 x12 x13 x14 x15 x16 x17 x18 x19 x20:Option Value}{Q:Flow→Shared→Prop}{other:Int}{word:Str}{t1:Tok}{vw:Value}(W:Wd other word)(B:Mod base)(hb:Sub base K)(S:St O K (enL qn L f cd).locals (loc lwN [x0,x1,x2,x3,some vw,some (.int other t1),x6,x7,x8,x9,x10,x11,x12,x13,x14,x15,x16,x17,x18,x19,x20]) led h)(rw_:rStr.r K vw word)
  (c:∀K' h' tk' v,Sub K K'→St O K' (enL qn L f cd).locals (loc lwN [x0,x1,x2,x3,some vw,some (.int other t1),x6,x7,x8,x9,x10,x11,x12,x13,some v,x15,x16,x17,x18,x19,x20]) led h'→(rDict (intKind prog w) rStr).r K' v (markM other word)→Q .next (sh s h' tk')) :
  wpAny (model prog w) A (exec (bodyL.getD 12 (.Pass ⟨0,0,0,0⟩)) (enL qn L f cd)) Q E (sh s h tk):=by
 refine wpAny_Assign_Name ?_
 refine dict_lit (R:=rStr) (knd:=intKind prog w) S (not_sys B (hb.trans S.stays)) rfl rfl (by simp) (by decide) fun D S1=>?_
 refine pair_ev (ld S1 5 lwN_nd (ld S1 4 lwN_nd ?_))
 refine pair_ev (wpAny_Constant_int (wpAny_Constant_str ?_))
 refine pair_ev (wpAny_Constant_int (wpAny_Constant_str ?_))
 refine pair_ev (wpAny_Constant_int (wpAny_Constant_str ?_))
 refine pair_ev (wpAny_Constant_int (wpAny_Constant_str ?_))
 refine pair_ev (wpAny_Constant_int (wpAny_Constant_str ?_))
 refine evalPairs_nil ⟨K,_,_,markM other word,rfl,Sub.refl _,S1,?_,?_,by unfold markM;simp,fun K2 h2 tk2 v2 hK2 S2 hv2=>?_⟩
 ·refine .cons ⟨intkey _ _ other _,rw_⟩ ?_
  refine .cons ⟨intkey _ _ 4 _,_,congrArg (Value.str · _) crlf_eq.symm⟩ ?_
  refine .cons ⟨intkey _ _ 23 _,_,congrArg (Value.str · _) d1_eq.symm⟩ ?_
  refine .cons ⟨intkey _ _ 223 _,_,congrArg (Value.str · _) d2_eq.symm⟩ ?_
  refine .cons ⟨intkey _ _ 52 _,_,congrArg (Value.str · _) d3_eq.symm⟩ ?_
  refine .cons ⟨intkey _ _ 252 _,_,congrArg (Value.str · _) d4_eq.symm⟩ .nil
 ·have h1:=W.lo;have h2:=W.hi;have h3:=W.n23;have h4:=W.n52
  simp [markM]
  lia
 ·exact stn S2 14 lwN_nd fun h3 tk3 S3=>c K2 h3 tk3 v2 hK2 S3 hv2
theorem w_bare {x0 x1 x2 x3 x6 x7 x8 x9 x10 x12 x13 x14 x15 x16 x17 x18 x19 x20:Option Value}{o1 o2 o3 o4 o5 o6 o7 o8:Obj}{p0:Addr×Obj}{k:Nat}{w3:Option Value}{Q:Flow→Shared→Prop}{other:Int}{word:Str}{t1:Tok}{vw vr:Value}{rules:List (List Int)}(W:Wd other word)(B:Mod base)(hb:Sub base K)(hA:OkA A (k+2))
  (S:St O K (enL qn L f cd).locals (loc lwN [x0,x1,x2,x3,some vw,some (.int other t1),x6,x7,x8,x9,x10,some vr,x12,x13,x14,x15,x16,x17,x18,x19,x20]) (p0::cl8 L o1 o2 o3 o4 o5 o6 o7 o8) h)(rw_:rStr.r K vw word)(rr:(rList (rList rInt)).r K vr rules)(g:Gram other rules)(e3:o3.data = .cell w3)
  (c:∀K' h' tk' o3' v,Sub K K'→St O K' (enL qn L f cd).locals (loc lwN [x0,x1,x2,x3,some vw,some (.int other t1),x6,x7,x8,x9,x10,some vr,x12,x13,x14,x15,x16,x17,x18,x19,x20]) (p0::cl8 L o1 o2 o3' o4 o5 o6 o7 o8) h'→o3'.data = .cell (some v)→(rDict (intKind prog w) (rDS prog w)).r K' v (tablesOf (bareM other word) rules)→Q .next (sh s h' tk')) :
  wpAny (model prog w) A (exec (bodyL.getD 13 (.Pass ⟨0,0,0,0⟩)) (enL qn L f cd)) Q E (sh s h tk):=by
 refine wpAny_Assign_Name ?_
 refine Call_ (gl_ref (a:=133) B (hb.trans S.stays) (cw_fn (B.fns (133,68) (by decide)) (args_cons (ld S 11 lwN_nd (args_cons ?_)))))
 refine dict_lit (R:=rStr) (knd:=intKind prog w) S (not_sys B (hb.trans S.stays)) rfl rfl (by simp) (by decide) fun D S1=>?_
 refine pair_ev (ld S1 5 lwN_nd (ld S1 4 lwN_nd ?_))
 refine pair_ev (wpAny_Constant_int (wpAny_Constant_str ?_))
 refine pair_ev (wpAny_Constant_int (wpAny_Constant_str ?_))
 refine pair_ev (wpAny_Constant_int (wpAny_Constant_str ?_))
 refine pair_ev (wpAny_Constant_int (wpAny_Constant_str ?_))
 refine evalPairs_nil ⟨K,_,_,bareM other word,rfl,Sub.refl _,S1,?_,?_,by unfold bareM;simp,fun K2 h2 tk2 v2 hK2 S2 hv2=>?_⟩
 ·refine .cons ⟨intkey _ _ other _,rw_⟩ ?_
  refine .cons ⟨intkey _ _ 4 _,_,congrArg (Value.str · _) lf_eq.symm⟩ ?_
  refine .cons ⟨intkey _ _ 63 _,_,congrArg (Value.str · _) cr_eq.symm⟩ ?_
  refine .cons ⟨intkey _ _ 23 _,_,congrArg (Value.str · _) d1_eq.symm⟩ ?_
  refine .cons ⟨intkey _ _ 52 _,_,congrArg (Value.str · _) d3_eq.symm⟩ .nil
 ·have h1:=W.lo;have h2:=W.hi;have h3:=W.n23;have h4:=W.n52;have h5:=W.n63
  simp [bareM]
  lia
 ·refine args_nil ⟨(hb.trans hK2).trans S2.stays,?_⟩
  refine texts_call (k:=k) B (hb.trans hK2) S2.stays hA ((rList (rList rInt)).mono hK2 rr) hv2 (gram_ok W g).tab fun K3 h3 tk3 v3 g3 hv3=>?_
  have S3:=S2.grow g3
  exact stc S3 (i:=3) rfl e3 fun o' h4 e4 S4=>c K3 h4 _ o' v3 (hK2.trans g3.kk) S4 e4 hv3
theorem w_told {x0 x1 x2 x3 x4 x5 x6 x7 x8 x9 x10 x11 x12 x15 x16 x17 x18 x19 x20:Option Value}{k:Nat}{Q:Flow→Shared→Prop}{other:Int}{word:Str}{vn vm:Value}{rules sender:List (List Int)}(W:Wd other word)(B:Mod base)(hb:Sub base K)(hA:OkA A (k+2))
  (S:St O K (enL qn L f cd).locals (loc lwN [x0,x1,x2,x3,x4,x5,x6,x7,x8,x9,x10,x11,x12,some vn,some vm,x15,x16,x17,x18,x19,x20]) led h)(rn:(rList (rList rInt)).r K vn sender)(rm:(rDict (intKind prog w) rStr).r K vm (markM other word))(g:Gram other rules)(sn:Sends rules sender)
  (c:∀K' h' tk' v,Sub K K'→St O K' (enL qn L f cd).locals (loc lwN [x0,x1,x2,x3,x4,x5,x6,x7,x8,x9,x10,x11,x12,some vn,some vm,some v,x16,x17,x18,x19,x20]) led h'→(rDict (intKind prog w) (rDS prog w)).r K' v (tablesOf (markM other word) sender)→Q .next (sh s h' tk')) :
  wpAny (model prog w) A (exec (bodyL.getD 14 (.Pass ⟨0,0,0,0⟩)) (enL qn L f cd)) Q E (sh s h tk):=by
 refine wpAny_Assign_Name ?_
 refine Call_ (gl_ref (a:=133) B (hb.trans S.stays) (cw_fn (B.fns (133,68) (by decide)) (args_cons (ld S 13 lwN_nd (args_cons (ld S 14 lwN_nd (args_nil ⟨hb.trans S.stays,?_⟩)))))))
 refine texts_call (k:=k) B hb S.stays hA rn rm (send_ok W g sn).tab fun K3 h3 tk3 v3 g3 hv3=>?_
 have S3:=S.grow g3
 exact stn S3 15 lwN_nd fun h4 tk4 S4=>c K3 h4 tk4 v3 g3.kk S4 hv3
end
end Mine
namespace Mine
section
variable {κ:Type}[DecidableEq κ]
theorem stored_new {kvs:List (κ×Value)}{k:κ}{y:Value}(hk:k∉kvs.map (·.1)):stored kvs k y=kvs++[(k,y)]:=by
 unfold stored
 rw [if_neg]
 intro q
 obtain⟨e,he,hek⟩:=any_eq_true.mp q
 exact hk (mem_map.mpr ⟨e,he,by simpa using hek⟩)
inductive DCompI (h:Heap)(I:Addr)(K:Heap)(C:Addr)(x:Str)(knd:PySem.KeyKind prog w κ)(Rb:Rel β)(ys:Nat→List (κ×β))(n:Nat)(Sx:Nat→Heap→Prop)(s:Shared)(k:Nat)(s':Shared):Prop
 | mk (i:Nat) (K1:Heap) (u:Option Value) (h1:Heap) (tk1:Nat) (ob1:Obj) (kvs:List (κ×Value)) (o1:Obj):s'=sh s h1 tk1→k=n+1 - i→i≤n→Sub K K1→St ⟨butI h I,K⟩ K1 C (lc1 x u) [(I,ob1),(h.objs.size,o1)] h1→Sx i h1→dictO knd o1 kvs→All2 (PR (Rb.r K1)) kvs (ys i)→
   DCompI h I K C x knd Rb ys n Sx s k s'
theorem fresh_key {xs:List κ}{i:Nat}{a:κ}{kvs:List (κ×Value)}{R:Value→β→Prop}{f:κ→β}(hnd:xs.Nodup)(ha:xs[i]?=some a)(hvs:All2 (PR R) kvs ((xs.take i).map fun k=>(k,f k))):a∉kvs.map (·.1):=fun hm=>by
 rw [pr_keys hvs,map_map] at hm
 obtain⟨b,hb,e⟩:=mem_map.mp hm
 obtain rfl:b=a:=e
 obtain⟨j,hj,e2⟩:=mem_iff_getElem.mp hb
 rw [length_take] at hj
 rw [List.getElem_take] at e2
 have:j=i:=(List.getElem_inj hnd).mp (e2.trans (List.getElem?_eq_some_iff.mp ha).2.symm)
 exact absurd (Nat.lt_of_lt_of_le hj (Nat.min_le_left ..)) (by rw [this];exact Nat.lt_irrefl _)
theorem dcomp_run {knd:PySem.KeyKind prog w κ}{R:Value→Addr→Result→Shared→Prop}{Rb:Rel β}{xs:List κ}{I:Addr}{ob:Obj}{vx iter:Expr}{x:Str}{px px2:Pos}{scope:Scope}{cl:List (Str×Addr)}{pos:Pos}
  (S:St O K L m ((I,ob)::led) h)(src:Src prog w A K h I (rKey knd) xs)(f:κ→β)(hnd:xs.Nodup)(hsys:@LT.lt Nat _ sysModules h.objs.size)
  (hcell:∀y∈scope.names,y.2 ≠ .cell)(hkind:scope.kind = .function)(hx:scope.names.lookup x=some .local)(hdb:(x == ("__debug__" : Str))=false)(hsz:xs.length≤2 ^ 20)
  (B:∀a v K1 C led1 h1 tk1 (Q:Value→Shared→Prop) E',a∈xs→knd.is a v=true→Sub K K1→h.objs.size≤C→St ⟨butI h I,K⟩ K1 C (lc1 x (some v)) led1 h1→
   (∀y K2 h2 tk2,Sub K1 K2→St ⟨butI h I,K⟩ K2 C (lc1 x (some v)) led1 h2→Rb.r K2 y (f a)→Q y (sh s h2 tk2))→
   wpAny (model prog w) A (eval vx (compEnvC scope cl C env)) Q E' (sh s h1 tk1))
  (fin:∀D C K3 h2 tk2 mc,h2.Ns C mc→K3.get? C=none→h.get? C=none→Grow K (butI h I) K3 h2→(rDict knd Rb).r K3 (.ref D) (xs.map fun k=>(k,f k))→R (.ref D) C (.ok .next) (sh s h2 tk2)) :
  wpAny (model prog w) A newDict (fun acc s₃=>wpAny (model prog w) A (newFunctionEnv scope env.globals cl [] env.qual none .none (some env)) (fun cenv s₄=>
   codeAny (model prog w) A (.compStart (.DictComp (.Name x px2) vx [⟨.Name x px,iter,[],0⟩] scope pos) 0 (.ref I) acc { cenv with scope:=relabel scope env }) (R acc cenv.locals) s₄) E s₃) E (sh s h tk):=by
 refine wpAny_newObj_type (wpAny_newFunctionEnv hcell (by intro y hy;simp at hy) (fun h₁ hns₁ hsb₁=>?_) hkind)
 dsimp only at hns₁ hsb₁ ⊢
 generalize hH2:h.push { cls:=.type "dict",dict:=none,data:=.dict #[] }=H2 at hns₁ hsb₁ ⊢
 have hC:H2.objs.size=h.objs.size+1:=by rw [←hH2,Heap.size_push]
 have old:∀b o,h.get? b=some o→h₁.get? b=some o:=fun b o e=>
  hsb₁.extBut b o (neN (by have:=get_lt e;exact Nat.ne_of_lt (lp [_,_,_] [(su zA,zB),(su zC,zA)] (su zC) zB rfl (eqR hC) this))) (Heap.get?_push_of_some _ (hH2▸Heap.get?_push_of_some _ e))
 have hD:h₁.get? h.objs.size=some emptyD:=hsb₁.extBut _ _ (neN (Nat.ne_of_lt (eqR hC))) (Heap.get?_push_of_some _ (hH2▸Heap.get?_push_size _ rfl))
 have S₁:=comp_st S hC old hD hns₁
 rw [loc1_none (x:=x)] at S₁
 obtain⟨n,fp,P,Sx,hn,W,st0,hob,hfp,hP,_⟩:=src
 subst hn
 have st1:Sx 0 h₁:=W.frame _ _ _ st0 fun b _ o e=>old b o e
 have kindx:∀C,(compEnvC scope cl C env).kindOf x=some .local:=fun C=>lookup_relabel_local hx
 have plainx:∀C,((compEnvC scope cl C env).scope.kind == .class||((compEnvC scope cl C env).scope.kind == .module&&(compEnvC scope cl C env).locals != (compEnvC scope cl C env).globals))=false:=fun C=>by simp [compEnvC,relabel,hkind]
 have loop:∀s₃:Shared,(∃tk₃,s₃=sh s h₁ tk₃)→
   codeAny (model prog w) A (.compLoop (.DictComp (.Name x px2) vx [⟨.Name x px,iter,[],0⟩] scope pos) 0 (.ref I) (.ref h.objs.size) (compEnvC scope cl H2.objs.size env)) (R (.ref h.objs.size) H2.objs.size) s₃:=by
  rintro s₃ ⟨tk₃,rfl⟩
  refine codeAny_compLoop_testsD (DCompI h I K H2.objs.size x knd Rb (fun i=>(xs.take i).map fun k=>(k,f k)) xs.length Sx s) (fun k s' H=>?_) (xs.length+1)
   (.mk 0 K none h₁ tk₃ ob [] emptyD rfl rfl (Nat.zero_le _) (Sub.refl _) S₁ st1 (dictO_empty knd) .nil)
  obtain⟨i,K1,u,h1,tk1,ob1,kvs,o1,rfl,rfl,hi,hK,S1,hs1,hdo,hvs⟩:=H
  by_cases hlt:i<xs.length
  ·refine W.item i _ _ _ hlt hs1 fun v h2 tk2 hPv hs2 hk2=>?_
   obtain⟨a,ha,hr⟩:=hP i v hlt hPv
   have hax:a∈xs:=mem_of_getElem? ha
   obtain⟨ob2,ho2⟩:=hob _ _ hs2
   have S2:=S1.on hk2 ho2
   refine wpAny_assign_Name (wpAny_storeName_local (kindx _) S2.ns (fun h3 hn3 hs3=>?_) (plainx _))
   have S3:St ⟨butI h I,K⟩ K1 H2.objs.size (lc1 x (some v)) [(I,ob2),(h.objs.size,o1)] h3:=S2.store (loc1_set▸hn3) hs3
   refine tests0 ?_
   rw [if_pos rfl]
   refine ld (env:=compEnvC scope cl H2.objs.size env) S3 0 (by simp) ?_ rfl rfl (kindx _) hkind hdb
   refine B a v K1 H2.objs.size _ h3 _ _ _ hax hr hK (lp [_,_] [(su zA,zB)] zA zB rfl (eqR hC)) S3 fun y K5 h5 tk5 hK5 S5 hy=>?_
   have hD5:=S5.ledg (h.objs.size,o1) (mem_cons_of_mem _ mem_cons_self)
   have hkl:kvs.length≤sizeLine:=by
    rw [hvs.length,length_map,length_take,sizeLine_eq]
    exact nT (Nat.min_le_right ..) (nT hsz (by decide))
   refine wpAny_dictSet_pairs (s:=sh s h5 tk5) (hsz:=hkl) hr (dictOf_of hD5.1 hdo) fun h6 hl6 hs6=>?_
   obtain⟨o6,ho6,hdo6⟩:=dictO_of hl6
   rw [stored_new (fresh_key hnd ha hvs)] at hdo6
   have S6:St ⟨butI h I,K⟩ K5 H2.objs.size (lc1 x (some v)) [(I,ob2),(h.objs.size,o6)] h6:=S5.turn (a:=h.objs.size) (o':=o6) 1 rfl hs6 ho6
   refine⟨xs.length+1 - (i+1),Nat.sub_lt_sub_left (Nat.lt_succ_of_lt hlt) (Nat.lt_succ_self i),.mk (i+1) K5 _ h6 _ ob2 (kvs++[(a,y)]) o6 rfl rfl hlt (hK.trans hK5) S6 (W.frame _ _ _ hs2 (St.fpk hfp hK S2 (hK.trans hK5) S6 ho2)) hdo6 ?_⟩
   rw [take_add_one,ha,List.map_append]
   exact (hvs.imp fun _ _ q=>⟨q.1,Rb.mono hK5 q.2⟩).app (.cons ⟨rfl,hy⟩ .nil)
  ·obtain rfl:i=xs.length:=nA hi (nN hlt)
   refine W.done _ _ _ hs1 fun h2 tk2 hk2=>?_
   rw [take_length] at hvs
   exact comp_end hC (S1.off hk2) fun K3 a0 a1 a2 a3 a4 a5=>fin _ _ K3 h2 tk2 _ a1 a2 a3 a4 ⟨_,o1,kvs,rfl,(by rw [beq_eq_false_iff_ne];exact Nat.ne_of_gt hsys),a5,hdo,hvs.imp fun _ _ q=>⟨q.1,Rb.mono a0 q.2⟩⟩
 exact codeAny_compStart_dict (loop _ ⟨_,rfl⟩) (W.self 0 _ _ _ st1 (loop _ ⟨_,rfl⟩))
inductive DCompP (prog:Program)(w:World)(A:Around)(s:Shared)(scope:Scope)(cl:List (Str×Addr))(env:Env)(x:Str)(vx:Expr)(knd:PySem.KeyKind prog w κ)(Rb:Rel β)(f:κ→β)(Q:Value→Shared→Prop)(it:Value)(s₂:Shared):Prop
 | mk (O:Org) (K:Heap) (L:Addr) (m:Str→Option Value) (led:List (Addr×Obj)) (I:Addr) (ob:Obj) (h:Heap) (tk:Nat) (xs:List κ):it = .ref I→s₂=sh s h tk→xs.length≤2 ^ 20→xs.Nodup→@LT.lt Nat _ sysModules h.objs.size→St O K L m ((I,ob)::led) h→
   Src prog w A K h I (rKey knd) xs→
   (∀a v K1 C led1 h1 tk1 (Q:Value→Shared→Prop) E',a∈xs→knd.is a v=true→Sub K K1→h.objs.size≤C→St ⟨butI h I,K⟩ K1 C (lc1 x (some v)) led1 h1→
    (∀y K2 h2 tk2,Sub K1 K2→St ⟨butI h I,K⟩ K2 C (lc1 x (some v)) led1 h2→Rb.r K2 y (f a)→Q y (sh s h2 tk2))→
    wpAny (model prog w) A (eval vx (compEnvC scope cl C env)) Q E' (sh s h1 tk1))→
   (∀v K' h' tk',St O K' L m led h'→Sub K K'→(rDict knd Rb).r K' v (xs.map fun k=>(k,f k))→Q v (sh s h' tk'))→DCompP prog w A s scope cl env x vx knd Rb f Q it s₂
theorem dcomp {knd:PySem.KeyKind prog w κ}{Q:Value→Shared→Prop}{Rb:Rel β}{vx iter:Expr}{x:Str}{px px2:Pos}{scope:Scope}{cl:List (Str×Addr)}{pos:Pos}(f:κ→β)
  (hclos:closureFor scope env=pure cl)(hcell:∀y∈scope.names,y.2 ≠ .cell)(hkind:scope.kind = .function)
  (hnames:∀y∈scope.names,y.2 = .local→scope.names.lookup y.1=some .local)(hx:scope.names.lookup x=some .local)(hdb:(x == ("__debug__" : Str))=false)
  (hit:wpAny (model prog w) A (eval iter env) (fun xv s₁=>wpAny (model prog w) A (pyIter xv) (DCompP prog w A s scope cl env x vx knd Rb f Q) E s₁) E (sh s h tk))
  (hs:∀x,foldedSetIterable iter env x=pure x:=by intro _;rfl) :
  wpAny (model prog w) A (eval (.DictComp (.Name x px2) vx [⟨.Name x px,iter,[],0⟩] scope pos) env) Q E (sh s h tk):=by
 rw [arm_eval_DictComp]
 refine wpAny_comprehension_free (use:=none) rfl hs hclos hkind hnames (wpAny_mono hit (fun xv s₁ h₁=>wpAny_mono h₁ (fun it s₂ h₂=>?_) fun _ _ e=>e) fun _ _ e=>e)
 obtain⟨O,K,L,m,led,I,ob,h,tk,xs,rfl,rfl,hsz,hnd,hsys,S,src,B,hQ⟩:=h₂
 refine dcomp_run (R:=fun acc C=>compPost (model prog w) A E none Q acc C) S src f hnd hsys hcell hkind hx hdb hsz B ?_
 intro D C K3 h2 tk2 mc hn hC hB g hv
 exact⟨mc,hn,fun h3 hs3=>hQ _ K3 h3 tk2 (S.back (g.sameBut hC (by rw [butI_get,hB];split <;> rfl) hs3)) g.kk hv⟩
end
end Mine
namespace Mine
section
variable {κ:Type}[DecidableEq κ]
theorem arr_find {α:Type}(es:Array α)(p:α→Bool):es.findIdx? p=es.toList.findIdx? p:=by
 cases es;simp
theorem pairs_get {knd:PySem.KeyKind prog w κ}{es:List DictEntry}{kvs:List (κ×Value)}(p:Pairs knd es kvs):∀{i:Nat}{e:DictEntry},es[i]?=some e→∃kv,kvs[i]?=some kv∧knd.is kv.1 e.key=true∧e.val=kv.2:=by
 induction p with
 | nil=>intro i e he;simp at he
 | @cons e0 kv es kvs h1 h2 _ ih=>
  intro i e he
  cases i with
  | zero=>simp at he;subst he;exact⟨kv,rfl,h1,h2⟩
  | succ i=>simp only [getElem?_cons_succ] at he ⊢;exact ih he
theorem same_pairs {knd:PySem.KeyKind prog w κ}{id:String}{a b:Addr}{oa ob:Obj}{kvsa kvsb:List (κ×Value)}{Q:Bool→Shared→Prop}(ha:h.get? a=some oa)(hb:h.get? b=some ob)(da:dictO knd oa kvsa)(db:dictO knd ob kvsb)
  (na:(a == sysModules)=false)(nb:(b == sysModules)=false)(hl:kvsa.length=kvsb.length)
  (hv:∀p∈kvsa,∃y,valueAt kvsb p.1=some y∧PySem.SeqAt.EqAt A (sh s h tk) p.2 y true)(q:Q true (sh s h tk)) :
  wpAny (model prog w) A (Builtin.Dict.samePairs id a b) Q E (sh s h tk):=by
 obtain⟨esa,epa,xa,hda,ka,pa,nda⟩:=da
 obtain⟨esb,epb,xb,hdb,kb,pb,ndb⟩:=db
 have hsa:esa.size=kvsa.length:=by rw [←pa.length];simp
 have hsb:esb.size=kvsb.length:=by rw [←pb.length];simp
 have hne:(esa.size != esb.size)=false:=by rw [hsa,hsb,hl];simp
 unfold Builtin.Dict.samePairs Builtin.Dict.showsAll
 rw [if_neg (by rw [na];exact Bool.false_ne_true),if_neg (by rw [nb];exact Bool.false_ne_true)]
 refine wpAny_bind (wpAny_pure ?_)
 refine wpAny_bind (wpAny_pure ?_)
 refine wpAny_bind (wpAny_dictEntries (s:=sh s h tk) ha hda ?_)
 refine wpAny_bind (wpAny_dictEntries (s:=sh s h tk) hb hdb ?_)
 rw [if_neg (by rw [hne];exact Bool.false_ne_true)]
 first|refine wpAny_bind (wpAny_pure ?_)|skip
 refine wpAny_bind (wpAny_dictEpoch (s:=sh s h tk) ha hda ?_)
 rw [Std.Legacy.Range.forIn_eq_forIn_range']
 refine wpAny_bind ?_
 refine wpAny_forIn_list _ (fun rest b s'=>s'=sh s h tk∧b.1=none∧∀i∈rest,i<esa.size) _ (fun i rest b s' hI=>?_) (fun b s' hI=>?_) _ _ ⟨rfl,rfl,fun i hi=>?_⟩
 ·obtain⟨rfl,hb1,hi⟩:=hI
  have hilt:=hi i mem_cons_self
  refine wpAny_bind (wpAny_dictEntries (s:=sh s h tk) ha hda ?_)
  rw [Array.getElem?_eq_getElem hilt]
  dsimp only
  have hmem:esa[i]∈esa:=Array.getElem_mem hilt
  obtain⟨k,hk1,hk2⟩:=ka _ hmem
  obtain⟨kv,hkv,hk3,hk4⟩:=pairs_get pa (i:=i) (e:=esa[i]) (by rw [Array.getElem?_toList,Array.getElem?_eq_getElem hilt])
  have hkk:k=kv.1:=knd.inj _ _ _ hk1 hk3
  obtain⟨y,hy1,hy2⟩:=hv kv (mem_of_getElem? hkv)
  rw [hk2]
  refine wpAny_bind (wpAny_holding (wpAny_bind (wpAny_dictFind_of (s:=sh s h tk) hk1 hb hdb kb ?_)))
  have hfi:∃j,(esb.findIdx? fun e=>knd.is k e.key)=some j:=by
   cases hq:esb.findIdx? fun e=>knd.is k e.key with
   | some j=>exact⟨j,rfl⟩
   | none=>
    exfalso
    rw [arr_find,pb.findIdx k] at hq
    have hn:=not_mem_of_findIdx_none hq
    unfold valueAt at hy1
    cases hq2:kvsb.find? (fun kv=>decide (kv.1=k)) with
    | none=>
     rw [←hkk] at hy1
     have:valueAt kvsb k=none:=by unfold valueAt;rw [hq2];rfl
     unfold valueAt at this
     rw [this] at hy1;exact nomatch hy1
    | some z=>
     have hz:=find?_some hq2
     exact hn (mem_map.mpr ⟨z,mem_of_find?_eq_some hq2,by simpa using hz⟩)
  obtain⟨j,hj⟩:=hfi
  rw [hj]
  dsimp only
  rw [arr_find] at hj
  obtain⟨f,hf1,hf2,hf3⟩:=pb.at hj
  refine wpAny_bind (wpAny_dictEntries (s:=sh s h tk) hb hdb ?_)
  rw [←Array.getElem?_toList,hf1]
  dsimp only
  have hfv:f.val=y:=by
   rw [hkk] at hf3
   rw [hf3] at hy1;exact Option.some.inj hy1
  rw [hk4,hfv]
  refine wpAny_holding (hy2 prog w _ _ ?_)
  rw [if_neg (by simp)]
  first|refine wpAny_bind (wpAny_pure ?_)|skip
  refine wpAny_bind (wpAny_dictEpoch (s:=sh s h tk) ha hda ?_)
  rw [if_neg (by simp)]
  first|refine wpAny_bind (wpAny_pure ?_)|skip
  first
   | exact wpAny_pure ⟨rfl,rfl,fun i hi'=>hi i (mem_cons_of_mem _ hi')⟩
   | exact⟨rfl,rfl,fun i hi'=>hi i (mem_cons_of_mem _ hi')⟩
 ·obtain⟨rfl,hb1,_⟩:=hI
  obtain⟨b1,b2⟩:=b
  subst hb1
  exact wpAny_pure q
 ·simp at hi;exact hi
end
end Mine
namespace Mine
section
variable {κ:Type}[DecidableEq κ]
theorem ne_dict {va vb:Value}{t u:DS}{Q:Value→Shared→Prop}(hu:A.units<cLine)(S:St O K L m led h)(ra:(rDict (PySem.strKind prog w) rInt).r K va t)(rb:(rDict (PySem.strKind prog w) rInt).r K vb u)
  (hl:t.length=u.length)(hsub:∀p∈t,p∈u)(q:Q (.bool false) (sh s h tk)):wpAny (model prog w) A (compareOp .NotEq va vb) Q E (sh s h tk):=by
 obtain⟨a,oa,kva,rfl,na,ha,da,xa,hnda⟩:=rDict_at ra
 obtain⟨b,ob,kvb,rfl,nb,hb,db,xb,hndb⟩:=rDict_at rb
 have ha':=S.stays _ _ ha
 have hb':=S.stays _ _ hb
 have Ta:(sh s h tk).TypeIs (.ref a) "dict":=(dictOf_of ha' da).typeIs
 have Tb:(sh s h tk).TypeIs (.ref b) "dict":=(dictOf_of hb' db).typeIs
 show wpAny _ _ (richCompare .NotEq _ _) _ _ _
 refine wpAny_richCompare_same_room Ta Tb F.slot_dict_ne (wpAny_call_entry F.slot_dict_ne Ta F.entry_dict_ne ?_ (F.args_dict_ne_2 _ _)) hu
 unfold Builtin.«dict.__ne__»
 show wpAny _ _ (Builtin.Dict.dictSlotArgs "__ne__" ⟨[.ref a,.ref b],[]⟩ >>= _) _ _ _
 refine wpAny_bind (wpAny_pure ?_)
 dsimp only
 refine wpAny_bind (wpAny_isInstance Tb F.sub_dict_dict ?_)
 rw [if_neg (by simp)]
 refine wpAny_bind (wpAny_pure ?_)
 refine wpAny_bind (wpAny_pure ?_)
 refine wpAny_bind (same_pairs (s:=s) ha' hb' da db na nb ?_ (fun p hp=>?_) ?_)
 ·rw [xa.length,xb.length,hl]
 ·obtain⟨j,hj,e⟩:=mem_iff_getElem.mp hp
  obtain⟨x,hx,e1,t1,e2⟩:=xa.getL (i:=j) (a:=p) (by rw [getElem?_eq_getElem hj,e])
  have hxu:=hsub x (mem_of_getElem? hx)
  obtain⟨i,hi,ei⟩:=mem_iff_getElem.mp hxu
  obtain⟨y,hy1,t2,rfl⟩:=pr_item xb hndb (i:=i) (k:=x.1) (a:=x.2) (by rw [getElem?_eq_getElem hi,ei])
  refine⟨_,by rw [e1];exact hy1,?_⟩
  rw [e2]
  have:=PySem.SeqAt.EqAt.int_int (A:=A.in1) (s:=sh s h tk) x.2 t1 x.2 t2
  rwa [beq_self_eq_true] at this
 ·exact wpAny_pure ⟨_,rfl,(fun e=>nomatch e),q⟩
end
end Mine
namespace Mine
noncomputable def lastS (x:Str):Str:=⟨(x.cps.toList.drop (x.cps.toList.length - 1)).toArray⟩
theorem last_picked (x:Str)(u:Tok):(slicePicked x (some (-1,u)) none none).filterMap (x.cps[·]?)=x.cps.toList.drop (x.cps.toList.length - 1):=by
 have hl:x.length=x.cps.toList.length:=len_list x
 have e:slicePicked x (some (-1,u)) none none=sliceRange (((x.cps.toList.length - 1:Nat):Int)) ((x.cps.toList.length:Nat):Int) 1:=by
  unfold slicePicked Builtin.Str.strSliceIndices
  rw [hl]
  show sliceRange (max 0 (min (-1+(x.cps.toList.length:Int)) (x.cps.toList.length:Int))) (x.cps.toList.length:Int) 1=_
  rw [clampI]
 rw [e,sliceRange_one,filterMap_map,←range_pick]
 congr 1
 funext k
 simp [Function.comp]
theorem last_same {x:Str}{u:Tok}(h:(slicePicked x (some (-1,u)) none none).length=x.length):lastS x=x:=by
 have hl:x.length=x.cps.toList.length:=len_list x
 have e:slicePicked x (some (-1,u)) none none=sliceRange (((x.cps.toList.length - 1:Nat):Int)) ((x.cps.toList.length:Nat):Int) 1:=by
  unfold slicePicked Builtin.Str.strSliceIndices
  rw [hl]
  show sliceRange (max 0 (min (-1+(x.cps.toList.length:Int)) (x.cps.toList.length:Int))) (x.cps.toList.length:Int) 1=_
  rw [clampI]
 rw [e,sliceRange_one,length_map,length_range,hl] at h
 refine str_inj ?_
 unfold lastS
 show (x.cps.toList.drop (x.cps.toList.length - 1)).toArray.toList=_
 have:x.cps.toList.length - 1=0:=nA (lp [_,_,_] [(zA,zB),(.add zB zC,zA)] zC (.num 0) rfl (eqR h) (sbB _ _ (Nat.sub_le _ _))) (lp [_] [] (.num 0) zA rfl)
 rw [this];simp
theorem end_last (x:Str):endI 0 x=if lastS x="\r" then 2 else if lastS x = "" ∨ lastS x = "\n" then 0 else 1:=by
 rw [←cr_eq,←lf_eq,str_nil]
 unfold endI lastS
 generalize x.cps.toList=l
 rcases List.eq_nil_or_concat l with rfl|⟨a,c,rfl⟩
 ·rw [if_neg (by decide),if_pos (.inl rfl)];rfl
 ·rw [List.concat_eq_append]
  have hd:(a++[c]).drop ((a++[c]).length - 1)=[c]:=by simp
  rw [hd]
  have he:endQ (0:Int).toNat (a++[c])=(stepQ (endQ 0 a) c).2:=by
   rw [endQ_append];rfl
  rw [he]
  have hc:∀d:Nat,(({ cps:=[c].toArray }:Str)=⟨#[d]⟩)↔c=d:=fun d=>by
   constructor
   ·intro h;injection h with h;simpa using h
   ·rintro rfl;rfl
  have hn:({ cps:=[c].toArray }:Str)≠⟨#[]⟩:=by
   intro h;injection h with h;simp at h
  have r:(if ({ cps:=[c].toArray }:Str)=⟨#[13]⟩ then (2:Int) else if ({ cps:=[c].toArray }:Str)=⟨#[]⟩∨({ cps:=[c].toArray }:Str)=⟨#[10]⟩ then 0 else 1)=if c=13 then 2 else if c=10 then 0 else 1:=by
   by_cases h13:c=13
   ·rw [if_pos ((hc 13).mpr h13),if_pos h13]
   ·rw [if_neg (fun q=>h13 ((hc 13).mp q)),if_neg h13]
    by_cases h10:c=10
    ·rw [if_pos (.inr ((hc 10).mpr h10)),if_pos h10]
    ·rw [if_neg (fun q=>q.elim hn fun q=>h10 ((hc 10).mp q)),if_neg h10]
  rw [r]
  unfold stepQ
  by_cases h13:c=13
  ·rw [if_pos h13,if_pos h13];rfl
  ·rw [if_neg h13,if_neg h13]
   by_cases h10:c=10
   ·rw [if_pos h10,if_pos h10]
    split <;> rfl
   ·rw [if_neg h10,if_neg h10]
    split
    ·split <;> rfl
    ·rfl
section
variable {κ:Type}[DecidableEq κ]
theorem slice_last {o:Expr}{kk:Nat}{p1 p2 p pos:Pos}{x:Str}{t:Tok}{Q:Value→Shared→Prop}(S:St O K L m led h)(hx:x.length≤2 ^ 20)
  (ho:∀Q':Value→Shared→Prop,Q' (.str x t) (sh s h tk)→wpAny (model prog w) A (eval o env) Q' E (sh s h tk))
  (c:∀h' tk' t',St O K L m led h'→Q (.str (lastS x) t') (sh s h' tk'))(ht:∀o' r,letTemporaryGo o o' r=pure ():=by intro _ _;rfl) :
  wpAny (model prog w) A (eval (.Subscript o (.Slice (some (.UnaryOp .USub (.Constant (.int 1) kk p1) p2)) none none p) pos) env) Q E (sh s h tk):=by
 refine wpAny_Subscript_str_slice (ho _ ?_) ht
 rw [evalPart_some]
 refine UnaryOp_ (wpAny_Constant_int (PyProof.Rows.neg_int (part_none ?_)))
 refine⟨x,t,some (-1,_),none,rfl,rfl,rfl,?_⟩
 have S1:=(S.push { cls:=.type "slice",data:=.fields #[.int (-1) (tk+1),.none,.none] }).tail
 unfold sliceMade
 split
 ·rename_i hq
  have hl:(slicePicked x (some (-1,tk+1)) none none).length=x.length:=by
   rw [Bool.and_eq_true] at hq
   exact of_decide_eq_true (by simpa using hq.2)
  have:=c _ (tk+1+1) t S1
  rw [last_same hl] at this
  exact this
 ·show _≤sizeLine∧_
  refine⟨?_,?_⟩
  ·rw [last_picked]
   show (x.cps.toList.drop _).toArray.size≤_
   rw [size_toArray,length_drop,sizeLine_eq]
   have:=len_list x
   exact lp [_,_,_] [(zA,su zB),(.add zC zB,zA)] zC (.num 16777216) rfl (sbA _ _) (sbB _ _ (Nat.sub_le _ _))
  ·have:=c _ (tk+1+1+1) (tk+1+1) S1
   rw [last_picked]
   exact this
theorem notin_two {x y1 y2:Str}{t t1 t2:Tok}{T:Addr}{Q:Value→Shared→Prop}(hT:h.get? T=some (tu [.str y1 t1,.str y2 t2].toArray))
  (q:Q (.bool (!(decide (x=y1∨x=y2)))) (sh s h tk)):wpAny (model prog w) A (compareOp .NotIn (.str x t) (.ref T)) Q E (sh s h tk):=by
 refine PySem.SeqAt.notIn_tupleAt (s:=sh s h tk) (items:=#[.str y1 t1,.str y2 t2]) (fun v=>match v with | .str y _=>y == x|_=>false) ⟨_,hT,rfl,0,rfl⟩ (fun y hy=>?_) ?_
 ·simp only [List.mem_toArray,mem_cons,not_mem_nil,or_false] at hy
  rcases hy with rfl|rfl
  ·exact PySem.SeqAt.EqAt.str_str _ _ _ _
  ·exact PySem.SeqAt.EqAt.str_str _ _ _ _
 ·have:(#[Value.str y1 t1,.str y2 t2].any fun v=>match v with | .str y _=>y == x|_=>false)=decide (x=y1∨x=y2):=by
   rw [←Array.any_toList]
   show ((y1 == x)||((y2 == x)||false))=_
   by_cases h1:x=y1
   ·subst h1;simp
   ·by_cases h2:x=y2
    ·subst h2;simp
    ·have e1:(y1 == x)=false:=beq_eq_false_iff_ne.mpr fun e=>h1 e.symm
     have e2:(y2 == x)=false:=beq_eq_false_iff_ne.mpr fun e=>h2 e.symm
     rw [e1,e2];simp [h1,h2]
  rw [this];exact q
theorem item_dctR {knd:PySem.KeyKind prog w κ}{value slice:Expr}{d:Addr}{o:Obj}{kvs:List (κ×Value)}{key v:Value}{k:κ}{Q:Value→Shared→Prop}(hd:h.get? d=some o)(hdo:dictO knd o kvs)
  (hkey:knd.is k key=true)(hv:valueAt kvs k=some v)(q:Q v (sh s h (tk+1)))
  (hs:subscripted slice false (.ref d) key=operate [.ref d,key] (getItem (.ref d) key):=by with_unfolding_all rfl) :
  wpAny (model prog w) A (subscriptTail value slice (.ref d) key) Q E (sh s h tk):=by
 have hm:=dictOf_of hd hdo
 exact subscriptTail_builtinR (x:=v) (Heap.DictOf.typeIs (s:=sh s h tk) hm) slot_dict_getitem.lookup (wpAny_getItem_of (s:=sh s h tk) hkey hm.mapOf hv ⟨rfl,q⟩) hs
inductive SwLcP (env:Env)(ns:List Str)(i j:Nat)(x1 x2:Str)(s:Shared)(Q:Flow→Shared→Prop)(a b:Value)(s₂:Shared):Prop
 | mk (O:Org) (K:Heap) (vs:List (Option Value)) (led:List (Addr×Obj)) (h:Heap) (tk:Nat) (c:Addr) (o:Obj) (w0:Option Value):s₂=sh s h tk→St O K env.locals (loc ns vs) led h→ns.Nodup→ns[i]?=some x1→i<vs.length→led[j]?=some (c,o)→o.data = .cell w0→env.cells.lookup x2=some c→
   (∀o' h' tk',o'.data = .cell (some b)→St O K env.locals (loc ns (vs.set i (some a))) (led.set j (c,o')) h'→Q .next (sh s h' tk'))→SwLcP env ns i j x1 x2 s Q a b s₂
theorem assign_lc {k:Nat}{i j:Nat}{x1 x2:Str}{p1 p2 tp vp pos:Pos}{n1 n2:Nat}{e1 e2:Expr}{ns:List Str}{Q:Flow→Shared→Prop}(hA:OkA A k)
  (kk:wpAny (model prog w) A (eval e1 env) (fun a s₁=>wpAny (model prog w) A (eval e2 env) (SwLcP env ns i j x1 x2 s Q a) E s₁) E (sh s h tk))
  (hx1:env.kindOf x1=some .local:=by rfl)(hx2:env.kindOf x2=some .cell:=by rfl)(hk:env.scope.kind = .function:=by rfl)
  (he1:starEach [e1,e2] env=(false,eval e1 env)::starEach [e2] env:=by rfl)(he2:starEach [e2] env=(false,eval e2 env)::starEach [] env:=by rfl)
  (hs:swapsWithSole [.Tuple [.Name x1 p1,.Name x2 p2] n1 tp] (.Tuple [e1,e2] n2 vp) pos.line env=pure false:=by rfl)
  (hw:swappedStores [.Tuple [.Name x1 p1,.Name x2 p2] n1 tp] (.Tuple [e1,e2] n2 vp) env=pure none:=by rfl) :
  wpAny (model prog w) A (exec (.Assign [.Tuple [.Name x1 p1,.Name x2 p2] n1 tp] (.Tuple [e1,e2] n2 vp) pos) env) Q E (sh s h tk):=by
 have hp:(env.scope.kind == .class||(env.scope.kind == .module&&env.locals != env.globals))=false:=by rw [hk];rfl
 refine Assign_Tuple (wpAny_Tuple (args_cons (wpAny_mono kk (fun a s₁ h₁=>args_cons (wpAny_mono h₁ (fun b s₂ h₂=>args_nil ?_) fun _ _ x=>x) he2) fun _ _ x=>x) he1)) hs hw
 obtain⟨O,K,vs,led,h,tk,c,o,w0,rfl,S,hnd,hi,hil,hj,ho,hc,c'⟩:=h₂
 refine⟨by simp [sizeLine],?_⟩
 have S1:=S.push (tu [a,b].toArray)
 refine wpAny_assign_Tuple (s:=sh s (h.push (tu [a,b].toArray)) tk) hA.handled (items:=#[a,b]) ⟨_,S1.at 0 rfl,rfl,0,rfl⟩ rfl rfl fun h₄ hx₄=>?_
 have S4:=S1.tail.ext hx₄
 show wpAny _ _ (do holding [b] (assign (.Name x1 p1) env a);do holding [] (assign (.Name x2 p2) env b);pure ()) _ _ _
 refine wpAny_bind (wpAny_holding (wpAny_assign_Name (wpAny_storeName_local hx1 S4.ns (fun h₅ hn₅ hs₅=>?_) hp)))
 have S5:=S4.store hn₅ hs₅
 rw [loc_set i hi hnd hil] at S5
 refine wpAny_bind (wpAny_holding (wpAny_assign_Name (stc S5 hj ho (fun o' h6 e6 S6=>wpAny_pure ?_) hc hx2 hk)))
 exact c' o' h6 _ e6 S6
end
end Mine
namespace Mine
noncomputable def for15:List Stmt:=bodyOf (bodyL.getD 15 (.Pass ⟨0,0,0,0⟩))
noncomputable def in15:List Stmt:=bodyOf (for15.getD 1 (.Pass ⟨0,0,0,0⟩))
noncomputable def then15:List Stmt:=bodyOf (in15.getD 0 (.Pass ⟨0,0,0,0⟩))
theorem getD_self {t:DS}(hnd:(t.map (·.1)).Nodup):((t.map (·.1)).map fun k=>(k,(getD' t k).getD 0))=t:=by
 rw [map_map]
 have:t.map ((fun k=>(k,(getD' t k).getD 0)) ∘ (·.1))=t.map id:=by
  refine map_congr_left fun p hp=>?_
  show (p.1,(getD' t p.1).getD 0)=p
  have h1:getD' t p.1=some p.2:=by
   unfold getD'
   induction t with
   | nil=>exact nomatch hp
   | cons q t ih=>
    rw [map_cons,nodup_cons] at hnd
    rcases mem_cons.mp hp with rfl|hp
    ·rw [find?_cons_of_pos (by simp)];rfl
    ·have hne:q.1≠p.1:=fun e=>hnd.1 (mem_map.mpr ⟨p,hp,e.symm⟩)
     rw [find?_cons_of_neg (by simpa using hne)]
     exact ih hnd.2 hp
  rw [h1];rfl
 rw [this,map_id]
theorem find_get {t:DS}{x:Str}{n:Int}(h:getD' t x=some n):t.find? (fun e=>decide (e.1=x))=some (x,n):=by
 unfold getD' at h
 cases hq:t.find? (fun e=>decide (e.1=x)) with
 | none=>rw [hq] at h;exact nomatch h
 | some e=>
  rw [hq] at h
  have h1:e.1=x:=by simpa using find?_some hq
  have h2:e.2=n:=Option.some.inj h
  rw [←h1,←h2]
theorem find_key {t:DS}{x:Str}(h:x∈t.map (·.1)):t.find? (fun e=>decide (e.1=x))=some (x,(getD' t x).getD 0):=by
 cases hq:getD' t x with
 | some n=>exact find_get hq
 | none=>
  obtain⟨p,hp,rfl⟩:=mem_map.mp h
  unfold getD' at hq
  exact absurd (decide_eq_true rfl) (find?_eq_none.mp (Option.map_eq_none_iff.mp hq) p hp)
section
variable {κ:Type}[DecidableEq κ]{R:Rel α}{R':Rel β}{l r e1 e2 test x y:Expr}{pos:Pos}{ns:List Str}{vs:List (Option Value)}{rest:List Stmt}{Q:Flow→Shared→Prop}
theorem gv_last {D:Addr}{us:List Value}{n kk:Nat}{p1 p2:Pos}{x:Value}{y:α}(d:Gv prog w A s h K env l rVal (.ref D))(ha:h.get? D=some (lo us.toArray n))(hx:us[us.length - 1]?=some x)(q:R.r K x y)
  (hs:∀D key,subscripted (.UnaryOp .USub (.Constant (.int 1) kk p1) p2) false (.ref D) key=operate [.ref D,key] (getItem (.ref D) key):=by intro _ _;with_unfolding_all rfl) :
  Gv prog w A s h K env (.Subscript l (.UnaryOp .USub (.Constant (.int 1) kk p1) p2) pos) R y:=fun _ _ _ c=>Subscript_ (d _ _ _ fun u _ hu=>UnaryOp_ (c_int (neg_i (by
 obtain rfl:u = .ref D:=hu
 exact item_lastR ha hx (c _ _ q) (hs _ _)))))
theorem gv_atR {RK:Rel κ}{knd:PySem.KeyKind prog w κ}{xs:List (κ×α)}{k:κ}{y:α}(S:Sub K h)(d:Gv prog w A s h K env l (rDict knd R) xs)(x:Gv prog w A s h K env r RK k)(hkey:∀v,RK.r K v k→knd.is k v=true)(hf:xs.find? (fun e=>decide (e.1=k))=some (k,y))
  (hs:∀D key,subscripted r false (.ref D) key=operate [.ref D,key] (getItem (.ref D) key):=by intro _ _;with_unfolding_all rfl):Gv prog w A s h K env (.Subscript l r pos) R y:=fun _ _ _ c=>Subscript_ (d _ _ _ fun u _ hu=>x _ _ _ fun kv _ hk=>by
 obtain⟨a,o,kvs,rfl,hsys,ha,hd,hx,hn⟩:=rDict_at hu
 rcases pr_at hx k with ⟨_,h2⟩|⟨v,b,h1,h2,h3⟩
 ·rw [hf] at h2;cases h2
 ·obtain rfl:y=b:=congrArg Prod.snd (Option.some.inj (hf.symm.trans h2))
  exact item_dctR (S _ _ ha) hd (hkey _ hk) h1 (c _ _ h3) (hs _ _))
theorem gc_quote {k:Nat}{v:Value}{x:Str}(B:Mod base)(PP:Pats base)(hb:Sub base K)(hs:Sub K h)(hA:OkA A (k+1))(r:rStr.r K v x)(hx:x.cps.size≤2 ^ 18):Gc prog w A s K h 48 [v] rStr (outI 0 x):=fun _ _ _ c=>
 quote_call (k:=k) B PP hb hs hA r hx fun K1 h1 tk1 v1 g1 hv1=>c K1 h1 tk1 v1 g1 (by rw [quoted_eq] at hv1;exact hv1)
theorem gx_dcomp {knd:PySem.KeyKind prog w κ}{vx iter:Expr}{x:Str}{px px2:Pos}{scope:Scope}{cl:List (Str×Addr)}{xs:List κ}(f:κ→β)(B:Mod base)(hb:Sub base K)(hclos:closureFor scope env=pure cl)(gi:Gi prog w A s O K h L m led env iter (rKey knd) xs)(hlen:xs.length≤2 ^ 20)(hnd:xs.Nodup)
  (he:∀B0 a v K1 C led1 h1,a∈xs→knd.is a v=true→Sub K K1→(∀q∈led,B0.B.get? q.1=some q.2)→St B0 K1 C (lc1 x (some v)) led1 h1→Gx prog w A s B0 K1 h1 C (lc1 x (some v)) led1 (compEnvC scope cl C env) vx R' (f a))
  (hcell:∀y∈scope.names,y.2 ≠ .cell:=by decide)(hkind:scope.kind = .function:=by rfl)
  (hnames:∀y∈scope.names,y.2 = .local→scope.names.lookup y.1=some .local:=by decide)(hx:scope.names.lookup x=some .local:=by decide)(hdb:(x == ("__debug__" : Str))=false:=by rfl)(hs:∀x,foldedSetIterable iter env x=pure x:=by intro _;rfl) :
  Gx prog w A s O K h L m led env (.DictComp (.Name x px2) vx [⟨.Name x px,iter,[],0⟩] scope pos) (rDict knd R') (xs.map fun k=>(k,f k)):=fun _ _ _ c=>
 dcomp f hclos hcell hkind hnames hx hdb (gi _ _ _ fun K' h' tk' I ob hK S src=>⟨O,K',L,m,led,I,ob,h',tk',xs,rfl,rfl,hlen,hnd,sys_lt B ((hb.trans hK).trans S.stays),S,src,
  fun a v K1 C led1 h1 tk1 Q' E' ha hk hK1 _ S1 q=>he _ a v K1 C led1 h1 ha hk (hK.trans hK1) (hold_of S) S1 _ _ _ fun K2 h2 tk2 y hK2 S2 ry=>q y K2 h2 tk2 hK2 S2 ry,
  fun v K2 h2 tk2 S2 hK2 hv=>c K2 h2 tk2 v (hK.trans hK2) S2 hv⟩) hs
theorem tx_ned {t u:DS}(hu:A.units<cLine)(g1:Gx prog w A s O K h L m led env l (rDS prog w) t)(g2:∀K' h',Sub K K'→St O K' L m led h'→Gx prog w A s O K' h' L m led env r (rDS prog w) u)(hl:t.length=u.length)(hsub:∀p∈t,p∈u)
  (hm:behindInMarks .NotEq r=false:=by with_unfolding_all rfl):Tx prog w A s O K h L m led env (.Compare l [.NotEq] [r] pos) false:=fun _ _ _ c=>
 wpAny_isTrue_Compare1 (g1 _ _ _ fun K1 h1 _ v hK1 S1 r1=>g2 K1 h1 hK1 S1 _ _ _ fun K2 h2 _ u hK2 S2 r2=>ne_dict hu S2 ((rDS prog w).mono hK2 r1) r2 hl hsub (wpAny_truthy_bool (c K2 h2 _ (hK1.trans hK2) S2))) hm
theorem tx_or2 (p:Tx prog w A s O K h L m led env x false)(q:∀K' h',Sub K K'→St O K' L m led h'→Tx prog w A s O K' h' L m led env y false):Tx prog w A s O K h L m led env (.BoolOp .Or [x,y] pos) false:=fun _ _ _ c=>
 wpAny_isTrue_BoolOp (wpAny_allTrue_Or_cons (p _ _ _ fun K1 h1 _ hK1 S1=>ifn (by simp) (wpAny_allTrue_Or_cons (q K1 h1 hK1 S1 _ _ _ fun K2 h2 _ hK2 S2=>ifn (by simp) (wpAny_allTrue_Or_nil (c K2 h2 _ (hK1.trans hK2) S2))))))
theorem if_nox {bd:List Stmt}(t:Tx prog w A s O K h L m led env test false)(k:∀K' h' tk',Sub K K'→St O K' L m led h'→wpAny (model prog w) A (execs rest env) Q E (sh s h' tk')):wpAny (model prog w) A (execs (.If test bd [] pos::rest) env) Q E (sh s h tk):=
 wpAny_execs_cons (wpAny_If (t _ _ _ fun K' h' tk' hK S=>ifn (by simp) (wpAny_execs_nil (k K' h' tk' hK S))))
theorem lc_x {k:Nat}{x1 x2:Str}{p1 p2 tp vp:Pos}{n1 n2:Nat}{y:α}{z:β}{ca:Addr}{ob:Obj}{w0:Option Value}(i j:Nat)(hd:ns.Nodup)(hA:OkA A k)(g1:Gx prog w A s O K h env.locals (loc ns vs) led env e1 R y)
  (g2:∀K' h',Sub K K'→St O K' env.locals (loc ns vs) led h'→Gx prog w A s O K' h' env.locals (loc ns vs) led env e2 R' z)(hj:led[j]?=some (ca,ob))(ho:ob.data = .cell w0)
  (c:∀K' v u o' h' tk',Sub K K'→R.r K' v y→R'.r K' u z→o'.data = .cell (some u)→St O K' env.locals (loc ns (vs.set i (some v))) (led.set j (ca,o')) h'→wpAny (model prog w) A (execs rest env) Q E (sh s h' tk'))
  (hi:ns[i]?=some x1:=by rfl)(hv:(vs[i]?).isSome=true:=by rfl)(hc:env.cells.lookup x2=some ca:=by rfl)(hx1:env.kindOf x1=some .local:=by rfl)(hx2:env.kindOf x2=some .cell:=by rfl)(hk:env.scope.kind = .function:=by rfl)
  (he1:starEach [e1,e2] env=(false,eval e1 env)::starEach [e2] env:=by rfl)(he2:starEach [e2] env=(false,eval e2 env)::starEach [] env:=by rfl)
  (hs:swapsWithSole [.Tuple [.Name x1 p1,.Name x2 p2] n1 tp] (.Tuple [e1,e2] n2 vp) pos.line env=pure false:=by rfl)
  (hw:swappedStores [.Tuple [.Name x1 p1,.Name x2 p2] n1 tp] (.Tuple [e1,e2] n2 vp) env=pure none:=by rfl) :
  wpAny (model prog w) A (execs (.Assign [.Tuple [.Name x1 p1,.Name x2 p2] n1 tp] (.Tuple [e1,e2] n2 vp) pos::rest) env) Q E (sh s h tk):=
 wpAny_execs_cons (assign_lc (i:=i) (j:=j) (ns:=ns) hA (g1 _ _ _ fun K1 h1 tk1 v hK1 S1 r1=>g2 K1 h1 hK1 S1 _ _ _ fun K2 h2 tk2 u hK2 S2 r2=>
  ⟨O,K2,vs,led,h2,tk2,ca,ob,w0,rfl,S2,hd,hi,lt_of_isSome hv,hj,ho,hc,fun o' h' tk' e' S'=>c K2 v u o' h' tk' (hK1.trans hK2) (R.mono hK2 r1) r2 e' S'⟩) hx1 hx2 hk he1 he2 hs hw)
end
section
variable {R:Rel α}
theorem w_then {x0 x1 x2 x3 x4 x5 x6 x7 x8 x9 x11 x12 x13 x14 x15 x16 x17 x18 x19 x20:Option Value}{o1 o2 o3 o4 o5 o6 o7 o8:Obj}{p1 p2:Addr×Obj}{P:Addr}{pvs:List Value}{pn:Nat}{k:Nat}{Q:Flow→Shared→Prop}{bv sv:Value}{T:List (Int×DS)}{tb sent:DS}{x:Str}{tx:Tok}{n:Int}(B:Mod base)(PP:Pats base)(hb:Sub base K)(hA:OkA A (k+4))
  (S:St O K (enL qn L f cd).locals (loc lwN [x0,x1,x2,x3,x4,x5,x6,x7,x8,x9,some (.ref P),x11,x12,x13,x14,x15,x16,x17,x18,x19,x20]) (p1::p2::(P,lo pvs.toArray pn)::cl8 L o1 o2 o3 o4 o5 o6 o7 o8) h)
  (e3:o3.data = .cell (some bv))(rb:(rDict (intKind prog w) (rDS prog w)).r K bv T)(hT:lookD T 256=some tb)(e4:o4.data = .cell (some sv))(rsv:(rDict (PySem.strKind prog w) rInt).r K sv sent)
  (e5:o5.data = .cell (some (.str x tx)))(hx:x.length≤2 ^ 10)(hget:getD' tb x=some n)(hpv:pvs.length≤2 ^ 20)(hsl:sent.length≤2 ^ 19)
  (c:∀K' h' tk' o4' v sv' n' x17 x18 x19,Sub K K'→St O K' (enL qn L f cd).locals (loc lwN [x0,x1,x2,x3,x4,x5,x6,x7,x8,x9,some (.ref P),x11,x12,x13,x14,x15,x16,x17,x18,x19,x20]) (p1::p2::(P,lo (pvs++[v]).toArray n')::cl8 L o1 o2 o3 o4' o5 o6 o7 o8) h'→rStr.r K' v (outI 0 x)→o4'.data = .cell (some sv')→
   (rDict (PySem.strKind prog w) rInt).r K' sv' (addD sent [(outI 0 x,n)])→Q .next (sh s h' tk')) :
  wpAny (model prog w) A (execs then15 (enL qn L f cd)) Q E (sh s h tk):=by
 have hnds:(sent.map (·.1)).Nodup:=by
  obtain⟨_,_,_,_,_,_,_,_,hn⟩:=rDict_at rsv
  exact hn
 refine app_x S 10 2 lwN_nd rfl (gx_call1 (R':=rStr) (R:=rStr) B hb S.stays (B.fns (48,5) (by decide)) (gx_v S (gv_c (S.at 7 rfl) e5 ⟨tx,rfl⟩)) fun K' h' v hK hs r=>gc_quote (k:=k+3) B PP (hb.trans hK) hs hA r (by show x.length≤_;exact lp [_] [(zA,.num 1024)] zA (.num 262144) rfl hx)) (nT hpv (by decide)) fun K1 v1 h2 tk2 n2 hK1 hq S2=>?_
 replace S2:St O K1 (enL qn L f cd).locals (loc lwN [x0,x1,x2,x3,x4,x5,x6,x7,x8,x9,some (.ref P),x11,x12,x13,x14,x15,x16,x17,x18,x19,x20]) (p1::p2::(P,lo (pvs++[v1]).toArray n2)::cl8 L o1 o2 o3 o4 o5 o6 o7 o8) h2:=S2
 clear S
 have hb1:=hb.trans hK1
 have hlast:(pvs++[v1])[(pvs++[v1]).length - 1]?=some v1:=by simp
 have hbare:=find_look hT
 have htext:=find_get hget
 have rb1:=(rDict (intKind prog w) (rDS prog w)).mono hK1 rb
 have rs1:=(rDS prog w).mono hK1 rsv
 refine sw2_x (R:=rDS prog w) (R':=rDS prog w) (y:=sent) (z:=[(outI 0 x,n)]) 17 18 lwN_nd hA
  (gx_eq (gx_dcomp (knd:=PySem.strKind prog w) (R':=rInt) (fun k=>(getD' sent k).getD 0) B hb1 rfl (gi_dict hA (gx_v S2 (gv_c (S2.at 6 rfl) e4 rs1))) (by rw [length_map];exact lp [_] [(zA,.num 524288)] zA (.num 1048576) rfl hsl) hnds fun B0 a v K5 C led5 h5 ha hk hK5 hold S5=>
   gx_v S5 (gv_at (RK:=rKey (PySem.strKind prog w)) S5.stays (gv_c (S5.keepB _ _ (hold ((L+4:Nat),o4) (mem_of_getElem? (i:=6) rfl))) e4 ((rDS prog w).mono hK5 rs1)) (gv_n (env:=compEnvC _ _ C (enL qn L f cd)) S5 0 (by simp) hk) (fun _ h=>h) (find_key ha))) (getD_self hnds))
  (fun K' h' hK S'=>gx_dict1 (knd:=PySem.strKind prog w) (RK:=rStr) B (hb1.trans hK) S' str_key fun D h1 S5=>⟨gv_last (gv_n S5 10 lwN_nd rfl) (S5.at 3 rfl) hlast (rStr.mono hK hq),
   gv_atR (RK:=rStr) S5.stays (gv_at (R:=rDS prog w) S5.stays (gv_c (S5.at 6 rfl) e3 ((rDict (intKind prog w) (rDS prog w)).mono hK rb1)) gv_i int_key hbare) (gv_c (S5.at 8 rfl) e5 ⟨tx,rfl⟩) str_key htext⟩) fun K4 v4 v6 h7 tk7 hK4 rk ro S7=>?_
 replace S7:St O K4 (enL qn L f cd).locals (loc lwN [x0,x1,x2,x3,x4,x5,x6,x7,x8,x9,some (.ref P),x11,x12,x13,x14,x15,x16,some v4,some v6,x19,x20]) (p1::p2::(P,lo (pvs++[v1]).toArray n2)::cl8 L o1 o2 o3 o4 o5 o6 o7 o8) h7:=S7
 clear S2
 have hb4:=hb1.trans hK4
 have rs4:=(rDS prog w).mono hK4 rs1
 refine lc_x (R:=rDS prog w) (R':=rDS prog w) (y:=sent) (z:=addD sent [(outI 0 x,n)]) 19 6 lwN_nd hA (gx_v S7 (gv_c (S7.at 6 rfl) e4 rs4))
  (fun K' h' hK S'=>gx_call2 (R':=rDS prog w) (R'':=rDS prog w) B (hb4.trans hK) S'.stays (B.fns (83,8) (by decide)) (gx_v S' (gv_c (S'.at 6 rfl) e4 ((rDS prog w).mono hK rs4)))
   (fun K2 h2 hK2 S2=>gx_v S2 (gv_n S2 18 lwN_nd ((rDS prog w).mono (hK.trans hK2) ro))) fun K2 h2 v u hK2 hs r1 r2=>gc_add (k:=k+3) B ((hb4.trans hK).trans hK2) hs hA r1 r2 (by simp;exact lp [_] [(zA,.num 524288)] zA (.num 16777215) rfl hsl)) rfl e4 fun K8 v8 u8 o9 h9 tk9 hK8 ro8 ru8 e9 S9=>?_
 replace S9:St O K8 (enL qn L f cd).locals (loc lwN [x0,x1,x2,x3,x4,x5,x6,x7,x8,x9,some (.ref P),x11,x12,x13,x14,x15,x16,some v4,some v6,some v8,x20]) (p1::p2::(P,lo (pvs++[v1]).toArray n2)::cl8 L o1 o2 o3 o9 o5 o6 o7 o8) h9:=S9
 clear S7
 refine if_nox (tx_or2 (tx_ned hA.cu (gx_v S9 (gv_n S9 19 lwN_nd ro8)) (fun K' h' hK S'=>gx_v S' (gv_n S' 17 lwN_nd ((rDS prog w).mono (hK8.trans hK) rk))) rfl fun _ h=>h) fun K' h' hK S'=>
  tx_ned hA.cu (gx_v S' (gv_n S' 18 lwN_nd ((rDS prog w).mono (hK8.trans hK) ro))) (fun K2 h2 hK2 S2=>gx_dict1 (knd:=PySem.strKind prog w) (RK:=rStr) B ((hb4.trans (hK8.trans hK)).trans hK2) S2 str_key fun D h1 S5=>⟨gv_last (gv_n S5 10 lwN_nd rfl) (S5.at 3 rfl) hlast (rStr.mono (((hK4.trans hK8).trans hK).trans hK2) hq),
   gv_atR (RK:=rStr) S5.stays (gv_at (R:=rDS prog w) S5.stays (gv_c (S5.at 6 rfl) e3 ((rDict (intKind prog w) (rDS prog w)).mono (((hK4.trans hK8).trans hK).trans hK2) rb1)) gv_i int_key hbare) (gv_c (S5.at 8 rfl) e5 ⟨tx,rfl⟩) str_key htext⟩) rfl fun _ h=>h) fun K11 h11 tk11 hK11 S11=>?_
 exact wpAny_execs_nil (c K11 h11 tk11 o9 v1 u8 n2 _ _ _ (((hK1.trans hK4).trans hK8).trans hK11) S11 (rStr.mono ((hK4.trans hK8).trans hK11) hq) e9 ((rDS prog w).mono hK11 ru8))
end
end Mine
namespace Mine
theorem two_strs {K:Heap}{x y:Str}{vs:List Value}(h:All2 (rStr.r K) vs [x,y]):∃u1 u2,vs=[.str x u1,.str y u2]:=by
 cases h with
 | cons h1 h2=>
  cases h2 with
  | cons h3 h4=>
   cases h4
   obtain⟨u1,rfl⟩:=h1
   obtain⟨u2,rfl⟩:=h3
   exact⟨u1,u2,rfl⟩
section
variable {R:Rel α}
theorem w_turn {x0 x1 x2 x3 x4 x5 x6 x7 x8 x9 x11 x12 x13 x14 x15 x17 x18 x19 x20:Option Value}{o1 o2 o3 o4 o5 o6 o7 o8:Obj}{p1 p2:Addr×Obj}{P:Addr}{pvs:List Value}{pn:Nat}{k:Nat}{Q:Flow→Shared→Prop}{bv sv:Value}{T:List (Int×DS)}{tb sent:DS}{x:Str}{tx ts:Tok}{n st:Int}(B:Mod base)(PP:Pats base)(hb:Sub base K)(hA:OkA A (k+4))
  (S:St O K (enL qn L f cd).locals (loc lwN [x0,x1,x2,x3,x4,x5,x6,x7,x8,x9,some (.ref P),x11,x12,x13,x14,x15,some (.int st ts),x17,x18,x19,x20]) (p1::p2::(P,lo pvs.toArray pn)::cl8 L o1 o2 o3 o4 o5 o6 o7 o8) h)
  (e3:o3.data = .cell (some bv))(rb:(rDict (intKind prog w) (rDS prog w)).r K bv T)(hT:lookD T 256=some tb)(e4:o4.data = .cell (some sv))(rsv:(rDict (PySem.strKind prog w) rInt).r K sv sent)
  (e5:o5.data = .cell (some (.str x tx)))(hx:x.length≤2 ^ 10)(hget:getD' tb x=some n)(hpv:pvs.length≤2 ^ 20)(hsl:sent.length≤2 ^ 19)
  (c:∀K' h' tk' o4' vs sv' n' x17 x18 x19,Sub K K'→St O K' (enL qn L f cd).locals (loc lwN [x0,x1,x2,x3,x4,x5,x6,x7,x8,x9,some (.ref P),x11,x12,x13,x14,x15,some (.int st ts),x17,x18,x19,x20]) (p1::p2::(P,lo (pvs++vs).toArray n')::cl8 L o1 o2 o3 o4' o5 o6 o7 o8) h'→All2 (rStr.r K') vs (if endI 0 x=st then [outI 0 x] else [])→o4'.data = .cell (some sv')→
   (rDict (PySem.strKind prog w) rInt).r K' sv' (if endI 0 x=st then addD sent [(outI 0 x,n)] else sent)→Q .next (sh s h' tk')) :
  wpAny (model prog w) A (execs in15 (enL qn L f cd)) Q E (sh s h tk):=by
 have fin:∀K1 h1 tk1 (b:Bool),Sub K K1→b=decide (endI 0 x=st)→St O K1 (enL qn L f cd).locals (loc lwN [x0,x1,x2,x3,x4,x5,x6,x7,x8,x9,some (.ref P),x11,x12,x13,x14,x15,some (.int st ts),x17,x18,x19,x20]) (p1::p2::(P,lo pvs.toArray pn)::cl8 L o1 o2 o3 o4 o5 o6 o7 o8) h1→
   (if b=true then wpAny (model prog w) A (execs then15 (enL qn L f cd)) (fun fl s'=>match fl with | .next=>wpAny (model prog w) A (execs [] (enL qn L f cd)) Q E s'|fl=>Q fl s') E (sh s h1 tk1) else wpAny (model prog w) A (execs [] (enL qn L f cd)) (fun fl s'=>match fl with | .next=>wpAny (model prog w) A (execs [] (enL qn L f cd)) Q E s'|fl=>Q fl s') E (sh s h1 tk1)):=by
  intro K1 h1 tk1 b hK1 hbe S1
  by_cases g:endI 0 x=st
  ·rw [hbe,decide_eq_true g,if_pos rfl]
   refine w_then (k:=k) B PP (hb.trans hK1) hA S1 e3 ((rDict (intKind prog w) (rDS prog w)).mono hK1 rb) hT e4 ((rDict (PySem.strKind prog w) rInt).mono hK1 rsv) e5 hx hget hpv hsl fun K2 h2 tk2 o4' v sv' n' y17 y18 y19 hK2 S2 hv e4' hr=>?_
   refine wpAny_execs_nil (c K2 h2 tk2 o4' [v] sv' n' y17 y18 y19 (hK1.trans hK2) S2 ?_ e4' ?_)
   ·rw [if_pos g];exact .cons hv .nil
   ·rw [if_pos g];exact hr
  ·rw [hbe,decide_eq_false g,if_neg (by simp)]
   refine wpAny_execs_nil (wpAny_execs_nil (c K1 h1 tk1 o4 [] sv pn _ _ _ hK1 (by rw [append_nil];exact S1) ?_ e4 ?_))
   ·rw [if_neg g];exact .nil
   ·rw [if_neg g];exact (rDict (PySem.strKind prog w) rInt).mono hK1 rsv
 refine wpAny_execs_cons ?_
 refine wpAny_If ?_
 refine wpAny_isTrue_Compare1 ?_
 refine wpAny_IfExp ?_
 refine wpAny_isTrue_Compare1 ?_
 refine slice_last (x:=x) S (lp [_] [(zA,.num 1024)] zA (.num 1048576) rfl hx) (fun Q' hq=>ldc S (i:=7) rfl e5 hq) (fun h1 tk1 t1 S1=>?_) (by intro _ _;with_unfolding_all rfl)
 refine wpAny_Constant_str (PyProof.Rows.eq_str (wpAny_truthy_bool ?_))
 have hE:=end_last x
 by_cases g1:lastS x="\r"
 ·rw [g1,beq_self_eq_true,if_pos rfl]
  refine wpAny_Constant_int (ld S1 16 lwN_nd (PySem.P.eq_int (wpAny_truthy_bool ?_)))
  rw [if_pos g1] at hE
  exact fin K h1 _ ((2:Int) == st) (Sub.refl _) (by rw [hE];rfl) S1
 ·rw [beq_eq_false_iff_ne.mpr g1,if_neg (by simp)]
  rw [if_neg g1] at hE
  refine wpAny_IfExp ?_
  refine wpAny_isTrue_Compare1 ?_
  refine slice_last (x:=x) S1 (lp [_] [(zA,.num 1024)] zA (.num 1048576) rfl hx) (fun Q' hq=>ldc S1 (i:=7) rfl e5 hq) (fun h2 tk2 t2 S2=>?_) (by intro _ _;with_unfolding_all rfl)
  refine tup_lit (R:=rStr) (args_cons (wpAny_Constant_str (args_cons (wpAny_Constant_str (args_nil ?_)))))
  refine⟨_,K,_,_,_,h2,_,["","\n"],rfl,S2,.cons ⟨_,rfl⟩ (.cons ⟨_,rfl⟩ .nil),by decide,fun K3 h3 v3 hK3 S3 hv3=>?_⟩
  obtain⟨Tt,tvs,rfl,hTt,htx⟩:=hv3
  obtain⟨u1,u2,rfl⟩:=two_strs htx
  refine notin_two (S3.stays _ _ hTt) (wpAny_truthy_bool ?_)
  by_cases g2:lastS x = ""∨lastS x="\n"
  ·rw [decide_eq_true g2,Bool.not_true,if_neg (by simp)]
   rw [if_pos g2] at hE
   refine wpAny_Constant_int (ld S3 16 lwN_nd (PySem.P.eq_int (wpAny_truthy_bool ?_)))
   exact fin K3 h3 _ ((0:Int) == st) hK3 (by rw [hE];rfl) S3
  ·rw [decide_eq_false g2,Bool.not_false,if_pos rfl]
   rw [if_neg g2] at hE
   refine wpAny_Constant_int (ld S3 16 lwN_nd (PySem.P.eq_int (wpAny_truthy_bool ?_)))
   exact fin K3 h3 _ ((1:Int) == st) hK3 (by rw [hE];rfl) S3
end
end Mine
namespace Mine
section
variable {R:Rel α}
theorem sent_step {tb:DS}{i:Nat}{p:Str×Int}{st:Int}(hi:tb[i]?=some p):sentOf (tb.take (i+1)) st=if endI 0 p.1=st then addD (sentOf (tb.take i) st) [(outI 0 p.1,p.2)] else sentOf (tb.take i) st:=by
 unfold sentOf
 rw [take_add_one,hi,filter_append,foldl_append]
 by_cases h:endI 0 p.1=st
 ·have:atSt st p=true:=decide_eq_true h
  rw [if_pos h]
  simp [filter_cons,this]
 ·have:atSt st p=false:=decide_eq_false h
  rw [if_neg h]
  simp [filter_cons,this]
theorem post_step {tb:DS}{i:Nat}{p:Str×Int}{st:Int}(hi:tb[i]?=some p):postOf (tb.take (i+1)) st=postOf (tb.take i) st++if endI 0 p.1=st then [outI 0 p.1] else []:=by
 unfold postOf
 rw [take_add_one,hi,filter_append,List.map_append]
 congr 1
 by_cases h:endI 0 p.1=st
 ·have:atSt st p=true:=decide_eq_true h
  rw [if_pos h]
  simp [filter_cons,this]
 ·have:atSt st p=false:=decide_eq_false h
  rw [if_neg h]
  simp [filter_cons,this]
theorem sent_len (tb:DS)(st:Int):∀i,(sentOf (tb.take i) st).length≤i
 | 0=>by simp [sentOf]
 | i+1=>by
  have ih:=sent_len tb st i
  cases hi:tb[i]? with
  | none=>
   have:tb.take (i+1)=tb.take i:=by rw [take_add_one,hi];simp
   rw [this];exact lp [_,_] [(zA,zB)] zA (su zB) rfl ih
  | some p=>
   rw [sent_step hi]
   split
   ·have:=addD_length [(outI 0 p.1,p.2)] (sentOf (tb.take i) st)
    simp only [length_cons,length_nil] at this
    exact lp [_,_,_] [(zA,zB),(zC,.add zA (.add (.num 0) (.num 1)))] zC (su zB) rfl ih this
   ·exact lp [_,_] [(zA,zB)] zA (su zB) rfl ih
inductive InJ (prog:Program)(w:World)(x0 x1 x2 x3 x4 x5 x6 x7 x8 x9 x11 x12 x13 x14 x15 x16 x20:Option Value)(L P:Addr)(p1:Addr×Obj)(o1 o2 o3 o6 o7 o8:Obj)(pre:List Value)(tb:DS)(st:Int):Nat→Heap→(Str→Option Value)→List (Addr×Obj)→Prop
 | mk (i:Nat) (K:Heap) (pvs:List Value) (n:Nat) (o4 o5:Obj) (sv:Value) (w5 x17 x18 x19:Option Value):o4.data = .cell (some sv)→o5.data = .cell w5→All2 (rStr.r K) pvs (postOf (tb.take i) st)→pvs.length≤i→(rDict (PySem.strKind prog w) rInt).r K sv (sentOf (tb.take i) st)→
   InJ prog w x0 x1 x2 x3 x4 x5 x6 x7 x8 x9 x11 x12 x13 x14 x15 x16 x20 L P p1 o1 o2 o3 o6 o7 o8 pre tb st i K (loc lwN [x0,x1,x2,x3,x4,x5,x6,x7,x8,x9,some (.ref P),x11,x12,x13,x14,x15,x16,x17,x18,x19,x20]) (p1::(P,lo (pre++pvs).toArray n)::cl8 L o1 o2 o3 o4 o5 o6 o7 o8)
theorem w_in {x0 x1 x2 x3 x4 x5 x6 x7 x8 x9 x11 x12 x13 x14 x15 x17 x18 x19 x20:Option Value}{o1 o2 o3 o4 o5 o6 o7 o8:Obj}{P:Addr}{p1:Addr×Obj}{k n:Nat}{Q:Flow→Shared→Prop}{bv sv0:Value}{w5:Option Value}{T:List (Int×DS)}{tb:DS}{st:Int}{ts:Tok}{pre:List Value}
  (B:Mod base)(PP:Pats base)(hb:Sub base K)(hA:OkA A (k+4))(htl:tb.length≤128)(hts:∀p∈tb,p.1.length≤2 ^ 10)(hget:∀p∈tb,getD' tb p.1=some p.2)(hpre:pre.length≤2 ^ 10)
  (S:St O K (enL qn L f cd).locals (loc lwN [x0,x1,x2,x3,x4,x5,x6,x7,x8,x9,some (.ref P),x11,x12,x13,x14,x15,some (.int st ts),x17,x18,x19,x20]) (p1::(P,lo pre.toArray n)::cl8 L o1 o2 o3 o4 o5 o6 o7 o8) h)
  (e3:o3.data = .cell (some bv))(rb:(rDict (intKind prog w) (rDS prog w)).r K bv T)(hT:lookD T 256=some tb)(e4:o4.data = .cell (some sv0))(r4:(rDS prog w).r K sv0 [])(e5:o5.data = .cell w5)
  (c:∀K' m' led' h' tk',Sub K K'→InJ prog w x0 x1 x2 x3 x4 x5 x6 x7 x8 x9 x11 x12 x13 x14 x15 (some (.int st ts)) x20 L P p1 o1 o2 o3 o6 o7 o8 pre tb st tb.length K' m' led'→St O K' (enL qn L f cd).locals m' led' h'→Q .next (sh s h' tk')) :
  wpAny (model prog w) A (exec (for15.getD 1 (.Pass ⟨0,0,0,0⟩)) (enL qn L f cd)) Q E (sh s h tk):=by
 refine for_ex ((gi_dict (k:=k+4) (R:=rInt) (xs:=tb) (knd:=PySem.strKind prog w) hA (gx_v S (gv_at (R:=rDS prog w) S.stays (gv_c (S.at 4 rfl) e3 rb) gv_i int_key (find_look hT)))) _ _ _ fun K6 h6 tk6 I ob hK6 S6 src=>?_)
 refine for_goE S6 src (InJ prog w x0 x1 x2 x3 x4 x5 x6 x7 x8 x9 x11 x12 x13 x14 x15 (some (.int st ts)) x20 L P p1 o1 o2 o3 o6 o7 o8 pre tb st) ?_ ?_ ?_
 ·have e:=InJ.mk (prog:=prog) (w:=w) (x0:=x0) (x1:=x1) (x2:=x2) (x3:=x3) (x4:=x4) (x5:=x5) (x6:=x6) (x7:=x7) (x8:=x8) (x9:=x9) (x11:=x11) (x12:=x12) (x13:=x13) (x14:=x14) (x15:=x15) (x16:=some (.int st ts)) (x20:=x20) (L:=L) (P:=P) (p1:=p1) (o1:=o1) (o2:=o2) (o3:=o3) (o6:=o6) (o7:=o7) (o8:=o8) (pre:=pre) (tb:=tb) (st:=st)
   0 K6 [] n o4 o5 sv0 w5 x17 x18 x19 e4 e5 .nil (Nat.zero_le _) ((rDS prog w).mono hK6 r4)
  rw [append_nil] at e
  exact e
 ·clear S S6 src
  intro i key kv K7 m7 led7 h7 tk7 ob7 E7 Q7 hi hkey hK7 hq1 S7 fin7
  obtain⟨pvs,n7,o4b,o5b,sv,w5b,y17,y18,y19,e4b,e5b,hpvs,hpvl,hsv⟩:=hq1
  obtain⟨tx,rfl⟩:∃tx,kv = .str key tx:=by
   have hk:(PySem.strKind prog w).is key kv=true:=hkey
   cases kv <;> simp [PySem.strKind,Value.isStrOf] at hk
   subst hk;exact⟨_,rfl⟩
  rw [getElem?_map] at hi
  obtain⟨p,hp,rfl⟩:=Option.map_eq_some_iff.mp hi
  have hpm:=mem_of_getElem? hp
  have hilt:=(List.getElem?_eq_some_iff.mp hp).1
  refine wpAny_assign_Name (stc S7 (i:=7) rfl e5b fun o5c h8 e5c S8=>?_)
  have hsl2:=sent_len tb st i
  have hK:=hK6.trans hK7
  refine w_turn (k:=k) B PP (hb.trans hK) hA S8 e3 ((rDict (intKind prog w) (rDS prog w)).mono hK rb) hT e4b hsv e5c (hts p hpm) (hget p hpm) (by rw [length_append];exact lp [_,_,_,_] [(zA,.num 128),(zB,.num 1024),(zC,zD),(su zD,zA)] (.add zB zC) (.num 1048576) rfl htl hpre hpvl hilt) (lp [_,_,_] [(zA,.num 128),(su zB,zA),(zC,zB)] zC (.num 524288) rfl htl hilt hsl2) fun K9 h9 tk9 o4d vs sv' n9 z17 z18 z19 hK9 S9 hvs e4d hsv'=>?_
  have e:=InJ.mk (prog:=prog) (w:=w) (x0:=x0) (x1:=x1) (x2:=x2) (x3:=x3) (x4:=x4) (x5:=x5) (x6:=x6) (x7:=x7) (x8:=x8) (x9:=x9) (x11:=x11) (x12:=x12) (x13:=x13) (x14:=x14) (x15:=x15) (x16:=some (.int st ts)) (x20:=x20) (L:=L) (P:=P) (p1:=p1) (o1:=o1) (o2:=o2) (o3:=o3) (o6:=o6) (o7:=o7) (o8:=o8) (pre:=pre) (tb:=tb) (st:=st)
   (i+1) K9 (pvs++vs) n9 o4d o5c sv' _ z17 z18 z19 e4d e5c (by rw [post_step hp];exact (hpvs.imp fun _ _ q=>rStr.mono hK9 q).app hvs) (by
    rw [length_append]
    have hv1:vs.length≤1:=by rw [hvs.length];split <;> simp
    exact Nat.add_le_add hpvl hv1) (by rw [sent_step hp];exact hsv')
  rw [←append_assoc] at e
  exact fin7 K9 _ _ h9 tk9 hK9 e S9
 ·intro K7 m7 led7 h7 tk7 hK7 hq S7
  rw [length_map] at hq
  exact c K7 m7 led7 h7 tk7 (hK6.trans hK7) hq S7
theorem look_find {T:List (Int×DS)}{k:Int}(e:(T.find? (fun e=>decide (e.1=k))).isSome=true):T.find? (fun e=>decide (e.1=k))=some (k,(lookD T k).getD []):=by
 cases hq:lookD T k with
 | some a=>exact find_look hq
 | none=>
  unfold lookD at hq
  rw [Option.map_eq_none_iff.mp hq] at e;cases e
theorem look_none {T:List (Int×DS)}{k:Int}(e:¬(T.find? (fun e=>decide (e.1=k))).isSome=true):[]=(lookD T k).getD []:=by
 unfold lookD
 cases hq:T.find? (fun e=>decide (e.1=k)) with
 | none=>rfl
 | some a=>rw [hq] at e;exact absurd rfl e
theorem w_cmp {vs:List (Option Value)}{k:Nat}{o4:Obj}{sv tv:Value}{st:Int}{ts:Tok}{sent:DS}{T:List (Int×DS)}{Q:Flow→Shared→Prop}(B:Mod base)(hb:Sub base K)(hA:OkA A (k+4))(S:St O K (enL qn L f cd).locals (loc lwN vs) led h)
  (h15:vs[15]?=some (some tv))(h16:vs[16]?=some (some (.int st ts)))(h4:led[5]?=some ((L+4:Nat),o4))(e4:o4.data = .cell (some sv))(rsv:(rDS prog w).r K sv sent)(rt:(rDict (intKind prog w) (rDS prog w)).r K tv T)
  (hl:sent.length=((lookD T (256+st)).getD []).length)(hsub:∀p∈sent,p∈(lookD T (256+st)).getD [])
  (c:∀K' h' tk',Sub K K'→St O K' (enL qn L f cd).locals (loc lwN vs) led h'→Q .next (sh s h' tk')):wpAny (model prog w) A (execs (for15.drop 2) (enL qn L f cd)) Q E (sh s h tk):=
 if_nox (tx_ned hA.cu (gx_v S (gv_c (S.at 5 h4) e4 rsv)) (fun K' h' hK S'=>gx_if (R:=rDS prog w) (ts_at S'.stays (gv_add gv_i (gv_n S' 16 lwN_nd ⟨ts,rfl⟩ rfl h16)) (gv_n S' 15 lwN_nd ((rDict (intKind prog w) (rDS prog w)).mono hK rt) rfl h15) int_key)
  (fun e=>gx_v S' (gv_at (R:=rDS prog w) S'.stays (gv_n S' 15 lwN_nd ((rDict (intKind prog w) (rDS prog w)).mono hK rt) rfl h15) (gv_add gv_i (gv_n S' 16 lwN_nd ⟨ts,rfl⟩ rfl h16)) int_key (look_find e)))
  (fun e=>gx_eq (gx_dict0 B (hb.trans hK) S') (look_none e))) hl hsub) fun K' h' tk' hK S'=>wpAny_execs_nil (c K' h' tk' hK S')
inductive OutJ (x0 x1 x2 x3 x4 x5 x6 x7 x8 x9 x11 x12 x13 x14 x15 x20:Option Value)(L P:Addr)(o1 o2 o3 o6 o7 o8:Obj)(tb:DS):Nat→Heap→(Str→Option Value)→List (Addr×Obj)→Prop
 | mk (j:Nat) (K:Heap) (pvs:List Value) (n:Nat) (o4 o5:Obj) (w4 w5 x16 x17 x18 x19:Option Value):o4.data = .cell w4→o5.data = .cell w5→All2 (rStr.r K) pvs ((thr.take j).flatMap (postOf tb))→pvs.length≤128*j→
   OutJ x0 x1 x2 x3 x4 x5 x6 x7 x8 x9 x11 x12 x13 x14 x15 x20 L P o1 o2 o3 o6 o7 o8 tb j K (loc lwN [x0,x1,x2,x3,x4,x5,x6,x7,x8,x9,some (.ref P),x11,x12,x13,x14,x15,x16,x17,x18,x19,x20]) ((P,lo pvs.toArray n)::cl8 L o1 o2 o3 o4 o5 o6 o7 o8)
theorem w_loop {x0 x1 x2 x3 x4 x5 x6 x7 x8 x9 x11 x12 x13 x14 x16 x17 x18 x19 x20:Option Value}{o1 o2 o3 o4 o5 o6 o7 o8:Obj}{P:Addr}{k:Nat}{Q:Flow→Shared→Prop}{bv tv:Value}{w4 w5:Option Value}{tb:DS}{other:Int}{word:Str}{rules sender:List (List Int)}(W:Wd other word)(g:Gram other rules)(sn:Sends rules sender)
  (B:Mod base)(PP:Pats base)(hb:Sub base K)(hA:OkA A (k+4))
  (S:St O K (enL qn L f cd).locals (loc lwN [x0,x1,x2,x3,x4,x5,x6,x7,x8,x9,some (.ref P),x11,x12,x13,x14,some tv,x16,x17,x18,x19,x20]) ((P,lo ([]:List Value).toArray 0)::cl8 L o1 o2 o3 o4 o5 o6 o7 o8) h)
  (e3:o3.data = .cell (some bv))(rb:(rDict (intKind prog w) (rDS prog w)).r K bv (tablesOf (bareM other word) rules))(rt:(rDict (intKind prog w) (rDS prog w)).r K tv (tablesOf (markM other word) sender))
  (hT:lookD (tablesOf (bareM other word) rules) 256=some tb)(e4:o4.data = .cell w4)(e5:o5.data = .cell w5)(hP:@LE.le Nat _ O.B.objs.size P)
  (c:∀K' h' tk' o4' o5' w5' x16 x17 x18 x19,Sub K K'→St O K' (enL qn L f cd).locals (loc lwN [x0,x1,x2,x3,x4,x5,x6,x7,x8,x9,some (.ref P),x11,x12,x13,x14,some tv,x16,x17,x18,x19,x20]) (cl8 L o1 o2 o3 o4' o5' o6 o7 o8) h'→(rList rStr).r K' (.ref P) (thr.flatMap (postOf tb))→o5'.data = .cell w5'→Q .next (sh s h' tk')) :
  wpAny (model prog w) A (exec (bodyL.getD 15 (.Pass ⟨0,0,0,0⟩)) (enL qn L f cd)) Q E (sh s h tk):=by
 have htl:=tb_len W g sn hT
 have hts:=fun p hp=>nT (tb_small W g sn hT p hp).1 (by decide:32≤2 ^ 10)
 have hgt:=fun p (hp:p∈tb)=>(tb_rep W g sn hT).get hp
 have eqs:∀st∈thr,(sentOf tb st).length=((lookD (tablesOf (markM other word) sender) (256+st)).getD []).length∧∀p∈sentOf tb st,p∈(lookD (tablesOf (markM other word) sender) (256+st)).getD []:=fun st hst=>
  ⟨(sent_rep2 W g sn hT hst).eq_len (tables_rep (markM other word) sender (256+st)),(sent_rep2 W g sn hT hst).sub (tables_rep (markM other word) sender (256+st))⟩
 obtain⟨T,hTe⟩:∃T,T=tablesOf (markM other word) sender:=⟨_,rfl⟩
 obtain⟨T0,hT0⟩:∃T,T=tablesOf (bareM other word) rules:=⟨_,rfl⟩
 rw [←hTe] at eqs rt
 rw [←hT0] at rb hT
 clear hTe hT0 W g sn
 refine for_ex ((gi_range (n:=3) B hb hA S gv_i (.inr (.inl rfl))) _ _ _ fun K1 h1 tk1 Io obo hK1 S1 src=>?_)
 have src':Src prog w A K1 h1 Io rInt thr:=src
 refine for_goE S1 src' (OutJ x0 x1 x2 x3 x4 x5 x6 x7 x8 x9 x11 x12 x13 x14 (some tv) x20 L P o1 o2 o3 o6 o7 o8 tb) (.mk 0 K1 [] 0 o4 o5 w4 w5 _ _ _ _ e4 e5 .nil (Nat.zero_le _)) ?_ ?_
 ·clear c S S1 src src' e4 e5
  intro j st sv0 K2 m2 led2 h2 tk2 ob2 E2 Q2 hj hq1 hK2 hq2 S2 fin2
  obtain⟨ts,rfl⟩:=hq1
  obtain⟨pre,n,o4,o5,w4,w5,x16,x17,x18,x19,e4,e5,hpre,hpl⟩:=hq2
  have hst:st∈thr:=mem_of_getElem? hj
  have hj3:j<3:=(List.getElem?_eq_some_iff.mp hj).1
  have hb2:=hb.trans (hK1.trans hK2)
  have rt2:=(rDict (intKind prog w) (rDS prog w)).mono (hK1.trans hK2) rt
  refine as_n S2 16 lwN_nd fun h3 tk3 S3=>wpAny_execs_cons (wpAny_Assign_Name (gx_dict0 (R:=rInt) (knd:=PySem.strKind prog w) B hb2 S3 _ _ _ fun K4 h4 tk4 v4 hK4 S4 hv4=>stc S4 (i:=5) rfl e4 fun o4a h5 e4a S5=>?_))
  clear S2 S3 S4
  refine wpAny_execs_cons (w_in (k:=k) B PP (hb2.trans hK4) hA htl hts hgt (lq [_,_] [(1,zA,.mulL 128 zB),(128,su zB,.num 3)] 1 zA (.num 1024) rfl hpl hj3) S5 e3 ((rDict (intKind prog w) (rDS prog w)).mono ((hK1.trans hK2).trans hK4) rb) hT e4a hv4 e5 fun K7 m7 led7 h7 tk7 hK7 hq S7=>?_)
  obtain⟨pvs,n7,o4b,o5b,sv,w5b,y17,y18,y19,e4b,e5b,hpvs,hpvl,hsv⟩:=hq
  rw [take_length] at hpvs hsv
  refine w_cmp (k:=k) B ((hb2.trans hK4).trans hK7) hA S7 rfl rfl rfl e4b hsv ((rDict (intKind prog w) (rDS prog w)).mono (hK4.trans hK7) rt2) (eqs st hst).1 (eqs st hst).2 fun K8 h8 tk8 hK8 S8=>?_
  have hK28:=(hK4.trans hK7).trans hK8
  exact fin2 K8 _ _ h8 tk8 hK28 (.mk (j+1) K8 (pre++pvs) n7 o4b o5b _ _ _ _ _ _ e4b e5b (by
   rw [flat_take _ _ hj]
   exact (hpre.imp fun _ _ q=>rStr.mono hK28 q).app (hpvs.imp fun _ _ q=>rStr.mono hK8 q)) (by rw [length_append];exact lp [_,_,_,_] [(zA,.num 128),(zB,.mulL 128 zC),(zD,zA)] (.add zB zD) (.mulL 128 (su zC)) rfl htl hpl hpvl)) S8
 ·intro K2 m2 led2 h2 tk2 hK2 hq S2
  obtain⟨pvs,n,o4,o5,w4,w5,y16,y17,y18,y19,e4,e5,hpvs,hpl⟩:=hq
  rw [take_length] at hpvs
  obtain⟨K3,hK3,S3,r⟩:=S2.freezeL hP hpvs
  exact c K3 h2 tk2 o4 o5 w5 y16 y17 y18 y19 ((hK1.trans hK2).trans hK3) S3 r e5
end
end Mine
namespace Mine
section
variable {R:Rel α}
theorem end_item {value slice:Expr}{v:Value}{ys:List α}{b:Bool}{x:α}{t:Tok}{Q:Value→Shared→Prop}(S:St O K L m led h)(r:(rList R).r K v ys)(hx:ys[if b=true then 0 else ys.length - 1]?=some x)
  (c:∀u,R.r K u x→Q u (sh s h tk))
  (hs:∀a i u,subscripted slice false (.ref a) (.int i u)=operate [.ref a,.int i u] (getItem (.ref a) (.int i u)):=by intro _ _ _;with_unfolding_all rfl) :
  wpAny (model prog w) A (subscriptTail value slice v (.int (if b=true then 0 else -1) t)) Q E (sh s h tk):=by
 obtain⟨a,vs,n,rfl,ha,hvx⟩:=r
 cases b with
 | true=>
  rw [if_pos rfl] at hx ⊢
  obtain⟨u,hu,hr⟩:=hvx.get hx
  exact item_lstR S ha (by decide) (by decide) hu (c u hr) (hs _ _ _)
 | false=>
  rw [if_neg (by simp)] at hx ⊢
  obtain⟨u,hu,hr⟩:=hvx.get hx
  exact item_lastR (S.stays _ _ ha) (by rw [hvx.length];exact hu) (c u hr) (hs _ _ _)
theorem eq_ints {va vb:Value}{xs:List Int}{Q:Value→Shared→Prop}(hu:A.units<cLine)(S:St O K L m led h)(ra:(rList rInt).r K va xs)(rb:(rList rInt).r K vb xs)(q:Q (.bool true) (sh s h tk)) :
  wpAny (model prog w) A (compareOp .Eq va vb) Q E (sh s h tk):=by
 obtain⟨a,vs,n,rfl,ha,hx⟩:=ra
 obtain⟨b,us,n2,rfl,hb,hy⟩:=rb
 have hl:vs.toArray.size=us.toArray.size:=by rw [size_toArray,size_toArray,hx.length,hy.length]
 refine PySem.P.eq_list (s:=sh s h tk) (e:=fun _=>true) (S.stays _ _ ha) (S.stays _ _ hb) hl (fun j h1 h2=>?_) hu ?_
 ·have h1':j<vs.length:=by simpa using h1
  have h2':j<us.length:=by simpa using h2
  obtain⟨i1,e1,t1,q1⟩:=hx.getL (i:=j) (a:=vs[j]) (getElem?_eq_getElem h1')
  obtain⟨i2,e2,t2,q2⟩:=hy.getL (i:=j) (a:=us[j]) (getElem?_eq_getElem h2')
  have:i1=i2:=by rw [e1] at e2;exact Option.some.inj e2
  subst this
  show PySem.MeetsSeq.EqGives vs[j] us[j] true
  rw [q1,q2]
  have:=PySem.MeetsSeq.EqGives.int i1 i1 t1 t2
  rwa [beq_self_eq_true] at this
 ·have:(List.range vs.toArray.size).all (fun _=>true)=true:=by simp
  rw [this];exact q
theorem pair_fun {K:Heap}{v:Value}{x y:Str×Int}(a:(rTup2 rStr rInt).r K v x)(b:(rTup2 rStr rInt).r K v y):x=y:=by
 obtain⟨T,p,q,rfl,hT,⟨t1,rfl⟩,⟨t2,rfl⟩⟩:=a
 obtain⟨T',p',q',e,hT',⟨t3,e1⟩,⟨t4,e2⟩⟩:=b
 cases e
 rw [hT] at hT'
 injection hT' with hT'
 injection hT' with _ _ h3
 injection h3 with h3 _
 have h4:(#[Value.str x.1 t1,Value.int x.2 t2]:Array Value)=#[p',q']:=h3
 rw [e1,e2] at h4
 have h5:=congrArg Array.toList h4
 simp at h5
 exact Prod.ext h5.1.1 h5.2.1
theorem in_pairs {k:Nat}{vb vx:Value}{rows:List (Str×Int)}{x:Str×Int}{Q:Value→Shared→Prop}(hA:OkA A (k+2))(S:St O K L m led h)(rb:(rList (rTup2 rStr rInt)).r K vb rows)(rx:(rTup2 rStr rInt).r K vx x)(hx:x∈rows)
  (q:Q (.bool true) (sh s h tk)):wpAny (model prog w) A (compareOp .In vx vb) Q E (sh s h tk):=by
 classical
 obtain⟨a,vs,n,rfl,ha,hvs⟩:=rb
 refine PySem.SeqAt.in_listAt (s:=sh s h tk) (items:=vs.toArray) (fun y=>decide ((rTup2 rStr rInt).r K y x)) ⟨_,S.stays _ _ ha,rfl,n,rfl⟩ (fun y hy=>?_) ?_
 ·have hy':y∈vs:=by simpa using hy
  obtain⟨i,hi,rfl⟩:=mem_iff_getElem.mp hy'
  obtain⟨row,hrow,rrow⟩:=hvs.getL (i:=i) (a:=vs[i]) (getElem?_eq_getElem hi)
  have hd:decide ((rTup2 rStr rInt).r K vs[i] x)=(row.1 == x.1&&(row.2 == x.2)):=by
   by_cases e:row=x
   ·subst e
    rw [decide_eq_true rrow];simp
   ·rw [decide_eq_false fun r=>e (pair_fun rrow r)]
    symm
    rw [Bool.and_eq_false_iff]
    by_cases e1:row.1=x.1
    ·right
     exact beq_eq_false_iff_ne.mpr fun e2=>e (Prod.ext e1 e2)
    ·left;exact beq_eq_false_iff_ne.mpr e1
  rw [hd]
  obtain⟨T,p1,p2,e,hT,⟨t1,e1⟩,⟨t2,e2⟩⟩:=rrow
  obtain⟨T',p1',p2',rfl,hT',⟨t1',e1'⟩,⟨t2',e2'⟩⟩:=rx
  rw [e]
  by_cases hne:T=T'
  ·subst hne
   rw [hT] at hT'
   injection hT' with hT'
   injection hT' with _ _ h3
   injection h3 with h3 _
   have h5:=congrArg Array.toList (h3:(#[p1,p2]:Array Value)=#[p1',p2'])
   simp at h5
   rw [e1,e1'] at h5
   rw [e2,e2'] at h5
   simp at h5
   rw [h5.1.1,h5.2.1,beq_self_eq_true,beq_self_eq_true]
   exact PySem.SeqAt.EqAt.same _
  ·refine PySem.SeqAt.EqAt.of_refs hne ?_
   have hl:(sh s h tk).heap.IsTuple T #[p1,p2]:=⟨_,S.stays _ _ hT,rfl,0,rfl⟩
   have hl':(sh s h tk).heap.IsTuple T' #[p1',p2']:=⟨_,S.stays _ _ hT',rfl,0,rfl⟩
   have:=PySem.SeqAt.RcAt.tuples (A:=A.in1) (s:=sh s h tk) (e:=fun j=>if j=0 then row.1 == x.1 else row.2 == x.2) hl hl' hA.in1.cu (fun j h1 h2=>?_)
   ·have e3:((List.range (min (#[p1,p2]:Array Value).size (#[p1',p2']:Array Value).size)).all (fun j=>if j=0 then row.1 == x.1 else row.2 == x.2)&&(#[p1,p2]:Array Value).size == (#[p1',p2']:Array Value).size)=(row.1 == x.1&&(row.2 == x.2)):=by
     show (((row.1 == x.1)&&((row.2 == x.2)&&true))&&true)=_
     simp
    rw [e3] at this
    exact this
   ·match j,h1,h2 with
    | 0,_,_=>
     show PySem.SeqAt.EqAt _ _ p1 p1' _
     rw [e1,e1',if_pos rfl]
     exact PySem.SeqAt.EqAt.str_str _ _ _ _
    | 1,_,_=>
     show PySem.SeqAt.EqAt _ _ p2 p2' _
     rw [e2,e2',if_neg (by decide)]
     exact PySem.SeqAt.EqAt.int_int _ _ _ _
 ·have:vs.toArray.any (fun y=>decide ((rTup2 rStr rInt).r K y x))=true:=by
   obtain⟨v,hv,hr⟩:=hvs.mem hx
   rw [←Array.any_toList]
   exact any_eq_true.mpr ⟨v,by simpa using hv,decide_eq_true hr⟩
  rw [this];exact q
end
end Mine
namespace Mine
section
variable {R:Rel α}
theorem way_at {x:Str}{q1 q2 q3:Pos}{kk:Nat}{wv:Value}{w0 w1:Int}{j:Nat}{Q:Value→Shared→Prop}(S:St O K L m led h)(r:(rList rInt).r K wv [w0,w1])(hj:j<2)
  (ho:∀Q',Q' wv (sh s h tk)→wpAny (model prog w) A (eval (.Name x q1) env) Q' E (sh s h tk))(c:∀t tk',Q (.int (if j=0 then w0 else w1) t) (sh s h tk'))
  (hg:∀o r,letTemporaryGo (.Name x q1) o r=pure ():=by intro _ _;with_unfolding_all rfl)
  (hs:∀o i,subscripted (.Constant (.int (j:Int)) kk q2) false o i=operate [o,i] (getItem o i):=by intro _ _;with_unfolding_all rfl) :
  wpAny (model prog w) A (eval (.Subscript (.Name x q1) (.Constant (.int (j:Int)) kk q2) q3) env) Q E (sh s h tk):=by
 obtain⟨a,vs,n,rfl,ha,hx⟩:=r
 obtain⟨u,hu,⟨t,rfl⟩⟩:=hx.get (i:=j) (b:=if j=0 then w0 else w1) (by
  match j,hj with
  | 0,_=>rfl
  | 1,_=>rfl)
 exact Subscript_ (ho _ (wpAny_Constant_int (item_lst S ha (k:=(j:Int)) (Int.natCast_nonneg _) (lw [_] [(si iA,.num 2)] (si iA) (.num 9223372036854775808) rfl (cnL hj)) (by simpa using hu) (c _ _) (hs _ _) (hg _))))
theorem w_judge {x0 x1 x2 x3 x4 x5 x6 x7 x9 x10 x11 x12 x13 x14 x15 x16 x17 x18 x19 x20:Option Value}{o1 o2 o3 o4 o5 o6 o7 o8:Obj}{k:Nat}{w6:Option Value}{Q:Flow→Shared→Prop}{wv:Value}{w0 w1:Int}(B:Mod base)(C:Cls base)(hb:Sub base K)(hA:OkA A (k+4))(S:St O K (enL qn L f cd).locals (loc lwN [x0,x1,x2,x3,x4,x5,x6,x7,some wv,x9,x10,x11,x12,x13,x14,x15,x16,x17,x18,x19,x20]) (cl8 L o1 o2 o3 o4 o5 o6 o7 o8) h)
  (rw_:(rList rInt).r K wv [w0,w1])(e6:o6.data = .cell w6)
  (c:∀K' h' tk' o6' j,Sub K K'→St O K' (enL qn L f cd).locals (loc lwN [x0,x1,x2,x3,x4,x5,x6,x7,some wv,x9,x10,x11,x12,x13,x14,x15,x16,x17,x18,x19,x20]) (cl8 L o1 o2 o3 o4 o5 o6' o7 o8) h'→o6'.data = .cell (some j)→rJudge.r K' j [(1,w0),(0,w1)]→Q .next (sh s h' tk')) :
  wpAny (model prog w) A (exec (bodyL.getD 16 (.Pass ⟨0,0,0,0⟩)) (enL qn L f cd)) Q E (sh s h tk):=by
 refine wpAny_Assign_Name ?_
 refine Call_ (gl_ref (a:=72) B (hb.trans S.stays) (cw_cls C (hb.trans S.stays) ?_))
 refine tup_lit (R:=rTup2 rInt rInt) (args_cons ?_)
 refine tup2_lit (R:=rInt) (R':=rInt) (wpAny_Constant_int ?_)
 refine way_at (j:=0) S rw_ (by decide) (fun Q' hq=>ld S 8 lwN_nd hq) fun t1 tk1=>?_
 refine⟨_,K,_,_,_,h,_,1,w0,rfl,S,⟨_,rfl⟩,⟨_,rfl⟩,fun K1 h1 v1 hK1 S1 hv1=>?_⟩
 refine args_cons ?_
 refine tup2_lit (R:=rInt) (R':=rInt) (wpAny_Constant_int ?_)
 refine way_at (j:=1) S1 ((rList rInt).mono hK1 rw_) (by decide) (fun Q' hq=>ld S1 8 lwN_nd hq) fun t2 tk2=>?_
 refine⟨_,K1,_,_,_,h1,_,0,w1,rfl,S1,⟨_,rfl⟩,⟨_,rfl⟩,fun K2 h2 v2 hK2 S2 hv2=>?_⟩
 refine args_nil ⟨_,K2,_,_,_,h2,_,[(1,w0),(0,w1)],rfl,S2,.cons ((rTup2 rInt rInt).mono hK2 hv1) (.cons hv2 .nil),by simp,fun K3 h3 v3 hK3 S3 hv3=>?_⟩
 have hK13:=hK1.trans (hK2.trans hK3)
 refine⟨(hb.trans hK13).trans S3.stays,?_⟩
 refine judge_make (k:=k+1) B C (hb.trans hK13) S3.stays hA hv3 fun K4 h4 tk4 j g4 hj=>?_
 have S4:=S3.grow g4
 exact stc S4 (i:=5) rfl e6 fun o' h5 e5 S5=>c K4 h5 _ o' j (hK13.trans g4.kk) S5 e5 hj
theorem w_first {x0 x1 x2 x3 x4 x5 x6 x7 x10 x11 x12 x15 x16 x17 x18 x19 x20:Option Value}{o1 o2 o3 o4 o5 o6 o7 o8:Obj}{k:Nat}{w7:Option Value}{Q:Flow→Shared→Prop}{wv vn vm fv j:Value}{w0 w1:Int}{other:Int}{word:Str}{rules sender:List (List Int)}(W:Wd other word)(g:Gram other rules)(sn:Sends rules sender)(hw0:w0≠0)(hw1:w1≠0)
  (B:Mod base)(C:Cls base)(hb:Sub base K)(hA:OkA A (k+4))(S:St O K (enL qn L f cd).locals (loc lwN [x0,x1,x2,x3,x4,x5,x6,x7,some wv,some fv,x10,x11,x12,some vn,some vm,x15,x16,x17,x18,x19,x20]) (cl8 L o1 o2 o3 o4 o5 o6 o7 o8) h)
  (rw_:(rList rInt).r K wv [w0,w1])(rn:(rList (rList rInt)).r K vn sender)(rm:(rDict (intKind prog w) rStr).r K vm (markM other word))(e6:o6.data = .cell (some j))(rj:rJudge.r K j [(1,w0),(0,w1)])(e7:o7.data = .cell w7)
  (c:∀K' h' tk' o7' v,Sub K K'→St O K' (enL qn L f cd).locals (loc lwN [x0,x1,x2,x3,x4,x5,x6,x7,some wv,some fv,x10,x11,x12,some vn,some vm,x15,x16,x17,x18,x19,x20]) (cl8 L o1 o2 o3 o4 o5 o6 o7' o8) h'→o7'.data = .cell (some v)→(rDict (intKind prog w) (rTup2 rStr rInt)).r K' v (firstOf (markM other word) w0 w1 sender)→Q .next (sh s h' tk')) :
  wpAny (model prog w) A (exec (bodyL.getD 17 (.Pass ⟨0,0,0,0⟩)) (enL qn L f cd)) Q E (sh s h tk):=by
 refine wpAny_Assign_Name ?_
 refine Call_ (gl_ref (a:=150) B (hb.trans S.stays) (cw_fn (B.fns (150,71) (by decide)) ?_))
 refine args_cons (ld S 13 lwN_nd (args_cons (ld S 14 lwN_nd (args_cons (ldc S (i:=5) rfl e6 (args_cons (ld S 8 lwN_nd (args_cons (ld S 9 lwN_nd (args_nil ⟨hb.trans S.stays,?_⟩))))))))))
 refine first_call (k:=k+2) B C hb S.stays hA rn rm rj rw_ ((send_ok W g sn).first hw0 hw1) fun K1 h1 tk1 v1 g1 hv1=>?_
 have S1:=S.grow g1
 exact stc S1 (i:=6) rfl e7 fun o' h5 e5 S5=>c K1 h5 _ o' v1 g1.kk S5 e5 hv1
theorem w_size {x0 x1 x2 x3 x4 x5 x6 x7 x9 x11 x12 x13 x14 x15 x16 x17 x18 x19 x20:Option Value}{o1 o2 o3 o4 o5 o6 o7 o8:Obj}{k:Nat}{w8:Option Value}{Q:Flow→Shared→Prop}{wv pv:Value}{w0 w1:Int}{ps:List Str}(hps:ps.length≤2 ^ 10)(hpl:∀m∈ps,m.length≤64)(hw0:w0≠0)(hw1:w1≠0)(hne:ps≠[])
  (B:Mod base)(hb:Sub base K)(hA:OkA A (k+4))(S:St O K (enL qn L f cd).locals (loc lwN [x0,x1,x2,x3,x4,x5,x6,x7,some wv,x9,some pv,x11,x12,x13,x14,x15,x16,x17,x18,x19,x20]) (cl8 L o1 o2 o3 o4 o5 o6 o7 o8) h)
  (rw_:(rList rInt).r K wv [w0,w1])(rp:(rList rStr).r K pv ps)(e8:o8.data = .cell w8)
  (c:∀K' h' tk' o8' t size,Sub K K'→St O K' (enL qn L f cd).locals (loc lwN [x0,x1,x2,x3,x4,x5,x6,x7,some wv,x9,some pv,x11,x12,x13,x14,x15,x16,x17,x18,x19,x20]) (cl8 L o1 o2 o3 o4 o5 o6 o7 o8') h'→o8'.data = .cell (some (.int size t))→ps.filter (fun m=>decide ((m.length:Int)=size))≠[]→
   (∀zs:List Str,zs.Perm (ps.filter fun m=>decide ((m.length:Int)=size))→zs.Pairwise (fun x y=>¬y.cps.toList<x.cps.toList)→
    ∃text,zs[if decide (w1>0)=true then 0 else zs.length - 1]?=some text∧text∈ps∧size=(text.length:Int)∧∀m∈ps,¬bef w0 w1 m text)→Q .next (sh s h' tk')) :
  wpAny (model prog w) A (exec (bodyL.getD 18 (.Pass ⟨0,0,0,0⟩)) (enL qn L f cd)) Q E (sh s h tk):=by
 refine wpAny_Assign_Name (Subscript_ ?_)
 refine Call_ (gl_blt (v:=.builtin "sorted") B (hb.trans S.stays) (cw_blt (args_cons ?_)))
 refine comp_list (Ra:=rStr) (Rb:=rInt) (fun _=>true) (fun m=>(m.length:Int)) rfl (by decide) rfl (by decide) (by decide) ?_ (fun _=>rfl)
 refine ld S 10 lwN_nd (iter_list hA S rp fun I ob h1 S1 src=>?_)
 refine⟨_,K,_,_,_,I,ob,h1,_,ps,rfl,rfl,lp [_] [(zA,.num 1024)] zA (.num 16777216) rfl hps,S1,src,⟨?_,?_⟩,fun v K' h' tk' S6 hK6 hv=>?_⟩
 ·rintro a v K1 C led1 h6 tk6 Q' E' ha r hK hC S6 q
  exact tests0 (q K1 h6 tk6 (Sub.refl _) S6)
 ·rintro a v K1 C led1 h6 tk6 Q' E' ha hp ⟨t,rfl⟩ hK hC S6 q
  have hs6:Sub base h6:=hb.trans (hK.trans S6.stays)
  have hal:=hpl a ha
  have hlt63:¬((a.length:Nat):Int)≥2 ^ 63:=Int.not_le.2 (lw [_] [(iA,.num 64)] (si iA) (.num 9223372036854775808) rfl (cnL hal))
  refine Call_ (gl_blt (env:=compEnvC _ _ C (enL qn L f cd)) (v:=.builtin "len") B hs6 (cw_blt (args_cons (ld (env:=compEnvC _ _ C (enL qn L f cd)) S6 0 (by simp) (args_nil (PyProof.Rows.len_str hlt63 ?_))))))
  exact q _ K1 h6 _ (Sub.refl _) S6 ⟨_,rfl⟩
 ·rw [filter_eq_self.mpr (fun _ _=>rfl)] at hv
  refine args_nil (sorted_ints (k:=k+1) hA S6 hv (by rw [length_map];exact lp [_] [(zA,.num 1024)] zA (.num 1048576) rfl hps) fun K7 h7 tk7 v7 ys hK7 S7 hv7 hp hs=>?_)
  obtain⟨size,z1,z2,z3⟩:=pick_first hw0 hw1 hne hp hs
  have hK67:=hK6.trans hK7
  refine wpAny_IfExp ?_
  refine wpAny_isTrue_Compare1 (way_at (j:=0) S7 ((rList rInt).mono hK67 rw_) (by decide) (fun Q' hq=>ld S7 8 lwN_nd hq) fun t8 tk8=>?_)
  refine wpAny_Constant_int (PyProof.Rows.gt_int (wpAny_truthy_bool ?_))
  have fin:∀h9 tk9 t9,h9=h7→wpAny (model prog w) A (subscriptTail (match bodyL.getD 18 (.Pass ⟨0,0,0,0⟩) with | .Assign _ (.Subscript v _ _) _=>v|_=>.Name "" ⟨0,0,0,0⟩) (match bodyL.getD 18 (.Pass ⟨0,0,0,0⟩) with | .Assign _ (.Subscript _ sl _) _=>sl|_=>.Name "" ⟨0,0,0,0⟩) v7 (.int (if decide (w0>0)=true then 0 else -1) t9))
    (fun v s₁=>wpAny (model prog w) A (storeName (enL qn L f cd) "size" v) (fun _=>Q .next) E s₁) E (sh s h9 tk9):=by
   rintro h9 tk9 t9 rfl
   refine end_item S7 hv7 z1 fun u hu=>?_
   obtain⟨t10,rfl⟩:=hu
   exact stc S7 (i:=7) rfl e8 fun o' h5 e5 S5=>c K7 h5 _ o' t10 size hK67 S5 e5 z2 z3
  by_cases hw:w0>0
  ·rw [decide_eq_true (show (0:Int)<if (0:Nat)=0 then w0 else w1 from hw),if_pos rfl]
   have:=fin h7 (tk8+1+1) (tk8+1) rfl
   rw [decide_eq_true hw,if_pos rfl] at this
   exact wpAny_Constant_int this
  ·rw [decide_eq_false (show ¬(0:Int)<if (0:Nat)=0 then w0 else w1 from hw),if_neg (by simp)]
   have:=fun tk9 t9=>fin h7 tk9 t9 rfl
   rw [decide_eq_false hw,if_neg (by simp)] at this
   exact UnaryOp_ (wpAny_Constant_int (PyProof.Rows.neg_int (this _ _)))
end
end Mine
namespace Mine
section
variable {R:Rel α}
theorem w_text {x0 x1 x2 x3 x4 x5 x6 x7 x9 x11 x12 x13 x14 x15 x16 x17 x18 x19 x20:Option Value}{o1 o2 o3 o4 o5 o6 o7 o8:Obj}{k:Nat}{w5:Option Value}{Q:Flow→Shared→Prop}{wv pv:Value}{w0 w1 size:Int}{t8:Tok}{ps:List Str}(hps:ps.length≤2 ^ 10)(hpl:∀m∈ps,m.length≤64)
  (B:Mod base)(hb:Sub base K)(hA:OkA A (k+4))(S:St O K (enL qn L f cd).locals (loc lwN [x0,x1,x2,x3,x4,x5,x6,x7,some wv,x9,some pv,x11,x12,x13,x14,x15,x16,x17,x18,x19,x20]) (cl8 L o1 o2 o3 o4 o5 o6 o7 o8) h)
  (rw_:(rList rInt).r K wv [w0,w1])(rp:(rList rStr).r K pv ps)(e5:o5.data = .cell w5)(e8:o8.data = .cell (some (.int size t8)))
  (pick:∀zs:List Str,zs.Perm (ps.filter fun m=>decide ((m.length:Int)=size))→zs.Pairwise (fun x y=>¬y.cps.toList<x.cps.toList)→
    ∃text,zs[if decide (w1>0)=true then 0 else zs.length - 1]?=some text∧text∈ps∧size=(text.length:Int)∧∀m∈ps,¬bef w0 w1 m text)
  (c:∀K' h' tk' o5' t text,Sub K K'→St O K' (enL qn L f cd).locals (loc lwN [x0,x1,x2,x3,x4,x5,x6,x7,some wv,x9,some pv,x11,x12,x13,x14,x15,x16,x17,x18,x19,x20]) (cl8 L o1 o2 o3 o4 o5' o6 o7 o8) h'→o5'.data = .cell (some (.str text t))→text∈ps→size=(text.length:Int)→(∀m∈ps,¬bef w0 w1 m text)→Q .next (sh s h' tk')) :
  wpAny (model prog w) A (exec (bodyL.getD 19 (.Pass ⟨0,0,0,0⟩)) (enL qn L f cd)) Q E (sh s h tk):=by
 refine wpAny_Assign_Name (Subscript_ ?_)
 refine Call_ (gl_blt (v:=.builtin "sorted") B (hb.trans S.stays) (cw_blt (args_cons ?_)))
 refine comp_list (Ra:=rStr) (Rb:=rStr) (fun m=>decide ((m.length:Int)=size)) (fun m=>m) rfl (by decide) rfl (by decide) (by decide) ?_ (fun _=>rfl)
 refine ld S 10 lwN_nd (iter_list hA S rp fun I ob h1 S1 src=>?_)
 refine⟨_,K,_,_,_,I,ob,h1,_,ps,rfl,rfl,lp [_] [(zA,.num 1024)] zA (.num 16777216) rfl hps,S1,src,⟨?_,?_⟩,fun v K' h' tk' S6 hK6 hv=>?_⟩
 ·rintro a v K1 C led1 h6 tk6 Q' E' ha ⟨t,rfl⟩ hK hC S6 q
  have hs6:Sub base h6:=hb.trans (hK.trans S6.stays)
  have hal:=hpl a ha
  have hlt63:¬((a.length:Nat):Int)≥2 ^ 63:=Int.not_le.2 (lw [_] [(iA,.num 64)] (si iA) (.num 9223372036854775808) rfl (cnL hal))
  refine tests1 (wpAny_isTrue_Compare1 ?_)
  refine Call_ (gl_blt (env:=compEnvC _ _ C (enL qn L f cd)) (v:=.builtin "len") B hs6 (cw_blt (args_cons (ld (env:=compEnvC _ _ C (enL qn L f cd)) S6 0 (by simp) (args_nil (PyProof.Rows.len_str hlt63 ?_))))))
  refine ldf (S1.inComp (i:=7) rfl S6) e8 ?_ rfl rfl rfl rfl
  refine PySem.P.eq_int (wpAny_truthy_bool ?_)
  exact q K1 h6 _ (Sub.refl _) S6
 ·rintro a v K1 C led1 h6 tk6 Q' E' ha hp r hK hC S6 q
  exact ld (env:=compEnvC _ _ C (enL qn L f cd)) S6 0 (by simp) (q _ K1 h6 tk6 (Sub.refl _) S6 r)
 ·rw [map_id'] at hv
  have hfl:=length_filter_le (fun m:Str=>decide ((m.length:Int)=size)) ps
  refine args_nil (sorted_strs (k:=k+1) hA S6 hv (lp [_,_] [(zA,.num 1024),(zB,zA)] zB (.num 1048576) rfl hps hfl) fun K7 h7 tk7 v7 zs hK7 S7 hv7 hp hs=>?_)
  obtain⟨text,z1,z2,z3,z4⟩:=pick zs hp hs
  have hK67:=hK6.trans hK7
  refine wpAny_IfExp ?_
  refine wpAny_isTrue_Compare1 (way_at (j:=1) S7 ((rList rInt).mono hK67 rw_) (by decide) (fun Q' hq=>ld S7 8 lwN_nd hq) fun t8 tk8=>?_)
  refine wpAny_Constant_int (PyProof.Rows.gt_int (wpAny_truthy_bool ?_))
  have fin:∀h9 tk9 t9,h9=h7→wpAny (model prog w) A (subscriptTail (match bodyL.getD 19 (.Pass ⟨0,0,0,0⟩) with | .Assign _ (.Subscript v _ _) _=>v|_=>.Name "" ⟨0,0,0,0⟩) (match bodyL.getD 19 (.Pass ⟨0,0,0,0⟩) with | .Assign _ (.Subscript _ sl _) _=>sl|_=>.Name "" ⟨0,0,0,0⟩) v7 (.int (if decide (w1>0)=true then 0 else -1) t9))
    (fun v s₁=>wpAny (model prog w) A (storeName (enL qn L f cd) "text" v) (fun _=>Q .next) E s₁) E (sh s h9 tk9):=by
   rintro h9 tk9 t9 rfl
   refine end_item S7 hv7 z1 fun u hu=>?_
   obtain⟨t10,rfl⟩:=hu
   exact stc S7 (i:=4) rfl e5 fun o' h5 e5 S5=>c K7 h5 _ o' t10 text hK67 S5 e5 z2 z3 z4
  by_cases hw:w1>0
  ·rw [decide_eq_true (show (0:Int)<if (1:Nat)=0 then w0 else w1 from hw),if_pos rfl]
   have:=fin h7 (tk8+1+1) (tk8+1) rfl
   rw [decide_eq_true hw,if_pos rfl] at this
   exact wpAny_Constant_int this
  ·rw [decide_eq_false (show ¬(0:Int)<if (1:Nat)=0 then w0 else w1 from hw),if_neg (by simp)]
   have:=fun tk9 t9=>fin h7 tk9 t9 rfl
   rw [decide_eq_false hw,if_neg (by simp)] at this
   exact UnaryOp_ (wpAny_Constant_int (PyProof.Rows.neg_int (this _ _)))
theorem best_map (F:FT):((thr.filter fun st=>(lookD F (256+st)).isSome).map fun st=>(lookD F (256+st)).getD (⟨#[]⟩,0))=bestOf F:=by
 unfold bestOf
 induction thr with
 | nil=>rfl
 | cons a l ih=>
  rw [filter_cons,filterMap_cons]
  cases h:lookD F (256+a) with
  | none=>simpa [h] using ih
  | some p=>simp only [Option.isSome_some,if_true,map_cons,h,Option.getD_some];rw [ih]
theorem w_best {x0 x1 x2 x3 x4 x5 x6 x7 x8 x9 x10 x11 x12 x13 x14 x15 x16 x17 x18 x19 x20:Option Value}{o1 o2 o3 o4 o5 o6 o7 o8:Obj}{k:Nat}{Q:Flow→Shared→Prop}{fv:Value}{F:FT}(B:Mod base)(hb:Sub base K)(hA:OkA A (k+4))(S:St O K (enL qn L f cd).locals (loc lwN [x0,x1,x2,x3,x4,x5,x6,x7,x8,x9,x10,x11,x12,x13,x14,x15,x16,x17,x18,x19,x20]) (cl8 L o1 o2 o3 o4 o5 o6 o7 o8) h)
  (e7:o7.data = .cell (some fv))(rf:(rDict (intKind prog w) (rTup2 rStr rInt)).r K fv F)
  (c:∀K' h' tk' v,Sub K K'→St O K' (enL qn L f cd).locals (loc lwN [x0,x1,x2,x3,x4,x5,x6,x7,x8,x9,x10,x11,x12,x13,x14,x15,x16,x17,x18,x19,some v]) (cl8 L o1 o2 o3 o4 o5 o6 o7 o8) h'→(rList (rTup2 rStr rInt)).r K' v (bestOf F)→Q .next (sh s h' tk')) :
  wpAny (model prog w) A (exec (bodyL.getD 20 (.Pass ⟨0,0,0,0⟩)) (enL qn L f cd)) Q E (sh s h tk):=by
 obtain⟨D,o,kvs,rfl,hsys,hD,hdo,hx,hnd⟩:=rDict_at rf
 refine comp_assign (Ra:=rInt) (Rb:=rTup2 rStr rInt) (y:="best") (fun st=>(lookD F (256+st)).isSome) (fun st=>(lookD F (256+st)).getD (⟨#[]⟩,0)) rfl rfl (by decide) rfl (by decide) (by decide) rfl rfl ?_ (fun _=>rfl)
 refine Call_ (gl_blt (v:=.type "range") B (hb.trans S.stays) (cw_type (args_cons (wpAny_Constant_int (args_nil ?_)))))
 refine iter_range (n:=3) hA S (.inr (.inl rfl)) fun I ob h1 tk1 S1 src hk1=>?_
 have src':Src prog w A K h1 I rInt thr:=src
 refine⟨_,K,_,_,I,ob,h1,_,_,rfl,rfl,by decide,S1,src',⟨?_,?_⟩,fun v K' h' tk' S6 hK6 hv=>?_⟩
 ·rintro a v K1 C led1 h6 tk6 Q' E' ha ⟨t,rfl⟩ hK hC S6 q
  refine tests1 (wpAny_isTrue_Compare1 (wpAny_BinOp (wpAny_Constant_int (ld (env:=compEnvC _ _ C (enL qn L f cd)) S6 0 (by simp) (PySem.P.add_int ?_)))))
  refine ldf (S1.inComp (i:=6) rfl S6) e7 ?_ rfl rfl rfl rfl
  refine in_dct (S6.stays _ _ (hK _ _ hD)) hdo hsys (intkey _ _ (256+a) _) (wpAny_truthy_bool ?_)
  have e:(valueAt kvs (256+a)).isSome=(lookD F (256+a)).isSome:=by
   rcases pr_look hx (256+a) with ⟨q1,q2⟩|⟨v8,t8,q1,q2,q3⟩
   ·rw [q1,q2];rfl
   ·rw [q1,q2];rfl
  rw [e]
  exact q K1 h6 _ (Sub.refl _) S6
 ·rintro a v K1 C led1 h6 tk6 Q' E' ha hp ⟨t,rfl⟩ hK hC S6 q
  refine Subscript_ (ldf (S1.inComp (i:=6) rfl S6) e7 ?_ rfl rfl rfl rfl)
  refine wpAny_BinOp (wpAny_Constant_int (ld (env:=compEnvC _ _ C (enL qn L f cd)) S6 0 (by simp) (PySem.P.add_int ?_)))
  obtain⟨v8,t8,q1,q2,q3⟩:=(pr_look hx (256+a)).resolve_left fun z=>by rw [z.2] at hp;exact nomatch hp
  refine item_dct (S6.stays _ _ (hK _ _ hD)) hdo (intkey _ _ (256+a) _) q1 ?_
  refine q _ K1 h6 _ (Sub.refl _) S6 ?_
  rw [q2]
  exact (rTup2 rStr rInt).mono hK q3
 ·rw [best_map] at hv
  rw [loc_set 20 (ns:=lwN) rfl lwN_nd (by simp)] at S6
  exact c K' h' tk' v hK6 S6 hv
end
end Mine
namespace Mine
noncomputable def idxB (x:Str):Bool:=(everyS[everyS.idxOf x]? == some x)&&(List.range (everyS.idxOf x)).all fun m=>everyS[m]? != some x
theorem idx_all:(signS.all idxB)=true:=by decide +kernel
section
variable {R:Rel α}
theorem index_st {o e:Expr}{apos pos:Pos}{ve:Value}{sign:Str}{ts:Tok}{Q:Value→Shared→Prop}(S:St O K L m led h)(re:(rList rStr).r K ve everyS)(hsg:sign∈signS)
  (ho:∀Q',Q' ve (sh s h tk)→wpAny (model prog w) A (eval o env) Q' E (sh s h tk))(he:∀Q':Value→Shared→Prop,Q' (.str sign ts) (sh s h tk)→wpAny (model prog w) A (eval e env) Q' E (sh s h tk))
  (c:∀t tk',Q (.int ((everyS.idxOf sign:Nat):Int) t) (sh s h tk'))
  (hbase:attributeBase o "index" env (eval o env)=eval o env:=by rfl)
  (hfew:((backTo pos (starEach [e] env)).all (fun x=>!x.1)&&(backToKw pos (keywordEach [] env)).all (fun x=>x.1.isSome)&&decide ([e].length+([]:List Keyword).length+(if ([]:List Keyword).isEmpty then 0 else 1)<30))=true:=by rfl)
  (hline:(apos.endLine == pos.line)=true:=by rfl)(hb:backTo pos (starEach [e] env)=[(false,eval e env)]:=by rfl) :
  wpAny (model prog w) A (eval (.Call (.Attribute o "index" apos) [e] [] pos) env) Q E (sh s h tk):=by
 obtain⟨l,vs,n,rfl,hl,hx⟩:=re
 refine wpAny_Call_method hbase hfew hline F.plainAttrs_list F.slot_list_index F.type_list_index (ho _ ?_)
 refine⟨⟨_,S.stays _ _ hl,rfl⟩,fun a ea=>?_,?_⟩
 ·cases ea;exact⟨_,S.stays _ _ hl,rfl⟩
 rw [hb]
 have hB:=all_eq_true.mp idx_all sign hsg
 unfold idxB at hB
 rw [Bool.and_eq_true,all_eq_true] at hB
 have h1:everyS[everyS.idxOf sign]?=some sign:=by simpa using hB.1
 have h2:∀m<everyS.idxOf sign,everyS[m]?≠some sign:=fun m hm=>by simpa using hB.2 m (mem_range.mpr hm)
 have hjl:everyS.idxOf sign<everyS.length:=(List.getElem?_eq_some_iff.mp h1).1
 have hvl:vs.length=everyS.length:=hx.length
 generalize hj:everyS.idxOf sign=j at h1 h2 hjl c
 refine PySem.P.index_list (he _ ⟨vs.toArray,n,fun y=>match y with | .str z _=>z == sign|_=>false,j,by simp;exact nT hjl (eqR hvl),S.stays _ _ hl,fun y hy=>?_,?_,?_,fun m' hm hlt=>?_,c _ _⟩)
 ·have hy':y∈vs:=by simpa using hy
  obtain⟨i,hi,rfl⟩:=mem_iff_getElem.mp hy'
  obtain⟨z,hz,t,e⟩:=hx.getL (i:=i) (a:=vs[i]) (getElem?_eq_getElem hi)
  rw [e]
  show PySem.MeetsSeq.EqGives (.str z t) (.str sign ts) (z == sign)
  have h3:=PySem.SeqRoads2.EqGives.str z sign t ts
  have h4:(z.cps.toList == sign.cps.toList)=(z == sign):=by
   by_cases q:z=sign
   ·subst q;simp
   ·rw [beq_eq_false_iff_ne.mpr q,beq_eq_false_iff_ne.mpr fun q'=>q (str_inj q')]
  rwa [h4] at h3
 ·rw [every_len] at hjl;exact lw [_] [(si iA,.num 48)] (si iA) (.sub (.num 9223372036854775808) (.num 1)) rfl (cnL hjl)
 ·obtain⟨v,hv,t,e⟩:=hx.get h1
  have:vs.toArray[j]'(by simp;exact nT hjl (eqR hvl))=v:=by
   have:=(List.getElem?_eq_some_iff.mp hv).2
   simpa using this
  rw [this,e]
  simp
 ·have hm':m'<vs.length:=by simpa using hm
  obtain⟨z,hz,t,e⟩:=hx.getL (i:=m') (a:=vs[m']) (getElem?_eq_getElem hm')
  have e':vs.toArray[m'] = .str z t:=by simpa using e
  rw [e']
  show (z == sign)=false
  exact beq_eq_false_iff_ne.mpr fun q=>h2 m' hlt (by rw [hz,q])
end
end Mine
namespace Mine
theorem count_eq {other:Int}{word:Str}{rules:List (List Int)}{A v:Int}(h:lookD (manyOf rules) A=some v):v=countD ((lookD (tablesOf (bareM other word) rules) A).getD []):=by
 rw [count_len (tables_rep (bareM other word) rules A)]
 have:=many_rel (bareM other word) rules A
 rw [h] at this
 exact this
section
variable {R:Rel α}
theorem w_return {x0 x1 x4 x8 x10 x12 x13 x14 x15 x16 x17 x18 x19:Option Value}{o1 o2 o3 o4 o5 o6 o7 o8:Obj}{k:Nat}{Q:Flow→Shared→Prop}{ve vs fv vr vbest bv j:Value}{w0 w1:Int}{t1 t2 t3 t5 t8:Tok}{sign word text:Str}{rules:List (List Int)}{best:List (Str×Int)}(hsg:sign∈signS)(W:Wd (tokV sign) word)(g:Gram (tokV sign) rules)
  (B:Mod base)(C:Cls base)(hb:Sub base K)(hA:OkA A (k+4))
  (S:St O K (enL qn L f cd).locals (loc lwN [x0,x1,some ve,some vs,x4,some (.int (tokV sign) t1),some (.int 23 t2),some (.int 52 t3),x8,some fv,x10,some vr,x12,x13,x14,x15,x16,x17,x18,x19,some vbest]) (cl8 L o1 o2 o3 o4 o5 o6 o7 o8) h)
  (re:(rList rStr).r K ve everyS)(rs:rStr.r K vs sign)(rfv:(rList rInt).r K fv [])(rr:(rList (rList rInt)).r K vr rules)(rbest:(rList (rTup2 rStr rInt)).r K vbest best)
  (e3:o3.data = .cell (some bv))(rb:(rDict (intKind prog w) (rDS prog w)).r K bv (tablesOf (bareM (tokV sign) word) rules))
  (e5:o5.data = .cell (some (.str text t5)))(e6:o6.data = .cell (some j))(rj:rJudge.r K j [(1,w0),(0,w1)])(e8:o8.data = .cell (some (.int (text.length:Int) t8)))
  (hin:(text,(text.length:Int))∈best)(hno:∀row∈best,¬told w0 w1 row (text,(text.length:Int))<0)(hbl:best.length≤3)
  (c:∀K' h' tk',Sub K K'→St O K' (enL qn L f cd).locals (loc lwN [x0,x1,some ve,some vs,x4,some (.int (tokV sign) t1),some (.int 23 t2),some (.int 52 t3),x8,some fv,x10,some vr,x12,x13,x14,x15,x16,x17,x18,x19,some vbest]) (cl8 L o1 o2 o3 o4 o5 o6 o7 o8) h'→Q (.ret (.bool true)) (sh s h' tk')) :
  wpAny (model prog w) A (exec (bodyL.getD 21 (.Pass ⟨0,0,0,0⟩)) (enL qn L f cd)) Q E (sh s h tk):=by
 obtain⟨ts,rfl⟩:=rs
 refine wpAny_Return_some ?_
 refine BoolOp_and (wpAny_Compare1 (ld S 9 lwN_nd (eq_nil (k:=k+3) hA S rfv fun h1 S1=>?_)))
 rw [decide_eq_true rfl]
 refine wpAny_truthy_bool ?_
 rw [if_pos rfl]
 refine BoolOp_and (wpAny_Compare1 ?_)
 refine list_lit (R:=rInt) (args_cons (ld S1 5 lwN_nd (args_cons (ld S1 6 lwN_nd (args_cons (ld S1 7 lwN_nd (args_nil ?_)))))))
 refine⟨_,K,_,_,_,h1,_,[tokV sign,23,52],rfl,S1,.cons ⟨_,rfl⟩ (.cons ⟨_,rfl⟩ (.cons ⟨_,rfl⟩ .nil)),by simp,fun K2 h2 v2 hK2 S2 hv2=>?_⟩
 refine list_lit (R:=rInt) (args_cons (wpAny_BinOp (wpAny_Constant_int ?_)))
 refine index_st S2 ((rList rStr).mono hK2 re) hsg (fun Q' hq=>ld S2 2 lwN_nd hq) (fun Q' hq=>ld S2 3 lwN_nd hq) fun ti tki=>?_
 refine PySem.P.add_int (args_cons (wpAny_Constant_int (args_cons (wpAny_Constant_int (args_nil ?_)))))
 refine⟨_,K2,_,_,_,h2,_,[tokV sign,23,52],rfl,S2,.cons ⟨_,rfl⟩ (.cons ⟨_,rfl⟩ (.cons ⟨_,rfl⟩ .nil)),by simp,fun K3 h3 v3 hK3 S3 hv3=>?_⟩
 refine eq_ints hA.cu S3 ((rList rInt).mono hK3 hv2) hv3 (wpAny_truthy_bool ?_)
 rw [if_pos rfl]
 have hK03:=hK2.trans hK3
 refine BoolOp_and (wpAny_Compare1 ?_)
 refine tup2_lit (R:=rStr) (R':=rInt) (ldc S3 (i:=4) rfl e5 (ldc S3 (i:=7) rfl e8 ?_))
 refine⟨_,K3,_,_,_,h3,_,text,(text.length:Int),rfl,S3,⟨_,rfl⟩,⟨_,rfl⟩,fun K4 h4 v4 hK4 S4 hv4=>?_⟩
 have hK04:=hK03.trans hK4
 refine ld S4 20 lwN_nd (in_pairs (k:=k+2) hA S4 ((rList (rTup2 rStr rInt)).mono hK04 rbest) hv4 hin (wpAny_truthy_bool ?_))
 rw [if_pos rfl]
 refine BoolOp_and (wpAny_Compare1 ?_)
 refine comp_list (Ra:=rTup2 rStr rInt) (Rb:=rTup2 rStr rInt) (fun row=>decide (told w0 w1 row (text,(text.length:Int))<0)) (fun y=>y) rfl (by decide) rfl (by decide) (by decide) ?_ (fun _=>rfl)
 refine ld S4 20 lwN_nd (iter_list hA S4 ((rList (rTup2 rStr rInt)).mono hK04 rbest) fun I ob h5 S5 src=>?_)
 refine⟨_,K4,_,_,_,I,ob,h5,_,best,rfl,rfl,lp [_] [(zA,.num 3)] zA (.num 16777216) rfl hbl,S5,src,⟨?_,?_⟩,fun v K' h' tk' S6 hK6 hv=>?_⟩
 ·rintro a v K1 C1 led1 h6 tk6 Q' E' ha r hK hC S6 q
  have hb1:=hb.trans (hK04.trans hK)
  refine tests1 (wpAny_isTrue_Compare1 ?_)
  refine call_compare C (hb1.trans S6.stays) S6 (rJudge.mono (hK04.trans hK) rj) (fun Q' hq=>ldf (S5.inComp (i:=5) rfl S6) e6 hq rfl rfl rfl rfl) ?_
  refine ld (env:=compEnvC _ _ C1 (enL qn L f cd)) S6 0 (by simp) ?_
  refine tup2_lit (R:=rStr) (R':=rInt) (ldf (S5.inComp (i:=4) rfl S6) e5 (ldf (S5.inComp (i:=7) rfl S6) e8 ?_ rfl rfl rfl rfl) rfl rfl rfl rfl)
  refine⟨_,K1,_,_,_,h6,_,text,(text.length:Int),rfl,S6,⟨_,rfl⟩,⟨_,rfl⟩,fun K7 h7 v7 hK7 S7 hv7=>?_⟩
  refine⟨(hb1.trans hK7).trans S7.stays,?_⟩
  refine compare_call (k:=k+3) B C (hb1.trans hK7) S7.stays hA (rJudge.mono (hK04.trans (hK.trans hK7)) rj) ((rTup2 rStr rInt).mono hK7 r) hv7 fun K8 h8 tk8 v8 g8 hv8=>?_
  obtain⟨t9,rfl⟩:=hv8
  have S8:=S7.grow g8
  refine wpAny_Constant_int (wpAny_lt_int (wpAny_truthy_bool ?_))
  exact q K8 h8 _ (hK7.trans g8.kk) S8
 ·rintro a v K1 C1 led1 h6 tk6 Q' E' ha hp r hK hC S6 q
  exact ld (env:=compEnvC _ _ C1 (enL qn L f cd)) S6 0 (by simp) (q _ K1 h6 tk6 (Sub.refl _) S6 r)
 rw [map_id'] at hv
 have hfe:best.filter (fun row=>decide (told w0 w1 row (text,(text.length:Int))<0))=[]:=by
  rw [filter_eq_nil_iff]
  intro row hrow
  simpa using hno row hrow
 rw [hfe] at hv
 refine eq_nil (k:=k+3) hA S6 hv fun h7 S7=>?_
 rw [decide_eq_true rfl]
 refine wpAny_truthy_bool ?_
 rw [if_pos rfl]
 have hK06:=hK04.trans hK6
 have hb6:=hb.trans hK06
 refine BoolOp_one (wpAny_Compare1 ?_)
 obtain⟨a,ha⟩:=many_some rules 256 (gram_has g (.inl rfl))
 obtain⟨b,hb'⟩:=many_some rules 257 (gram_has g (.inr (.inl rfl)))
 obtain⟨c',hc⟩:=many_some rules 258 (gram_has g (.inr (.inr rfl)))
 refine Call_ (gl_ref (a:=140) B (hb6.trans S7.stays) (cw_fn (B.fns (140,69) (by decide)) (args_cons (ld S7 11 lwN_nd (args_nil ⟨hb6.trans S7.stays,?_⟩)))))
 refine many_call (k:=k+3) B hb6 S7.stays hA ((rList (rList rInt)).mono hK06 rr) (many_ok W g) ha hb' hc fun K8 h8 tk8 v8 g8 hv8=>?_
 have S8:=S7.grow g8
 have hK08:=hK06.trans g8.kk
 have hb8:=hb.trans hK08
 refine comp_list (Ra:=rInt) (Rb:=rInt) (fun _=>true) (fun x=>countD ((lookD (tablesOf (bareM (tokV sign) word) rules) x).getD [])) rfl (by decide) rfl (by decide) (by decide) ?_ (fun _=>rfl)
 refine tup_lit (R:=rInt) (args_cons (wpAny_Constant_int (args_cons (wpAny_Constant_int (args_cons (wpAny_Constant_int (args_nil ?_)))))))
 refine⟨_,K8,_,_,_,h8,_,[256,257,258],rfl,S8,.cons ⟨_,rfl⟩ (.cons ⟨_,rfl⟩ (.cons ⟨_,rfl⟩ .nil)),by simp,fun K9 h9 v9 hK9 S9 hv9=>?_⟩
 refine iter_tup hA S9 hv9 fun I2 ob2 h10 S10 src2=>?_
 have rb9:=(rDict (intKind prog w) (rDS prog w)).mono (hK08.trans hK9) rb
 obtain⟨Db,obb,kvb,rfl,hsysb,hgb,hdb,hxb,hndb⟩:=rDict_at rb9
 refine⟨_,K9,_,_,_,I2,ob2,h10,_,[256,257,258],rfl,rfl,by simp,S10,src2,⟨?_,?_⟩,fun v K' h' tk' S11 hK11 hv11=>?_⟩
 ·rintro a v K1 C1 led1 h6 tk6 Q' E' ha r hK hC S6 q
  exact tests0 (q K1 h6 tk6 (Sub.refl _) S6)
 ·rintro a v K1 C1 led1 h6 tk6 Q' E' ha hp ⟨ta,rfl⟩ hK hC S6 q
  have hb1:=hb8.trans (hK9.trans hK)
  have ha3:a=256∨a=257∨a=258:=by simpa using ha
  obtain⟨tt,htt⟩:=tables_some (bareM (tokV sign) word) rules a (gram_has g ha3)
  obtain⟨tv,tb',htv,htb',rtb⟩:=(pr_look hxb a).resolve_left fun z=>by rw [htt] at z;exact nomatch z.2
  refine Call_ (gl_ref (env:=compEnvC _ _ C1 (enL qn L f cd)) (a:=90) B (hb1.trans S6.stays) (cw_fn (B.fns (90,9) (by decide)) (args_cons ?_)))
  refine Subscript_ (ldf (S10.inComp (i:=2) rfl S6) e3 (ld (env:=compEnvC _ _ C1 (enL qn L f cd)) S6 0 (by simp) (item_dct (S6.stays _ _ (hK _ _ hgb)) hdb (intkey _ _ a _) htv ?_)) rfl rfl rfl rfl)
  refine args_nil ⟨hb1.trans S6.stays,?_⟩
  refine count_call (k:=k+3) B hb1 S6.stays hA ((rDS prog w).mono hK rtb) fun K7 h7 tk7 v7 g7 hv7=>?_
  refine q v7 K7 h7 tk7 g7.kk (S6.grow g7) ?_
  rw [htb'];exact hv7
 rw [filter_eq_self.mpr (fun _ _=>rfl)] at hv11
 have hlist:([256,257,258].map fun x=>countD ((lookD (tablesOf (bareM (tokV sign) word) rules) x).getD []))=[a,b,c']:=by
  rw [count_eq (other:=tokV sign) (word:=word) ha,count_eq (other:=tokV sign) (word:=word) hb',count_eq (other:=tokV sign) (word:=word) hc];rfl
 rw [hlist] at hv11
 refine eq_ints hA.cu S11 ((rList rInt).mono (hK9.trans hK11) hv8) hv11 ?_
 exact c K' h' _ (hK08.trans (hK9.trans hK11)) S11
end
end Mine
namespace Mine
section
variable {R:Rel α}
theorem w_base {x0 x1 x2 x3 x4 x5 x6 x7 x8 x9 x10 x11 x12 x13 x14 x15 x16 x17 x18 x19 x20:Option Value}{o1 o2 o3 o4 o5 o6 o7 o8:Obj}{w2:Option Value}{Q:Flow→Shared→Prop}(S:St O K (enL qn L f cd).locals (loc lwN [x0,x1,x2,x3,x4,x5,x6,x7,x8,x9,x10,x11,x12,x13,x14,x15,x16,x17,x18,x19,x20]) (cl8 L o1 o2 o3 o4 o5 o6 o7 o8) h)(e2:o2.data = .cell w2)
  (c:∀K' h' tk' o2' v,Sub K K'→St O K' (enL qn L f cd).locals (loc lwN [x0,x1,x2,x3,x4,x5,x6,x7,x8,x9,x10,x11,x12,x13,x14,x15,x16,x17,x18,x19,x20]) (cl8 L o1 o2' o3 o4 o5 o6 o7 o8) h'→o2'.data = .cell (some v)→(rTup rInt).r K' v [2967,1711,392,101,2,3]→Q .next (sh s h' tk')) :
  wpAny (model prog w) A (exec (bodyL.getD 0 (.Pass ⟨0,0,0,0⟩)) (enL qn L f cd)) Q E (sh s h tk):=by
 refine wpAny_Assign_Name ?_
 refine tup_lit (R:=rInt) (args_cons (wpAny_Constant_int (args_cons (wpAny_Constant_int (args_cons (wpAny_Constant_int (args_cons (wpAny_Constant_int (args_cons (wpAny_Constant_int (args_cons (wpAny_Constant_int (args_nil ?_)))))))))))))
 refine⟨_,K,_,_,_,h,_,[2967,1711,392,101,2,3],rfl,S,.cons ⟨_,rfl⟩ (.cons ⟨_,rfl⟩ (.cons ⟨_,rfl⟩ (.cons ⟨_,rfl⟩ (.cons ⟨_,rfl⟩ (.cons ⟨_,rfl⟩ .nil))))),by simp,fun K1 h1 v1 hK1 S1 hv1=>?_⟩
 exact stc S1 (i:=1) rfl e2 fun o' h5 e5 S5=>c K1 h5 _ o' v1 hK1 S5 e5 hv1
theorem way_ne {x:Int}(h:x∈wayS):x≠0:=by
 rintro rfl;revert h;decide
theorem w_body {o1 o2 o3 o4 o5 o6 o7 o8:Obj}{k:Nat}{Q:Flow→Shared→Prop}{v:Value}{script:List Int}{w2 w3 w4 w5 w6 w7 w8:Option Value}(B:Mod base)(PP:Pats base)(C:Cls base)(X:Ex prog w base)(hb:Sub base K)(hA:OkA A (k+4))
  (S:St O K (enL qn L f cd).locals (loc lwN [none,none,none,none,none,none,none,none,none,none,none,none,none,none,none,none,none,none,none,none,none]) (cl8 L o1 o2 o3 o4 o5 o6 o7 o8) h)(rv:(rList rInt).r K v script)(hlen:script.length≤63)
  (e1:o1.data = .cell (some v))(e2:o2.data = .cell w2)(e3:o3.data = .cell w3)(e4:o4.data = .cell w4)(e5:o5.data = .cell w5)(e6:o6.data = .cell w6)(e7:o7.data = .cell w7)(e8:o8.data = .cell w8)
  (c:∀d K' h' tk' m' led',Sub K K'→St O K' (enL qn L f cd).locals m' led' h'→Q (.ret (.bool true)) (sh { s with drawn:=d } h' tk')) :
  wpAny (model prog w) A (execs bodyL (enL qn L f cd)) Q E (sh s h tk):=by
 refine wpAny_execs_cons (w_base S e2 fun K1 h1 tk1 p2 vb hK1 S1 f2 rb=>?_)
 refine wpAny_execs_cons (w_draws (k:=k+3) B (hb.trans hK1) hA S1 rfl e1 ((rList rInt).mono hK1 rv) (lp [_] [(zA,.num 63)] zA (.num 1048576) rfl hlen) f2 rb rfl fun K2 h2 tk2 vd draws hK2 S2 rd hd=>?_)
 replace S2:St O K2 (enL qn L f cd).locals (loc lwN [none,some vd,none,none,none,none,none,none,none,none,none,none,none,none,none,none,none,none,none,none,none]) (cl8 L o1 p2 o3 o4 o5 o6 o7 o8) h2:=S2
 refine wpAny_execs_cons (w_every S2 rfl fun K3 h3 tk3 ve hK3 S3 re=>?_)
 replace S3:St O K3 (enL qn L f cd).locals (loc lwN [none,some vd,some ve,none,none,none,none,none,none,none,none,none,none,none,none,none,none,none,none,none,none]) (cl8 L o1 p2 o3 o4 o5 o6 o7 o8) h3:=S3
 have rd3:=(rList rInt).mono hK3 rd
 refine wpAny_execs_cons (w_sign (k:=k+4) hA S3 rd3 hd re fun K4 h4 tk4 vs hK4 S4 rs=>?_)
 have hb0:0≤(draws.getD 3 0).fmod 46∧((draws.getD 3 0).fmod 46).toNat<46:=mod_lt (draws.getD 3 0) (n:=46) (by decide)
 have hsg:signS.getD ((draws.getD 3 0).fmod 46).toNat ⟨#[]⟩∈signS:=by
  rw [getD_eq_getElem?_getD,getElem?_eq_getElem (by rw [sign_len];exact hb0.2)]
  exact getElem_mem _
 generalize signS.getD ((draws.getD 3 0).fmod 46).toNat ⟨#[]⟩=sign at rs hsg
 have hsz:sign.length≤1000:=by
  have:∀x∈signS,x.length≤1000:=by decide +kernel
  exact this sign hsg
 refine wpAny_execs_cons (w_word (k:=k+4) hA S4 ((rList rInt).mono hK4 rd3) hd rs hsz fun K5 h5 tk5 vw hK5 S5 rw_=>?_)
 have hb1:0≤((draws.getD 3 0).fdiv 46).fmod 3∧(((draws.getD 3 0).fdiv 46).fmod 3).toNat<3:=mod_lt ((draws.getD 3 0).fdiv 46) (n:=3) (by decide)
 have hsf:sufS.getD (((draws.getD 3 0).fdiv 46).fmod 3).toNat ⟨#[]⟩∈sufS:=by
  have:∀j<3,sufS.getD j ⟨#[]⟩∈sufS:=by decide +kernel
  exact this _ hb1.2
 have W:=wd_of hsg hsf
 generalize sign++sufS.getD (((draws.getD 3 0).fdiv 46).fmod 3).toNat ⟨#[]⟩=word at rw_ W
 have hK15:=hK1.trans (hK2.trans (hK3.trans (hK4.trans hK5)))
 refine wpAny_execs_cons (w_exact (k:=k+4) B X (hb.trans hK15) hA S5 (rStr.mono hK5 rs) hsg fun h6 tk6 t1 t2 t3 S6=>?_)
 refine wpAny_execs_cons (w_ways (k:=k+4) hA S6 ((rList rInt).mono (hK4.trans hK5) rd3) hd fun K7 h7 tk7 wv w0 w1 hK7 S7 rwv hw0 hw1=>?_)
 have hw0':=way_ne hw0
 have hw1':=way_ne hw1
 refine wpAny_execs_cons (w_faults (k:=k+4) hA S7 fun K8 h8 tk8 fv P hK8 S8 rfv hP=>?_)
 have hK18:=hK15.trans (hK7.trans hK8)
 refine wpAny_execs_cons (w_rules (k:=k) B (hb.trans hK18) hA S8 ((rList rInt).mono (hK4.trans (hK5.trans (hK7.trans hK8))) rd3) hd fun K9 h9 tk9 vr rules hK9 S9 rr g=>?_)
 have hK19:=hK18.trans hK9
 refine wpAny_execs_cons (w_sends (k:=k) B (hb.trans hK19) hA S9 rr g fun K10 h10 tk10 vsd hK10 S10 rsd=>?_)
 have hK110:=hK19.trans hK10
 have hsl:(sendsOf rules).length≤2430:=by
  have:=sum_flat sendRule 405 rules fun r hr=>sendRule_length r (nT (g.row r hr).2.1 (by decide))
  rw [g.all] at this
  exact this
 refine wpAny_execs_cons (w_terms (k:=k) B (hb.trans hK110) hA S10 e1 ((rList rInt).mono hK110 rv) (lp [_] [(zA,.num 63)] zA (.num 1048576) rfl hlen) ((rList (rList rInt)).mono hK10 rr) rsd (by rw [g.all];decide) (fun r hr=>(g.row r hr).2.1) hsl fun d K11 h11 tk11 x0 hK11 S11=>?_)
 have c':=c d
 clear c
 generalize ({ s with drawn:=d }:Shared)=s at c' ⊢
 have hK111:=hK110.trans hK11
 refine wpAny_execs_cons (w_sender (k:=k) W B (hb.trans hK111) hA S11 ((rList rInt).mono hK11 rsd) g fun K12 h12 tk12 vn sender hK12 S12 rn sn=>?_)
 have hK112:=hK111.trans hK12
 have hK512:=hK7.trans (hK8.trans (hK9.trans (hK10.trans (hK11.trans hK12))))
 refine wpAny_execs_cons (w_marks W B (hb.trans hK112) S12 (rStr.mono hK512 rw_) fun K13 h13 tk13 vm hK13 S13 rm=>?_)
 have hK113:=hK112.trans hK13
 have hK913:=hK10.trans (hK11.trans (hK12.trans hK13))
 refine wpAny_execs_cons (w_bare (k:=k+2) W B (hb.trans hK113) hA S13 (rStr.mono (hK512.trans hK13) rw_) ((rList (rList rInt)).mono hK913 rr) g e3 fun K14 h14 tk14 p3 bv hK14 S14 f3 rb14=>?_)
 have hK114:=hK113.trans hK14
 refine wpAny_execs_cons (w_told (k:=k+2) W B (hb.trans hK114) hA S14 ((rList (rList rInt)).mono (hK13.trans hK14) rn) ((rDict (intKind prog w) rStr).mono hK14 rm) g sn fun K15 h15 tk15 tv hK15' S15 rt=>?_)
 have hK115:=hK114.trans hK15'
 obtain⟨tb,hT⟩:=tables_some (bareM (tokV sign) word) rules 256 (gram_has g (.inl rfl))
 have rb15:=(rDict (intKind prog w) (rDS prog w)).mono hK15' rb14
 refine wpAny_execs_cons (w_loop (k:=k) W g sn B PP (hb.trans hK115) hA S15 f3 rb15 rt hT e4 e5 hP fun K16 h16 tk16 p4 p5 u5 y16 y17 y18 y19 hK16 S16 rp f5=>?_)
 have hK116:=hK115.trans hK16
 have hpl:=post_len W g sn hT
 have hps:=post_small W g sn hT
 have hne:=post_ne W g sn hT
 have hK716:=hK8.trans (hK9.trans (hK10.trans (hK11.trans (hK12.trans (hK13.trans (hK14.trans (hK15'.trans hK16)))))))
 have rwv16:=(rList rInt).mono hK716 rwv
 refine wpAny_execs_cons (w_judge (k:=k) B C (hb.trans hK116) hA S16 rwv16 e6 fun K17 h17 tk17 p6 j hK17 S17 f6 rj=>?_)
 have hK117:=hK116.trans hK17
 have hK1217:=hK13.trans (hK14.trans (hK15'.trans (hK16.trans hK17)))
 refine wpAny_execs_cons (w_first (k:=k) W g sn hw0' hw1' B C (hb.trans hK117) hA S17 ((rList rInt).mono hK17 rwv16) ((rList (rList rInt)).mono hK1217 rn) ((rDict (intKind prog w) rStr).mono (hK14.trans (hK15'.trans (hK16.trans hK17))) rm) f6 rj e7 fun K18 h18 tk18 p7 fiv hK18' S18 f7 rfi=>?_)
 have hK118:=hK117.trans hK18'
 have rwv18:=(rList rInt).mono (hK17.trans hK18') rwv16
 have rp18:=(rList rStr).mono (hK17.trans hK18') rp
 refine wpAny_execs_cons (w_size (k:=k) (lp [_] [(zA,.num 384)] zA (.num 1024) rfl hpl) hps hw0' hw1' hne B (hb.trans hK118) hA S18 rwv18 rp18 e8 fun K19 h19 tk19 p8 t8 size hK19' S19 f8 _ pick=>?_)
 have hK119:=hK118.trans hK19'
 refine wpAny_execs_cons (w_text (k:=k) (lp [_] [(zA,.num 384)] zA (.num 1024) rfl hpl) hps B (hb.trans hK119) hA S19 ((rList rInt).mono hK19' rwv18) ((rList rStr).mono hK19' rp18) f5 f8 pick fun K20 h20 tk20 p5' t5 text hK20 S20 f5' hin hsize hmin=>?_)
 have hK120:=hK119.trans hK20
 subst hsize
 have rfi20:=(rDict (intKind prog w) (rTup2 rStr rInt)).mono (hK19'.trans hK20) rfi
 refine wpAny_execs_cons (w_best (k:=k) B (hb.trans hK120) hA S20 f7 rfi20 fun K21 h21 tk21 vbest hK21 S21 rbest=>?_)
 have hK121:=hK120.trans hK21
 have best:=best_law hw0' hw1' W g sn hT hin hmin
 have hbl:(bestOf (firstOf (markM (tokV sign) word) w0 w1 sender)).length≤3:=by
  unfold bestOf
  exact nT (List.length_filterMap_le _ _) (Nat.le_refl 3)
 have hK321:=hK7.trans (hK716.trans (hK17.trans (hK18'.trans (hK19'.trans (hK20.trans hK21)))))
 have hK1621:=hK17.trans (hK18'.trans (hK19'.trans (hK20.trans hK21)))
 refine wpAny_execs_cons (w_return (k:=k) hsg W g B C (hb.trans hK121) hA S21 ((rList rStr).mono (hK4.trans (hK5.trans hK321)) re) (rStr.mono (hK5.trans hK321) rs) ((rList rInt).mono ((hK9.trans (hK10.trans (hK11.trans (hK12.trans (hK13.trans (hK14.trans (hK15'.trans hK16))))))).trans hK1621) rfv)
  ((rList (rList rInt)).mono (hK913.trans (hK14.trans (hK15'.trans (hK16.trans hK1621)))) rr) rbest f3 ((rDict (intKind prog w) (rDS prog w)).mono (hK16.trans hK1621) rb15) f5' f6 (rJudge.mono (hK18'.trans (hK19'.trans (hK20.trans hK21))) rj) f8 best.1 best.2 hbl fun K22 h22 tk22 hK22 S22=>?_)
 exact c' K22 h22 tk22 _ _ (hK121.trans hK22) S22
end
end Mine
namespace Mine
section
theorem law_call {k:Nat}{f:Addr}{v:Value}{script:List Int}{Q:Value→Shared→Prop}(B:Mod base)(PP:Pats base)(C:Cls base)(X:Ex prog w base)(F:FnAt h f (argsOf (stA 72)) (bodyOf (stA 72)) (scopeOf (stA 72)))
  (hb:Sub base K)(hs:Sub K h)(hA:OkA A (k+5))(r:(rList rInt).r K v script)(hlen:script.length≤63)
  (c:∀d h' tk',Sub h h'→Q (.bool true) (sh { s with drawn:=d } h' tk')):wpAny (model prog w) A (call (.ref f) [v]) Q E (sh s h tk):=by
 refine call_fnX (k:=k+4) (binds:=[("script",v)]) hA F (B.nolimit.keeps (hb.trans hs)) (fun _ _ _ _ _=>rfl) (fun x hx=>?_) (fun A' qn L cd s₁ hA' hL x=>?_)
 ·rw [mem_singleton] at hx;subst hx;exact .inr ⟨rfl,rfl⟩
 subst hL
 obtain⟨o1,ho1,e1⟩:=x.cell "script" (h.objs.size+1) rfl
 obtain⟨o2,ho2,e2⟩:=x.cell "base" (h.objs.size+2) rfl
 obtain⟨o3,ho3,e3⟩:=x.cell "bare" (h.objs.size+3) rfl
 obtain⟨o4,ho4,e4⟩:=x.cell "sent" (h.objs.size+4) rfl
 obtain⟨o5,ho5,e5⟩:=x.cell "text" (h.objs.size+5) rfl
 obtain⟨o6,ho6,e6⟩:=x.cell "judge" (h.objs.size+6) rfl
 obtain⟨o7,ho7,e7⟩:=x.cell "first" (h.objs.size+7) rfl
 obtain⟨o8,ho8,e8⟩:=x.cell "size" (h.objs.size+8) rfl
 obtain⟨h₀,tk₀,rfl⟩:=x.toInCall.same
 have S:=St.enterC hs x (cl8 h.objs.size o1 o2 o3 o4 o5 o6 o7 o8) (fun p hp=>by
  simp only [mem_cons,not_mem_nil,or_false] at hp
  rcases hp with rfl|rfl|rfl|rfl|rfl|rfl|rfl|rfl
  ·exact⟨ho1,by show @LT.lt Nat _ h.objs.size (h.objs.size+1);exact lp [_] [] (su zA) (su zA) rfl⟩
  ·exact⟨ho2,by show @LT.lt Nat _ h.objs.size (h.objs.size+2);exact lp [_] [] (su zA) (.add zA (.num 2)) rfl⟩
  ·exact⟨ho3,by show @LT.lt Nat _ h.objs.size (h.objs.size+3);exact lp [_] [] (su zA) (.add zA (.num 3)) rfl⟩
  ·exact⟨ho4,by show @LT.lt Nat _ h.objs.size (h.objs.size+4);exact lp [_] [] (su zA) (.add zA (.num 4)) rfl⟩
  ·exact⟨ho5,by show @LT.lt Nat _ h.objs.size (h.objs.size+5);exact lp [_] [] (su zA) (.add zA (.num 5)) rfl⟩
  ·exact⟨ho6,by show @LT.lt Nat _ h.objs.size (h.objs.size+6);exact lp [_] [] (su zA) (.add zA (.num 6)) rfl⟩
  ·exact⟨ho7,by show @LT.lt Nat _ h.objs.size (h.objs.size+7);exact lp [_] [] (su zA) (.add zA (.num 7)) rfl⟩
  ·exact⟨ho8,by show @LT.lt Nat _ h.objs.size (h.objs.size+8);exact lp [_] [] (su zA) (.add zA (.num 8)) rfl⟩) (by simp)
 have k1:¬(enL qn h.objs.size f cd).kindOf ("script" : Str)=some .local:=by
  have:(enL qn h.objs.size f cd).kindOf ("script" : Str)=some .cell:=rfl
  rw [this];simp
 have hm:bindL (enL qn h.objs.size f cd).kindOf [("script",v)] (fun _=>none)=loc lwN [none,none,none,none,none,none,none,none,none,none,none,none,none,none,none,none,none,none,none,none,none]:=by
  simp only [bindL]
  rw [if_neg k1]
  funext y
  simp [loc,lwN]
 have hc1:bindC (enL qn h.objs.size f cd).kindOf [("script",v)] (fun _=>none) ("script" : Str)=some v:=by
  simp only [bindC]
  rw [if_neg k1]
  rfl
 replace e1:o1.data = .cell (some v):=hc1▸e1
 replace S:St ⟨h,K⟩ K h.objs.size (bindL (enL qn h.objs.size f cd).kindOf [("script",v)] (fun _=>none)) (cl8 h.objs.size o1 o2 o3 o4 o5 o6 o7 o8) h₀:=S
 rw [hm] at S
 clear hm k1 hc1
 show wpAny _ _ (execs bodyL (enL qn h.objs.size f cd)) _ _ _
 refine w_body (k:=k) B PP C X hb hA' S r hlen e1 e2 e3 e4 e5 e6 e7 e8 fun d K' h' tk' m' led' hK S'=>?_
 exact c d h' tk' S'.keepB
end
end Mine
end
namespace Mine
theorem fn_of {P:Params}{h:Heap}(X:(KF P).In h):∀p∈([(48,5),(83,8),(90,9),(100,62),(107,63),(114,64),(119,66),(126,67),(133,68),(140,69),(145,70),(150,71)]:List (Nat×Nat)),FnAt h p.1 (argsOf (stA p.2)) (bodyOf (stA p.2)) (scopeOf (stA p.2)):=by
 intro p hp
 simp only [mem_cons,not_mem_nil,or_false] at hp
 rcases hp with rfl|rfl|rfl|rfl|rfl|rfl|rfl|rfl|rfl|rfl|rfl|rfl
 ·exact⟨_,_,_,_,_,⟨47,_,_,_,rfl,X 47 _ rfl,rfl,rfl⟩,_,X 48 _ rfl,rfl⟩
 ·exact⟨_,_,_,_,_,⟨82,_,_,_,rfl,X 82 _ rfl,rfl,rfl⟩,_,X 83 _ rfl,rfl⟩
 ·exact⟨_,_,_,_,_,⟨89,_,_,_,rfl,X 89 _ rfl,rfl,rfl⟩,_,X 90 _ rfl,rfl⟩
 ·exact⟨_,_,_,_,_,⟨99,_,_,_,rfl,X 99 _ rfl,rfl,rfl⟩,_,X 100 _ rfl,rfl⟩
 ·exact⟨_,_,_,_,_,⟨106,_,_,_,rfl,X 106 _ rfl,rfl,rfl⟩,_,X 107 _ rfl,rfl⟩
 ·exact⟨_,_,_,_,_,⟨113,_,_,_,rfl,X 113 _ rfl,rfl,rfl⟩,_,X 114 _ rfl,rfl⟩
 ·exact⟨_,_,_,_,_,⟨118,_,_,_,rfl,X 118 _ rfl,rfl,rfl⟩,_,X 119 _ rfl,rfl⟩
 ·exact⟨_,_,_,_,_,⟨125,_,_,_,rfl,X 125 _ rfl,rfl,rfl⟩,_,X 126 _ rfl,rfl⟩
 ·exact⟨_,_,_,_,_,⟨132,_,_,_,rfl,X 132 _ rfl,rfl,rfl⟩,_,X 133 _ rfl,rfl⟩
 ·exact⟨_,_,_,_,_,⟨139,_,_,_,rfl,X 139 _ rfl,rfl,rfl⟩,_,X 140 _ rfl,rfl⟩
 ·exact⟨_,_,_,_,_,⟨144,_,_,_,rfl,X 144 _ rfl,rfl,rfl⟩,_,X 145 _ rfl,rfl⟩
 ·exact⟨_,_,_,_,_,⟨149,_,_,_,rfl,X 149 _ rfl,rfl,rfl⟩,_,X 150 _ rfl,rfl⟩
theorem cls_of {P:Params}{h:Heap}(X:(KF P).In h):Cls h where
 ex:=⟨KF P,X,by kernel_rfl,by kernel_rfl,by kernel_rfl,by kernel_rfl,by kernel_rfl,by kernel_rfl,by kernel_rfl,by kernel_rfl,by kernel_rfl,by kernel_rfl,by kernel_rfl,by kernel_rfl,by kernel_rfl⟩
 fInit:=⟨_,_,_,_,_,⟨61,_,_,_,rfl,X 61 _ rfl,rfl,rfl⟩,_,X 62 _ rfl,rfl⟩
 fCmp:=⟨_,_,_,_,_,⟨68,_,_,_,rfl,X 68 _ rfl,rfl,rfl⟩,_,X 69 _ rfl,rfl⟩
theorem pats_of {P:Params}{h:Heap}(X:(KF P).In h):Pats h where
 p1:=⟨_,_,35,_,_,_,X 36 _ rfl,rfl,rfl,rfl,rfl,rfl,rfl,X 35 _ rfl,rfl,by kernel_rfl⟩
 p2:=⟨_,_,40,_,_,_,X 41 _ rfl,rfl,rfl,rfl,rfl,rfl,rfl,X 40 _ rfl,rfl,by kernel_rfl⟩
theorem mod_of {P:Params}{h:Heap}{p:Program}{loose:List Str}{mean:ExcName→Option Value}{mg mb:Str→Option Value}(X:(KF P).In h)(T:Top p loose mean mg mb h):Mod h where
 nolimit:=T.nolimit
 names:=by
  refine⟨mg,mb,T.g,T.b,?_,?_,?_,?_⟩
  ·intro p hp
   unfold gRef at hp
   simp only [mem_cons,not_mem_nil,or_false] at hp
   rcases hp with rfl|rfl|rfl|rfl|rfl|rfl|rfl|rfl|rfl|rfl|rfl|rfl|rfl|rfl|rfl|rfl <;> exact mg_of X T.g (by kernel_rfl)
  ·intro p hp
   unfold gInt at hp
   simp only [mem_cons,not_mem_nil,or_false] at hp
   rcases hp with rfl|rfl <;> exact⟨_,mg_of X T.g rfl⟩
  ·exact⟨_,mg_of X T.g rfl⟩
  ·intro p hp
   unfold gBlt at hp
   simp only [mem_cons,not_mem_nil,or_false] at hp
   rcases hp with rfl|rfl|rfl|rfl|rfl|rfl|rfl <;> exact⟨mg_none_of X T.g (by kernel_rfl),(T.builtins _ (by decide)).trans (by rfl)⟩
 fns:=fn_of X
 noSys:=by decide
end Mine
namespace Mine
noncomputable def mkE (P:Params)(r:(Str×Tok)×(Int×Tok)):DictEntry:=⟨PyData.keyHash P r.1.1,.str r.1.1 r.1.2,.int r.2.1 r.2.2⟩
noncomputable def exR (P:Params):List ((Str×Tok)×(Int×Tok)):=match (KF P).lookup 91 with
 | some ⟨_,_,.dict es _,_⟩=>es.toList.filterMap fun e=>match e.key,e.val with | .str k t,.int i u=>some ((k,t),(i,u))|_,_=>none
 | _=>[]
noncomputable def exT (P:Params):List (Str×Int):=(exR P).map fun r=>(r.1.1,r.2.1)
noncomputable def exV (P:Params):List (Str×Value):=(exR P).map fun r=>(r.1.1,.int r.2.1 r.2.2)
theorem exR_nodup (P:Params):((exR P).map (·.1.1)).Nodup:=of_decide_eq_true (by kernel_rfl)
theorem exT_look (P:Params):(signS.all fun x=>decide (getD' (exT P) x=some (tokV x)))=true:=by kernel_rfl
theorem pairs_ex {prog:Program}{w:World}:∀R:List ((Str×Tok)×(Int×Tok)),Pairs (PySem.strKind prog w) (R.map (mkE w.params)) (R.map fun r=>(r.1.1,Value.int r.2.1 r.2.2))
 | []=>.nil
 | r::R=>.cons (strkey _ _ _ _) rfl (pairs_ex R)
theorem all_ex {K:Heap}:∀R:List ((Str×Tok)×(Int×Tok)),All2 (PR (rInt.r K)) (R.map fun r=>(r.1.1,Value.int r.2.1 r.2.2)) (R.map fun r=>(r.1.1,r.2.1))
 | []=>.nil
 | r::R=>.cons ⟨rfl,⟨_,rfl⟩⟩ (all_ex R)
theorem exO (P:Params):∃n,(KF P).lookup 91=some { cls:=.type "dict",data:=.dict ((exR P).map (mkE P)).toArray n }:=⟨_,rfl⟩
theorem ex_of {prog:Program}{w:World}{h:Heap}(X:(KF w.params).In h):Ex prog w h:=by
 refine⟨exT w.params,?_,?_,?_,?_⟩
 ·obtain⟨n,hn⟩:=exO w.params
  refine⟨91,_,exV w.params,rfl,by decide,X 91 _ hn,⟨_,_,⟨rfl,rfl,rfl⟩,rfl,?_,?_,?_⟩,all_ex _⟩
  ·intro e he
   have he':e∈(exR w.params).map (mkE w.params):=by simpa using he
   obtain⟨r,hr,rfl⟩:=mem_map.mp he'
   exact⟨r.1.1,strkey _ _ _ _,rfl⟩
  ·exact pairs_ex _
  ·unfold exV
   rw [map_map]
   exact exR_nodup w.params
 ·intro x hx
  exact of_decide_eq_true (all_eq_true.mp (exT_look w.params) x hx)
 ·exact of_decide_eq_true (by kernel_rfl)
 ·exact of_decide_eq_true (by kernel_rfl)
theorem ints_all {K:Heap}{vs:List Value}{ns:List Int}(x:IntsAre vs ns):All2 (rInt.r K) vs ns:=by
 induction x with
 | nil=>exact .nil
 | cons n t _ ih=>exact .cons ⟨t,rfl⟩ ih
theorem well_list {P:Params}{h:Heap}{a:Addr}{vs:List Value}{ns:List Int}(x:Well P h (.ref a) (ofPy (.list (ns.map .int))))(hl:h.IsList a vs.toArray)(hi:IntsAre vs ns):(rList rInt).r h (.ref a) ns:=by
 have e:ofPy (.list (ns.map .int)) = .list (ofPys (ns.map .int)):=by simp [ofPy]
 rw [e] at x
 cases x with
 | @list _ us _ hg _=>
  obtain⟨o,ho,hc,n,hd⟩:=hl
  rw [hg] at ho
  cases ho
  injection hd with h1 h2
  have:us=vs:=by
   have:=congrArg Array.toList h1
   simpa using this
  subst this
  exact⟨a,us,0,rfl,hg,ints_all hi⟩
theorem caller_ok:OkA callerA 5:=⟨rfl,by decide,by decide⟩
end Mine
end
set_option maxHeartbeats 8000000 in
theorem PySem.Challenge.cw_wz0005_01_holds : PySem.Challenge.rw_wz0005_01.Holds :=
 Mine.hd (by
 intro w s₀ s₁ mg mb G Y fa o pm cd doc dV kV ho hd hcd hD hmg hg args vals as hpre hlay hrd hwl hlo
 have KX := kIn_of Y
 refine Ground.open G ?_
 intro T B D TE TW
 have e1 : dV = .none := by
  rcases hD.pos with q | q
  ·exact q.2
  ·exact absurd rfl q.1
 have e2 : kV = .none := by
  rcases hD.kw with q | q
  ·exact q.2
  ·exact absurd rfl q.1
 subst e1
 subst e2
 have F : Mine.FnAt s₁.heap fa (Mine.argsOf (Mine.stA 72)) (Mine.bodyOf (Mine.stA 72)) (Mine.scopeOf (Mine.stA 72)) :=
  ⟨_, _, doc, pm, cd, hcd, o, ho, hd⟩
 clear hD hd hcd hmg D TE TW B Y G
 wrow_args hpre hlay hrd hwl hlo
 rename_i ns _ _ _ _ _ _ _ a vs _ hL _ w1 _ hI _ hlen _
 have r := Mine.well_list w1 hL hI
 refine Mine.law_call (k := 0) (s := s₁) (h := s₁.heap) (tk := s₁.toks) (base := s₁.heap) (K := s₁.heap) (Mine.mod_of KX T) (Mine.pats_of KX) (Mine.cls_of KX) (Mine.ex_of KX) F (Mine.Sub.refl _) (Mine.Sub.refl _) Mine.caller_ok r (Int.ofNat_le.1 (Int.not_lt.1 hlen)) fun d h' tk' hk => ?_
 refine GoodW.toG ⟨.inl ⟨.bool true, .bool true, [], rfl, raisesW_false ?_, .bool true, ?_, unshared_nil⟩, hk, rfl, hg⟩
 ·wrow_none_raised
 ·wrow_post)
