import PyProof.Rows.All
import Wide.All
import OpenK.AllK
import Wide.FinOn
import PySem.Challenge.RW_dn0073_08
open PySem PySem.W PyProof.Rows
set_option Elab.async false
set_option linter.all false
set_option maxRecDepth 100000
set_option tactic.hygienic false
set_option bootstrap.genMatcherCode false
@[elab_as_elim] theorem Mine.rwG {α : Sort _} {a b : α} {motive : α → Prop} (h : a = b) (x : motive b) : motive a := by cases h; exact x
@[elab_as_elim] theorem Mine.rwH {α : Sort _} {a b : α} {motive : α → Prop} (h : b = a) (x : motive b) : motive a := by cases h; exact x
local macro_rules
  | `(tactic| rw [$h:term]) => `(tactic| first | (refine Mine.rwG $h ?_; try with_reducible rfl) | (rewrite [$h:term]; try with_reducible rfl))
  | `(tactic| rw [← $h:term]) => `(tactic| first | (refine Mine.rwH $h ?_; try with_reducible rfl) | (rewrite [← $h:term]; try with_reducible rfl))
  | `(tactic| rw [$h:term, $r,*]) => `(tactic| (first | refine Mine.rwG $h ?_ | rewrite [$h:term]); rw [$r,*])
  | `(tactic| rw [← $h:term, $r,*]) => `(tactic| (first | refine Mine.rwH $h ?_ | rewrite [← $h:term]); rw [$r,*])
section
set_option tactic.hygienic true
set_option maxHeartbeats 8000000
namespace Mine
abbrev lw:=PySem.Challenge.rw_dn0073_08
/-- the view: the law's own def alone -/
noncomputable def q0:Program:={ lw.prog with main:={ lw.prog.main with body:=lw.prog.main.body.drop 14 } }
noncomputable def l0:List PySem.Str:=["_wall","heappush","heappop","heapify","_siftdown","_siftup","_NODE_OUT","_NODE_DONE","_NodeInfo","CycleError","TopologicalSorter"].map PySem.Str.ofString
theorem d0s:(defOf q0 lw.row.name).isSome=true:=by kernel_rfl
noncomputable def d0:DefRec × List (Str × PySem.Expr):=(defOf q0 lw.row.name).get d0s
noncomputable abbrev X0:Shared → Bool:=fun s=>xlAt q0 [] s && recOk (RowW.records lw.row.toRowW) s
theorem hop (H:Hook)(left:LeftO lw.row.prog q0 l0 X0 (Hook.obs H) (Hook.val H) 2620)(k1:lw.row.wellSaid=true)(hw:lw.row.toRowW.promised)
    (call:WalkO q0 l0 (XL q0 []) (Hook.says H) lw.row.toRowW d0.1 d0.2 fun f vs=>PySem.call f vs):lw.row.Holds :=
  holds_open (q:=q0) (loose:=l0) (Xt:=X0) (XP:=XL q0 []) (Yf:=Hook.obs H) (Ya:=Hook.val H) (YP:=Hook.says H) (d:=d0.1) (kwd:=d0.2) (N:=2620) left (Hook.of H) (Hook.keeps H) (fun s e=>xl_of s (Bool.and_eq_true_iff.mp e).1) XL.keeps (by kernel_rfl) (by kernel_rfl) (by kernel_rfl)
    (fun s e=>recFacts_of (Bool.and_eq_true_iff.mp e).2) (by rfl) k1 (by decide +kernel) ⟨rfl,rfl,rfl,rfl,rfl,by decide +kernel⟩ hw call
local macro_rules
  | `(tactic| o_law) => `(tactic| refine holds_law (by decide +kernel) fun said => ?_)
local macro_rules
  | `(tactic| o_head $H) => `(tactic| refine hop $H (fun w => by kernel_rfl) (by assumption) ?$(Lean.mkIdent `hw) ?$(Lean.mkIdent `hc))

open_top hd08 for PySem.Challenge.rw_dn0073_08
end Mine
end
section
set_option genInjectivity false
set_option genSizeOf false
namespace Mine
namespace Ar
abbrev Lf:=List Nat
abbrev Br:=List (Lf × Lf)
noncomputable def gt (c:List Nat):Nat->Nat:=List.rec (fun z0=>0) (fun x z0 ih n=>Nat.casesOn n x ih) c
noncomputable def dot (p:Lf):List Nat->Nat:=List.rec (fun z0=>0) (fun x z0 ih c=>List.casesOn c 0 fun y c=>x * y + ih c) p
noncomputable def add (p:Lf):Lf->Lf:=List.rec (fun q=>q) (fun x p ih q=>List.casesOn q (x :: p) fun y q=>Nat.add x y :: ih q) p
noncomputable def mul (k:Nat) (p:Lf):Lf:=List.rec [] (fun x z0 ih=>Nat.mul k x :: ih) p
noncomputable def Wv (n:Nat):Lf:=Nat.rec [1] (fun z0 ih=>0 :: ih) n
noncomputable def canc (p:Lf):Lf->Lf × Lf:=List.rec (fun q=>([],q)) (fun x p ih q=>List.casesOn q (x :: p,[]) fun y q=>(Nat.sub x y :: (ih q).1,Nat.sub y x :: (ih q).2)) p
theorem Ud {p:Lf}:dot p []=0:=by cases p <;> rfl
theorem dot_add {p q:Lf}{c:List Nat}:dot (add p q) c=dot p c + dot q c:=by
 induction p generalizing q c with
 | nil=>exact(Nat.zero_add _).symm
 | cons x p ih =>
  cases c with
  | nil=>exact(Ud (p:=add (x :: p) q)).trans (Ud (p:=q)).symm |>.trans (Nat.zero_add _).symm
  | cons z c=>cases q with
   | nil=>rfl
   | cons y q=>exact(congrArg (_ + ·) ih).trans ((congrArg (· + _) (Nat.add_mul x y z)).trans (Nat.add_add_add_comm ..))
theorem dot_mul {k:Nat}{p:Lf}{c:List Nat}:dot (mul k p) c=k * dot p c:=by
 induction p generalizing c with
 | nil=>rfl
 | cons x p ih =>
  cases c with
  | nil=>rfl
  | cons z c=>exact(congrArg (_ + ·) ih).trans ((congrArg (· + _) (Nat.mul_assoc k x z)).trans (Nat.mul_add ..).symm)
theorem Zg {n:Nat}{c:List Nat}:dot (Wv n) c=gt c n:=by
 induction n generalizing c with
 | zero=>cases c with
  | nil=>rfl
  | cons y c=>exact Nat.one_mul y
 | succ n ih=>cases c with
  | nil=>rfl
  | cons y c=>exact(congrArg (· + _) (Nat.zero_mul y)).trans ((Nat.zero_add _).trans ih)
theorem dF {x y z a b m:Nat}(h:a + m=b):(x - y) * z + a + (min x y * z + m)=x * z + b:=by
 rw[Nat.add_add_add_comm,h,<- Nat.add_mul,Nat.sub_add_min_cancel]
theorem Zr {p q:Lf}{c:List Nat}:∃ m,dot (canc p q).1 c + m=dot p c/\dot (canc p q).2 c + m=dot q c:=by
 induction p generalizing q c with
 | nil=>exact⟨0,rfl,rfl⟩
 | cons x p ih=>cases q with
  | nil=>exact⟨0,rfl,rfl⟩
  | cons y q=>cases c with
   | nil=>exact⟨0,rfl,rfl⟩
   | cons z c=>exact(ih (q:=q) (c:=c)).elim fun m h=>⟨_,dF h.1,Nat.min_comm x y ▸ dF h.2⟩
noncomputable def Ok (c:List Nat) (x:Lf × Lf):Prop:=dot x.1 c<=dot x.2 c
noncomputable def Al (c:List Nat) (b:Br):Prop:=List.rec True (fun x z0 ih=>Ok c x/\ih) b
theorem Al.app {c:List Nat}{a b:Br}(ha:Al c a)(hb:Al c b):Al c (a++b):=by
 induction a with
 | nil=>exact hb
 | cons x a ih=>exact⟨ha.1,ih ha.2⟩
theorem Ok.canc {c:List Nat}{p q:Lf}(h:dot p c<=dot q c):Ok c (canc p q) :=
 (Zr (p:=p) (q:=q) (c:=c)).elim fun m e=>Nat.le_of_add_le_add_right (b:=m) (e.1.symm ▸ e.2.symm ▸ h)
theorem Ok.add {c:List Nat}{p q p' q':Lf}(h:dot p c<=dot q c)(h':dot p' c<=dot q' c):dot (add p p') c<=dot (add q q') c :=
 dot_add.symm ▸ dot_add.symm ▸ Nat.add_le_add h h'
theorem Ok.mul {c:List Nat}{p q:Lf}(k:Nat)(h:dot p c<=dot q c):dot (mul k p) c<=dot (mul k q) c :=
 dot_mul.symm ▸ dot_mul.symm ▸ Nat.mul_le_mul_left k h
noncomputable def fK (i:Nat) (U L:Lf × Lf) (r:Br):Br :=
 Nat.rec r (fun u z0=>Nat.rec r (fun l z0=>canc (add (mul (l + 1) U.1) (mul (u + 1) L.1)) (add (mul (l + 1) U.2) (mul (u + 1) L.2)) :: r) (gt L.2 i)) (gt U.1 i)
theorem cF {c:List Nat}{i:Nat}{U L:Lf × Lf}{r:Br}(hU:Ok c U)(hL:Ok c L)(hr:Al c r):Al c (fK i U L r):=by
 unfold fK
 cases gt U.1 i with
 | zero=>exact hr
 | succ u=>cases gt L.2 i with
  | zero=>exact hr
  | succ l=>exact⟨Ok.canc (Ok.add (Ok.mul _ hU) (Ok.mul _ hL)),hr⟩
noncomputable def Zm (i:Nat) (U:Lf × Lf) (b r:Br):Br:=List.rec r (fun L z0 ih=>fK i U L ih) b
noncomputable def elim (i:Nat) (b r:Br):Br :=
 List.rec [] (fun U z0 ih=>Nat.rec (Nat.rec (U :: ih) (fun z0 z0=>ih) (gt U.2 i)) (fun z0 z0=>Zm i U (([],Wv i) :: b) ih) (gt U.1 i)) r
theorem cB {c:List Nat}{i:Nat}{b r:Br}(hb:Al c b)(hr:Al c r):Al c (elim i b r):=by
 have hc {U:Lf × Lf} {r:Br} {b:Br} (hU:Ok c U) (h:Al c r) (hb:Al c b):Al c (Zm i U b r):=by
  induction b with
  | nil=>exact h
  | cons L b ih=>exact cF hU hb.1 (ih hb.2)
 induction r with
 | nil=>exact hr
 | cons U r ih =>
  unfold elim
  have h:=ih hr.2
  refine(?_:Al c (Nat.rec (Nat.rec (U :: elim i b r) (fun z0 z0=>elim i b r) (gt U.2 i)) (fun z0 z0=>Zm i U (([],Wv i) :: b) (elim i b r)) (gt U.1 i)))
  cases gt U.1 i with
  | zero=>cases gt U.2 i with
   | zero=>exact⟨hr.1,h⟩
   | succ=>exact h
  | succ=>exact hc (b:=([],Wv i) :: b) hr.1 h ⟨Nat.zero_le _,hb⟩
noncomputable def isz (q:Lf):Bool:=List.rec true (fun x z0 ih=>Nat.rec ih (fun z0 z0=>false) x) q
theorem bS {q:Lf}{c:List Nat}(h:isz q=true):dot q c=0:=by
 induction q generalizing c with
 | nil=>rfl
 | cons x q ih=>cases c with
  | nil=>rfl
  | cons z c=>cases x with
   | zero=>exact(congrArg (· + _) (Nat.zero_mul z)).trans ((Nat.zero_add _).trans (ih h))
   | succ=>cases h
noncomputable def bad (b:Br):Bool:=List.rec false (fun x z0 ih=>Nat.rec ih (fun z0 z0=>isz x.2 || ih) (gt x.1 0)) b
theorem Zu {c:List Nat}{b:Br}(h:bad b=true)(hb:Al (1 :: c) b):False:=by
 induction b with
 | nil=>cases h
 | cons x b ih =>
  cases x with
  | mk p q=>cases p with
   | nil=>exact ih h hb.2
   | cons y p=>cases y with
    | zero=>exact ih h hb.2
    | succ y=>exact(Bool.or_eq_true_iff.mp h).elim (fun e=>Nat.not_lt_zero _ (Nat.lt_of_lt_of_le (Nat.lt_of_lt_of_le (Nat.lt_of_lt_of_le (Nat.succ_pos y) (Nat.le_of_eq (Nat.mul_one (y + 1)).symm)) (Nat.le_add_right _ _)) (bS e ▸ hb.1:dot ((y + 1) :: p) (1 :: c)<=0))) fun e=>ih e hb.2
noncomputable def Xo (n:Nat):Br->Bool:=Nat.rec bad (fun n ih b=>bad b || ih (elim (n + 1) b b)) n
theorem Vb {c:List Nat}{n:Nat}{b:Br}(h:Xo n b=true)(hb:Al (1 :: c) b):False:=by
 induction n generalizing b with
 | zero=>exact Zu h hb
 | succ n ih=>exact(Bool.or_eq_true_iff.mp h).elim (fun h=>Zu h hb) fun h=>ih h (cB hb hb)
abbrev Cs:=List (Br × Lf × Lf)
noncomputable def Vs (c:List Nat) (n:Nat) (y:Br × Lf × Lf):Prop:=Al c y.1/\n + dot y.2.2 c=dot y.2.1 c
noncomputable def Hv (c:List Nat) (n:Nat) (l:Cs):Prop:=List.rec False (fun y z0 ih=>Vs c n y\/ih) l
noncomputable def Hb (c:List Nat) (l:List Br):Prop:=List.rec False (fun b z0 ih=>Al c b\/ih) l
theorem Hv.app {c:List Nat}{n:Nat}{a b:Cs}(h:Hv c n a\/Hv c n b):Hv c n (a++b):=by
 induction a with
 | nil=>exact h.resolve_left id
 | cons x a ih=>exact h.elim (fun h=>h.elim .inl fun h=>.inr (ih (.inl h))) fun h=>.inr (ih (.inr h))
theorem Hb.app {c:List Nat}{a b:List Br}(h:Hb c a\/Hb c b):Hb c (a++b):=by
 induction a with
 | nil=>exact h.resolve_left id
 | cons x a ih=>exact h.elim (fun h=>h.elim .inl fun h=>.inr (ih (.inl h))) fun h=>.inr (ih (.inr h))
noncomputable def two {α:Type} (f:Br × Lf × Lf->Br × Lf × Lf->List α) (a b:Cs):List α :=
 List.rec [] (fun x z0 ih=>List.rec ih (fun y z0 ih=>f x y++ih) b) a
theorem Ww {α:Type}{P:List α->Prop}(hP:∀ a b,P a\/P b->P (a++b)){c:List Nat}{n m:Nat}{f:Br × Lf × Lf->Br × Lf × Lf->List α}(hf:∀ x y,Vs c n x->Vs c m y->P (f x y)){a b:Cs}(ha:Hv c n a)(hb:Hv c m b):P (two f a b):=by
 induction a with
 | nil=>exact ha.elim
 | cons x a ih =>
  have h:(Vs c n x/\Hv c m b)\/P (two f a b):=ha.elim (fun h=>.inl ⟨h,hb⟩) fun h=>.inr (ih h)
  refine(?_:P (List.rec (two f a b) (fun y z0 ih=>f x y++ih) b))
  clear ha ih hb
  generalize two f a b=r at h
  induction b with
  | nil=>exact h.elim (fun h=>h.2.elim) id
  | cons y b ih=>exact hP _ _ (h.elim (fun h=>h.2.elim (fun k=>.inl (hf _ _ h.1 k)) fun k=>.inr (ih (.inl ⟨h.1,k⟩))) fun h=>.inr (ih (.inr h)))
theorem Oi {c:List Nat}{n m r:Nat}{f:Br × Lf × Lf->Br × Lf × Lf->Cs}{a b:Cs}(hf:∀ x y,Vs c n x->Vs c m y->Hv c r (f x y))(ha:Hv c n a)(hb:Hv c m b):Hv c r (two f a b):=Ww (P:=Hv c r) (fun z0 z0=>Hv.app) hf ha hb
noncomputable def leF (d:Nat) (x y:Br × Lf × Lf):Br:=(add [d] (add x.2.1 y.2.2),add y.2.1 x.2.2) :: (x.1++y.1)
theorem Hy {c:List Nat}{d n m:Nat}{x y:Br × Lf × Lf}(h:n + d<=m)(hx:Vs (1 :: c) n x)(hy:Vs (1 :: c) m y):Al (1 :: c) (leF d x y):=by
 refine⟨?_,hx.1.app hy.1⟩
 refine(?_:dot (add [d] (add x.2.1 y.2.2)) _<=dot (add y.2.1 x.2.2) _)
 have e:dot [d] (1 :: c)=d:=(Nat.mul_one d)
 rw[dot_add,dot_add,dot_add,e,<- hx.2,<- hy.2,Nat.add_assoc n,<- Nat.add_assoc d,Nat.add_comm d n,Nat.add_comm (dot x.2.2 _),<- Nat.add_assoc]
 exact Nat.add_le_add_right (Nat.add_le_add_right h _) _
structure Tm where
 v:List Nat->Nat
 l:Cs
 h:∀ c,Hv (1 :: c) (v c) l
structure Fm where
 p:List Nat->Prop
 t:List Br
 f:List Br
 h:∀ c,p c->Hb (1 :: c) t
 k:∀ c,¬ p c->Hb (1 :: c) f
noncomputable def V (i:Nat):Tm:=⟨fun c=>gt c i,[([],Wv (i + 1),[])],fun c=>Or.inl ⟨trivial,(Zg (n:=i + 1) (c:=1 :: c)).symm⟩⟩
noncomputable def K (n:Nat):Tm:=⟨fun z0=>n,[([],[n],[])],fun c=>Or.inl ⟨trivial,(Nat.mul_one n).symm⟩⟩
noncomputable def A (s t:Tm):Tm:=⟨fun c=>s.v c + t.v c,two (fun x y=>[(x.1++y.1,add x.2.1 y.2.1,add x.2.2 y.2.2)]) s.l t.l,
 fun c=>Oi (fun x y hx hy=>Or.inl ⟨hx.1.app hy.1,(congrArg (_ + ·) dot_add).trans ((Nat.add_add_add_comm ..).trans ((congrArg (· + _) hx.2).trans ((congrArg (_ + ·) hy.2).trans dot_add.symm)))⟩) (s.h c) (t.h c)⟩
theorem eG {c:List Nat}{n k:Nat}{l:Cs}(h:Hv c k l):Hv c (n * k) (l.map fun x=>(x.1,mul n x.2.1,mul n x.2.2)):=by
 induction l with
 | nil=>exact h
 | cons y l ih=>exact h.elim (fun h=>Or.inl ⟨h.1,(congrArg (_ + ·) dot_mul).trans ((Nat.mul_add ..).symm.trans ((congrArg (n * ·) h.2).trans dot_mul.symm))⟩) fun h=>Or.inr (ih h)
noncomputable def M (n:Nat) (t:Tm):Tm:=⟨fun c=>n * t.v c,t.l.map fun x=>(x.1,mul n x.2.1,mul n x.2.2),fun c=>eG (t.h c)⟩
theorem subI {n m a b d e:Nat}(h:m<=n)(hx:n + a=d)(hy:m + b=e):n - m + (e + a)=d + b:=by
 rw[<- hx,<- hy,Nat.add_assoc m,<- Nat.add_assoc,Nat.sub_add_cancel h,Nat.add_assoc,Nat.add_comm a]
noncomputable def S (s t:Tm):Tm:=⟨fun c=>s.v c - t.v c,two (fun x y=>[(leF 0 x y,[],[]),(leF 0 y x,add x.2.1 y.2.2,add y.2.1 x.2.2)]) s.l t.l,
 fun c=>Oi (fun x y hx hy=>(Nat.le_total (s.v c) (t.v c)).elim (fun h=>Or.inl ⟨Hy h hx hy,Nat.sub_eq_zero_of_le h⟩)
  fun h=>Or.inr (Or.inl ⟨Hy h hy hx,dot_add.symm ▸ dot_add.symm ▸ subI h hx.2 hy.2⟩)) (s.h c) (t.h c)⟩
noncomputable def X (s t:Tm):Tm:=⟨fun c=>max (s.v c) (t.v c),two (fun x y=>[(leF 0 x y,y.2),(leF 0 y x,x.2)]) s.l t.l,
 fun c=>Oi (fun x y hx hy=>(Nat.le_total (s.v c) (t.v c)).elim (fun h=>Or.inl ⟨Hy h hx hy,(congrArg (· + _) (Nat.max_eq_right h)).trans hy.2⟩)
  fun h=>Or.inr (Or.inl ⟨Hy h hy hx,(congrArg (· + _) (Nat.max_eq_left h)).trans hx.2⟩)) (s.h c) (t.h c)⟩
noncomputable def Y (s t:Tm):Tm:=⟨fun c=>min (s.v c) (t.v c),two (fun x y=>[(leF 0 x y,x.2),(leF 0 y x,y.2)]) s.l t.l,
 fun c=>Oi (fun x y hx hy=>(Nat.le_total (s.v c) (t.v c)).elim (fun h=>Or.inl ⟨Hy h hx hy,(congrArg (· + _) (Nat.min_eq_left h)).trans hx.2⟩)
  fun h=>Or.inr (Or.inl ⟨Hy h hy hx,(congrArg (· + _) (Nat.min_eq_right h)).trans hy.2⟩)) (s.h c) (t.h c)⟩
noncomputable def le (d:Nat) (s t:Tm):List Br:=two (fun x y=>[leF d x y]) s.l t.l
theorem Hk {c:List Nat}{d:Nat}{s t:Tm}(h:s.v c + d<=t.v c):Hb (1 :: c) (le d s t) :=
 Ww (fun z0 z0=>Hb.app) (fun x y hx hy=>Or.inl (Hy h hx hy)) (s.h c) (t.h c)
noncomputable def Oq (a b:List Br):List Br:=List.rec [] (fun x z0 ih=>List.rec ih (fun y z0 ih=>(x++y) :: ih) b) a
theorem Iq {c:List Nat}{a b:List Br}(ha:Hb c a)(hb:Hb c b):Hb c (Oq a b):=by
 induction a with
 | nil=>exact ha.elim
 | cons x a ih =>
  have h:(Al c x/\Hb c b)\/Hb c (Oq a b):=ha.elim (fun h=>Or.inl ⟨h,hb⟩) fun h=>Or.inr (ih h)
  refine(?_:Hb c (List.rec (Oq a b) (fun y z0 ih=>(x++y) :: ih) b))
  clear ha ih hb
  generalize Oq a b=r at h
  induction b with
  | nil=>exact h.elim (fun h=>h.2.elim) id
  | cons y b ih=>exact h.elim (fun h=>h.2.elim (fun k=>Or.inl (h.1.app k)) fun k=>Or.inr (ih (.inl ⟨h.1,k⟩))) fun h=>Or.inr (ih (.inr h))
noncomputable def L (s t:Tm):Fm:=⟨fun c=>s.v c<=t.v c,le 0 s t,le 1 t s,fun c h=>Hk h,fun c h=>Hk (Nat.lt_of_not_le h)⟩
noncomputable def T (s t:Tm):Fm:=⟨fun c=>s.v c < t.v c,le 1 s t,le 0 t s,fun c h=>Hk h,fun c h=>Hk (Nat.le_of_not_lt h)⟩
noncomputable def E (s t:Tm):Fm:=⟨fun c=>s.v c=t.v c,Oq (le 0 s t) (le 0 t s),le 1 s t++le 1 t s,fun c h=>Iq (Hk (Nat.le_of_eq h)) (Hk (Nat.le_of_eq h.symm)),fun c h=>Hb.app ((Nat.lt_or_gt_of_ne h).imp Hk Hk)⟩
noncomputable def N (f:Fm):Fm:=⟨fun c=>¬ f.p c,f.f,f.t,f.k,fun c h=>f.h c (Classical.not_not.mp h)⟩
noncomputable def B (f g:Fm):Fm:=⟨fun c=>f.p c/\g.p c,Oq f.t g.t,f.f++g.f,fun c h=>Iq (f.h c h.1) (g.h c h.2),fun c h=>Hb.app ((Classical.not_and_iff_not_or_not.mp h).imp (f.k c) (g.k c))⟩
noncomputable def O (f g:Fm):Fm:=⟨fun c=>f.p c\/g.p c,f.t++g.t,Oq f.f g.f,fun c h=>Hb.app (h.imp (f.h c) (g.h c)),fun c h=>Iq (f.k c fun x=>h (.inl x)) (g.k c fun x=>h (.inr x))⟩
noncomputable def I (f g:Fm):Fm:=⟨fun c=>f.p c->g.p c,f.f++g.t,Oq f.t g.f,fun c h=>Hb.app ((Classical.em (f.p c)).symm.imp (f.k c) fun x=>g.h c (h x)),fun c h=>Iq (f.h c (Classical.byContradiction fun x=>h fun y=>absurd y x)) (g.k c fun x=>h fun z0=>x)⟩
noncomputable def F:Fm:=⟨fun z0=>False,[],[[]],fun c h=>h,fun c h=>Or.inl trivial⟩
noncomputable def D (i:Nat) (t:Tm) (k:Nat):Fm:=⟨fun c=>gt c i=t.v c / (k + 1),Oq (le 0 (M (k + 1) (V i)) t) (le 0 t (A (M (k + 1) (V i)) (K k))),[[]],
 fun c h=>Iq (Hk (s:=M (k + 1) (V i)) (Nat.le_trans (Nat.le_of_eq (congrArg ((k + 1) * ·) h)) (Nat.mul_div_le ..))) (Hk (t:=A (M (k + 1) (V i)) (K k)) (Nat.le_trans (Nat.le_of_eq (Nat.div_add_mod (t.v c) (k + 1)).symm) (Nat.add_le_add (Nat.le_of_eq (congrArg ((k + 1) * ·) h.symm)) (Nat.le_of_lt_succ (Nat.mod_lt _ (Nat.succ_pos k)))))),fun c h=>Or.inl trivial⟩
noncomputable def iG (n:Nat) (l:List Br):Bool:=List.rec true (fun b z0 ih=>Xo n b && ih) l
theorem cI {c:List Nat}{n:Nat}{l:List Br}(h:iG n l=true)(hl:Hb (1 :: c) l):False:=by
 induction l with
 | nil=>exact hl
 | cons b l ih=>exact hl.elim (Vb (Bool.and_eq_true_iff.mp h).1) (ih (Bool.and_eq_true_iff.mp h).2)
theorem w (n:Nat)(f:Fm)(c:List Nat)(h:iG n f.f=true):f.p c:=Classical.byContradiction fun x=>cI h (f.k c x)
end Ar
end Mine
end
section
set_option genInjectivity false
set_option genSizeOf false
namespace Mine
namespace Ar
noncomputable abbrev p0:=V 0
noncomputable abbrev p1:=V 1
noncomputable abbrev p2:=V 2
noncomputable abbrev p3:=V 3
noncomputable abbrev p4:=V 4
noncomputable abbrev p5:=V 5
noncomputable abbrev p6:=V 6
noncomputable abbrev p7:=V 7
noncomputable abbrev p8:=V 8
theorem r1 {a b c}:(E (A (A p0 (K 1)) (A p1 (A p2 (K 1)))) (A (A (A p0 (K 1)) p1) (A p2 (K 1)))).p [a,b,c]:=w 3 _ _ (by kernel_rfl)
theorem r2 {a b}:(E (A (A p0 (K 1)) p1) (A p1 (A p0 (K 1)))).p [a,b]:=w 2 _ _ (by kernel_rfl)
theorem r4 {a b}:(E (A p0 (A p1 (K 1))) (A (A p0 (K 1)) p1)).p [a,b]:=w 2 _ _ (by kernel_rfl)
theorem r5 {a}:(E p1 p0).p [a,(2 * a + 1 - 1) / 2]:=w 2 (I (D 1 (S (A (M 2 p0) (K 1)) (K 1)) 1) (E p1 p0)) _ (by kernel_rfl) rfl
theorem r6 {a}:(E p1 p0).p [a,(2 * a + 2 - 1) / 2]:=w 2 (I (D 1 (S (A (M 2 p0) (K 2)) (K 1)) 1) (E p1 p0)) _ (by kernel_rfl) rfl
theorem r7 {a b c}:(I (E (A p0 (A p1 (K 1))) p2) (E (A (A p0 (K 1)) p1) p2)).p [a,b,c]:=w 3 _ _ (by kernel_rfl)
theorem r12 {a b}:(I (E (A p0 (K 1)) p1) (T p0 p1)).p [a,b]:=w 2 _ _ (by kernel_rfl)
theorem r13 {a b c}:(I (E (A p0 p1) p2) (E (A (A p0 (K 1)) p1) (A p2 (K 1)))).p [a,b,c]:=w 3 _ _ (by kernel_rfl)
theorem r14 {a b c}:(I (E (A p0 p1) p2) (E (A p0 (A p1 (K 1))) (A p2 (K 1)))).p [a,b,c]:=w 3 _ _ (by kernel_rfl)
theorem r15 {a b c}:(I (E (S p0 p1) (A p2 (K 1))) (E (S p0 (A p1 (K 1))) p2)).p [a,b,c]:=w 3 _ _ (by kernel_rfl)
theorem r16 {a b c}:(I (E (S p0 p1) (A p2 (K 1))) (T p1 p0)).p [a,b,c]:=w 3 _ _ (by kernel_rfl)
theorem r17 {a b c}:(I (E (S p0 p1) (K 0)) (L (Y p0 p2) p1)).p [a,b,c]:=w 3 _ _ (by kernel_rfl)
theorem r18 {a b}:(I (E (S p0 p1) (K 0)) (L p0 p1)).p [a,b]:=w 2 _ _ (by kernel_rfl)
theorem r19 {a b}:(I (E p0 (A p1 (K 1))) (L p0 (A p1 (K 1)))).p [a,b]:=w 2 _ _ (by kernel_rfl)
theorem r20 {a b}:(I (E p0 (A p1 (K 1))) (T p1 p0)).p [a,b]:=w 2 _ _ (by kernel_rfl)
theorem r21 {a b}:(I (E p0 (A p1 (K 2))) (E p0 (A p1 (K 2)))).p [a,b]:=w 2 _ _ (by kernel_rfl)
theorem r22 {a b c}:(I (E p0 (A p1 (K 2))) (I (T p2 (A p1 (K 1))) (T p2 (S p0 (K 1))))).p [a,b,c]:=w 3 _ _ (by kernel_rfl)
theorem r23 {a b c}:(I (E p0 (A p1 (K 2))) (I (T p2 (A p1 (K 1))) (T p2 p0))).p [a,b,c]:=w 3 _ _ (by kernel_rfl)
theorem r27 {a}:(I (E p0 (K 1)) (L p0 (K 1))).p [a]:=w 1 _ _ (by kernel_rfl)
theorem r28 {a}:(I (E p0 (K 1)) (L p0 (K 10))).p [a]:=w 1 _ _ (by kernel_rfl)
theorem r29 {a b c}:(I (E p0 p1) (I (E p2 p0) (L p1 p2))).p [a,b,c]:=w 3 _ _ (by kernel_rfl)
theorem r30 {a b c d e f}:(I (E p0 p1) (I (E p2 p3) (I (L p4 p5) (I (L (A p1 p3) p4) (L (A p0 p2) p5))))).p [a,b,c,d,e,f]:=w 6 _ _ (by kernel_rfl)
theorem r32 {a b c}:(I (E p0 p1) (I (L p1 p2) (L p0 p2))).p [a,b,c]:=w 3 _ _ (by kernel_rfl)
theorem r33 {a b c}:(I (E p0 p1) (I (N (T (A (M 2 p2) (K 1)) p1)) (N (T (A (M 2 p2) (K 1)) p0)))).p [a,b,c]:=w 3 _ _ (by kernel_rfl)
theorem r34 {a b c}:(I (E p0 p1) (I (N (T p2 p1)) (L p0 p2))).p [a,b,c]:=w 3 _ _ (by kernel_rfl)
theorem r35 {a b c}:(I (E p0 p1) (I (T (A (M 2 p2) (K 1)) p1) (T (A (M 2 p2) (K 1)) p0))).p [a,b,c]:=w 3 _ _ (by kernel_rfl)
theorem r36 {a b c}:(I (E p0 p1) (I (T (A (M 2 p2) (K 2)) p1) (T (A (M 2 p2) (K 2)) p0))).p [a,b,c]:=w 3 _ _ (by kernel_rfl)
theorem r37 {a b c}:(I (E p0 p1) (I (T p2 p0) (T p2 p1))).p [a,b,c]:=w 3 _ _ (by kernel_rfl)
theorem r38 {a b c}:(I (E p0 p1) (I (T p2 p1) (T p2 p0))).p [a,b,c]:=w 3 _ _ (by kernel_rfl)
theorem r39 {a b}:(I (E p0 p1) (L p1 p0)).p [a,b]:=w 2 _ _ (by kernel_rfl)
theorem r40 {a b}:(I (E p0 p1) (N (T p0 p1))).p [a,b]:=w 2 _ _ (by kernel_rfl)
theorem r41 {a b c}:(I (E p3 p1) (I (T (K 0) p2) (I (E p4 p0) (N (E p1 p2))))).p [a,b,c,(a - 1) / 2,(c - 1) / 2]:=w 5 (I (D 3 (S p0 (K 1)) 1) (I (D 4 (S p2 (K 1)) 1) (I (E p3 p1) (I (T (K 0) p2) (I (E p4 p0) (N (E p1 p2))))))) _ (by kernel_rfl) rfl rfl
theorem r42 {a b c}:(I (E p3 p1) (I (T (K 0) p2) (I (E p4 p0) (N (E p2 p1))))).p [a,b,c,(a - 1) / 2,(c - 1) / 2]:=w 5 (I (D 3 (S p0 (K 1)) 1) (I (D 4 (S p2 (K 1)) 1) (I (E p3 p1) (I (T (K 0) p2) (I (E p4 p0) (N (E p2 p1))))))) _ (by kernel_rfl) rfl rfl
theorem r43 {a b c}:(I (E p3 p4) (I (L p2 p5) (L p2 p3))).p [a,b,c,(a - 1) / 2,(b - 1) / 2,((b - 1) / 2 - 1) / 2]:=w 6 (I (D 3 (S p0 (K 1)) 1) (I (D 4 (S p1 (K 1)) 1) (I (D 5 (S p4 (K 1)) 1) (I (E p3 p4) (I (L p2 p5) (L p2 p3)))))) _ (by kernel_rfl) rfl rfl rfl
theorem r44 {a b c d}:(I (E p4 p1) (I (E p5 p0) (I (L p3 p1) (L p3 p5)))).p [a,b,c,d,(a - 1) / 2,(c - 1) / 2]:=w 6 (I (D 4 (S p0 (K 1)) 1) (I (D 5 (S p2 (K 1)) 1) (I (E p4 p1) (I (E p5 p0) (I (L p3 p1) (L p3 p5)))))) _ (by kernel_rfl) rfl rfl
theorem r45 {a b c d e f g i}:(I (L (A (A (A p0 p1) p2) (K 2)) p3) (I (L p4 (A p0 p5)) (I (L p6 p7) (I (L (A p5 (M 1 p7)) p1) (L (A p4 p6) p3))))).p [a,b,c,d,e,f,g,i]:=w 8 _ _ (by kernel_rfl)
theorem r46 {a b c d}:(I (L (A (A (A p0 p1) p2) (K 2)) p3) (L (A p2 (K 1)) p3)).p [a,b,c,d]:=w 4 _ _ (by kernel_rfl)
theorem r47 {a b c}:(I (L (A (A p0 (A p1 (K 1))) (K 1)) p2) (L (A (A (A p0 (K 1)) p1) (K 1)) p2)).p [a,b,c]:=w 3 _ _ (by kernel_rfl)
theorem r48 {a b c}:(I (L (A (A p0 (A p1 (K 1))) (K 1)) p2) (T p0 p2)).p [a,b,c]:=w 3 _ _ (by kernel_rfl)
theorem r49 {a b c}:(I (L (A (A p0 (A p1 (K 1))) (K 20)) (K 900)) (I (L p2 (K 1)) (L (A (A (A p0 p2) p1) (K 20)) (K 900)))).p [a,b,c]:=w 3 _ _ (by kernel_rfl)
theorem r50 {a b}:(I (L (A (A p0 (A p1 (K 1))) (K 20)) (K 900)) (L (A (A (A p0 (K 1)) p1) (K 20)) (K 900))).p [a,b]:=w 2 _ _ (by kernel_rfl)
theorem r51 {a b}:(I (L (A (A p0 (A p1 (K 1))) (K 20)) (K 900)) (T p0 (K 1000))).p [a,b]:=w 2 _ _ (by kernel_rfl)
theorem r52 {a b}:(I (L (A (A p0 (K 1)) (K 1)) p1) (L p0 p1)).p [a,b]:=w 2 _ _ (by kernel_rfl)
theorem r53 {a b c d}:(I (L (A (A p0 p1) (K 1)) p2) (I (E (A p3 (K 1)) p1) (L (A (A (A p0 (K 1)) p3) (K 1)) p2))).p [a,b,c,d]:=w 4 _ _ (by kernel_rfl)
theorem r54 {a b c}:(I (L (A (A p0 p1) (K 1)) p2) (T p0 p2)).p [a,b,c]:=w 3 _ _ (by kernel_rfl)
theorem r55 {a}:(I (L (A (K 0) (K 1)) p1) (T (K 0) p1)).p [a,(a - 1) / 2]:=w 2 (I (D 1 (S p0 (K 1)) 1) (I (L (A (K 0) (K 1)) p1) (T (K 0) p1))) _ (by kernel_rfl) rfl
theorem r56 {a b c}:(I (L (A p0 (A p1 (K 1))) p2) (L (A (A p0 (K 1)) p1) p2)).p [a,b,c]:=w 3 _ _ (by kernel_rfl)
theorem r57 {a b c}:(I (L (A p0 (A p1 (K 1))) p2) (L (A p0 p1) p2)).p [a,b,c]:=w 3 _ _ (by kernel_rfl)
theorem r58 {a b c}:(I (L (A p0 (A p1 (K 1))) p2) (T p0 p2)).p [a,b,c]:=w 3 _ _ (by kernel_rfl)
theorem r59 {a b}:(I (L (A p0 (K 1)) p1) (L p0 p1)).p [a,b]:=w 2 _ _ (by kernel_rfl)
theorem r60 {a b}:(I (L (A p0 (K 1)) p1) (T p0 p1)).p [a,b]:=w 2 _ _ (by kernel_rfl)
theorem r61 {a b}:(I (L (A p0 (K 100)) p1) (L (A (A (A p0 (K 1)) (K 6)) (K 1)) p1)).p [a,b]:=w 2 _ _ (by kernel_rfl)
theorem r62 {a b}:(I (L (A p0 (K 100)) p1) (L (A (A p0 (K 7)) (K 1)) p1)).p [a,b]:=w 2 _ _ (by kernel_rfl)
theorem r63 {a b}:(I (L (A p0 (K 100)) p1) (T p0 p1)).p [a,b]:=w 2 _ _ (by kernel_rfl)
theorem r64 {a b c}:(I (L (A p0 (M 100 (A (A p1 (K 1)) (K 1)))) (K 9000)) (I (L p2 (K 10)) (L (A (A p0 p2) (M 100 (A p1 (K 1)))) (K 9000)))).p [a,b,c]:=w 3 _ _ (by kernel_rfl)
theorem r65 {a b}:(I (L (A p0 (M 100 (A (A p1 (K 1)) (K 1)))) (K 9000)) (L (A (A p0 (K 3)) (M 100 (A p1 (K 1)))) (K 9000))).p [a,b]:=w 2 _ _ (by kernel_rfl)
theorem r66 {a b}:(I (L (A p0 (M 100 (A p1 (K 1)))) (K 9000)) (L (A p0 (K 100)) (K 9900))).p [a,b]:=w 2 _ _ (by kernel_rfl)
theorem r67 {a b c d e}:(I (L (A p0 p1) (A p2 p3)) (I (L (A p4 (K 1)) p1) (T (A p0 p4) (A p2 p3)))).p [a,b,c,d,e]:=w 5 _ _ (by kernel_rfl)
theorem r68 {a b c d e}:(I (L (A p0 p1) p2) (I (L p3 (A p0 p4)) (I (T p4 p1) (L (A p3 (K 1)) p2)))).p [a,b,c,d,e]:=w 5 _ _ (by kernel_rfl)
theorem r70 {a b c d}:(I (L p0 (A (M 2 p1) (K 1))) (I (E p2 p0) (I (T (K 0) p3) (I (T p3 p2) (I (E p4 p1) F))))).p [a,b,c,d,(d - 1) / 2]:=w 5 (I (D 4 (S p3 (K 1)) 1) (I (L p0 (A (M 2 p1) (K 1))) (I (E p2 p0) (I (T (K 0) p3) (I (T p3 p2) (I (E p4 p1) F)))))) _ (by kernel_rfl) rfl
theorem r71 {a b c}:(I (L p0 (A p1 (K 1))) (I (T p2 p0) (L p2 p1))).p [a,b,c]:=w 3 _ _ (by kernel_rfl)
theorem r72 {a b}:(I (L p0 (A p1 (K 1))) (L p0 (A p1 (K 1)))).p [a,b]:=w 2 _ _ (by kernel_rfl)
theorem r73 {a b c d e f}:(I (L p0 (A p1 p2)) (I (L p3 p4) (I (L p5 (A p0 p3)) (L p5 (A p1 (A p2 (M 1 p4))))))).p [a,b,c,d,e,f]:=w 6 _ _ (by kernel_rfl)
theorem r74 {a b c}:(I (L p0 (A p1 p2)) (L (A p0 (K 1)) (A p1 (A p2 (K 1))))).p [a,b,c]:=w 3 _ _ (by kernel_rfl)
theorem r75 {a b c}:(I (L p0 (A p1 p2)) (L p0 (A p1 (A p2 (K 1))))).p [a,b,c]:=w 3 _ _ (by kernel_rfl)
theorem r76 {a b}:(I (L p0 (K 0)) (I (T p1 p0) F)).p [a,b]:=w 2 _ _ (by kernel_rfl)
theorem r77 {a b}:(I (L p0 (K 1000)) (I (L p1 (A p0 (K 1))) (L p1 (A (K 16777216) (K 1))))).p [a,b]:=w 2 _ _ (by kernel_rfl)
theorem r78 {a b}:(I (L p0 (K 1000000)) (I (E p1 p0) (L p1 (K 1048576)))).p [a,b]:=w 2 _ _ (by kernel_rfl)
theorem r79 {a}:(I (L p0 (K 1000000)) (L p1 (K 1000000))).p [a,a / 2]:=w 2 (I (D 1 p0 1) (I (L p0 (K 1000000)) (L p1 (K 1000000)))) _ (by kernel_rfl) rfl
theorem r82 {a b}:(I (L p0 (K 60)) (I (E p1 (K 300)) (L (A (A (A (K 1) p1) p0) (K 20)) (K 900)))).p [a,b]:=w 2 _ _ (by kernel_rfl)
theorem r83 {a}:(I (L p0 (K 60)) (L (A (K 4) (M 100 (A p0 (K 1)))) (K 9000))).p [a]:=w 1 _ _ (by kernel_rfl)
theorem r85 {a}:(I (L p0 (K 63)) (L p0 (K 1048576))).p [a]:=w 1 _ _ (by kernel_rfl)
theorem r94 {a b}:(I (L p0 (S p1 (K 1))) (I (T (K 0) p1) (L (A p0 (K 1)) p1))).p [a,b]:=w 2 _ _ (by kernel_rfl)
theorem r95 {a b c d}:(I (L p0 p1) (I (E p2 p0) (I (L p1 p3) (L p2 p3)))).p [a,b,c,d]:=w 4 _ _ (by kernel_rfl)
theorem r96 {a b c}:(I (L p0 p1) (I (E p2 p0) (L p2 p1))).p [a,b,c]:=w 3 _ _ (by kernel_rfl)
theorem r97 {a b c}:(I (L p0 p1) (I (L (A (A p2 p1) (K 20)) (K 900)) (L (A (A p2 p0) (K 20)) (K 900)))).p [a,b,c]:=w 3 _ _ (by kernel_rfl)
theorem r98 {a b c}:(I (L p0 p1) (I (L (A p2 (M 100 (A p1 (K 1)))) (K 9000)) (L (A p2 (M 100 (A p0 (K 1)))) (K 9000)))).p [a,b,c]:=w 3 _ _ (by kernel_rfl)
theorem r102 {a b}:(I (L p0 p1) (I (T (A p1 (K 2)) (K 4096)) (T (A p0 (K 1)) (K 4096)))).p [a,b]:=w 2 _ _ (by kernel_rfl)
theorem r103 {a b}:(I (L p0 p1) (L p0 (A (M 2 p1) (K 1)))).p [a,b]:=w 2 _ _ (by kernel_rfl)
theorem r104 {a b}:(I (L p0 p1) (L p0 (A (M 2 p1) (K 2)))).p [a,b]:=w 2 _ _ (by kernel_rfl)
theorem r105 {a b}:(I (L p0 p1) (L p0 (A p1 (K 1)))).p [a,b]:=w 2 _ _ (by kernel_rfl)
theorem r108 {a b}:(I (L p0 p2) (I (N (E p2 p0)) (L (A p0 (K 1)) p2))).p [a,b,(b - 1) / 2]:=w 3 (I (D 2 (S p1 (K 1)) 1) (I (L p0 p2) (I (N (E p2 p0)) (L (A p0 (K 1)) p2)))) _ (by kernel_rfl) rfl
theorem r109 {a b c}:(I (L p0 p3) (I (E p4 p3) (L p0 p4))).p [a,b,c,(b - 1) / 2,(c - 1) / 2]:=w 5 (I (D 3 (S p1 (K 1)) 1) (I (D 4 (S p2 (K 1)) 1) (I (L p0 p3) (I (E p4 p3) (L p0 p4))))) _ (by kernel_rfl) rfl rfl
theorem r111 {a b}:(I (N (E p0 p1)) (I (L p1 p2) (T p2 p0))).p [a,b,(a - 1) / 2]:=w 3 (I (D 2 (S p0 (K 1)) 1) (I (N (E p0 p1)) (I (L p1 p2) (T p2 p0)))) _ (by kernel_rfl) rfl
theorem r112 {a b c}:(I (N (E p0 p1)) (I (L p1 p3) (I (E p4 p3) (N (E p4 p0))))).p [a,b,c,(a - 1) / 2,(c - 1) / 2]:=w 5 (I (D 3 (S p0 (K 1)) 1) (I (D 4 (S p2 (K 1)) 1) (I (N (E p0 p1)) (I (L p1 p3) (I (E p4 p3) (N (E p4 p0))))))) _ (by kernel_rfl) rfl rfl
theorem r113 {a b}:(I (N (E p0 p1)) (I (T p0 (A p1 (K 1))) (T p0 p1))).p [a,b]:=w 2 _ _ (by kernel_rfl)
theorem r114 {a b}:(I (N (E p2 p1)) (I (L p1 p3) (N (E p0 p3)))).p [a,b,(a - 1) / 2,((a - 1) / 2 - 1) / 2]:=w 4 (I (D 2 (S p0 (K 1)) 1) (I (D 3 (S p2 (K 1)) 1) (I (N (E p2 p1)) (I (L p1 p3) (N (E p0 p3)))))) _ (by kernel_rfl) rfl rfl
theorem r115 {a b}:(I (N (E p2 p1)) (I (L p1 p3) (N (E p2 p0)))).p [a,b,(a - 1) / 2,((a - 1) / 2 - 1) / 2]:=w 4 (I (D 2 (S p0 (K 1)) 1) (I (D 3 (S p2 (K 1)) 1) (I (N (E p2 p1)) (I (L p1 p3) (N (E p2 p0)))))) _ (by kernel_rfl) rfl rfl
theorem r116 {a b}:(I (N (E p2 p1)) (I (L p1 p3) (N (E p3 p0)))).p [a,b,(a - 1) / 2,((a - 1) / 2 - 1) / 2]:=w 4 (I (D 2 (S p0 (K 1)) 1) (I (D 3 (S p2 (K 1)) 1) (I (N (E p2 p1)) (I (L p1 p3) (N (E p3 p0)))))) _ (by kernel_rfl) rfl rfl
theorem r117 {a b}:(I (N (E p2 p1)) (I (L p1 p3) (T (K 0) p2))).p [a,b,(a - 1) / 2,((a - 1) / 2 - 1) / 2]:=w 4 (I (D 2 (S p0 (K 1)) 1) (I (D 3 (S p2 (K 1)) 1) (I (N (E p2 p1)) (I (L p1 p3) (T (K 0) p2))))) _ (by kernel_rfl) rfl rfl
theorem r118 {a b}:(I (N (E p2 p1)) (I (T p0 (A p1 (K 1))) (T p2 p1))).p [a,b,(a - 1) / 2]:=w 3 (I (D 2 (S p0 (K 1)) 1) (I (N (E p2 p1)) (I (T p0 (A p1 (K 1))) (T p2 p1)))) _ (by kernel_rfl) rfl
theorem r119 {a b c}:(I (N (E p3 p1)) (I (E p4 p3) (I (L p1 p5) (N (E p4 p0))))).p [a,b,c,(a - 1) / 2,(c - 1) / 2,((a - 1) / 2 - 1) / 2]:=w 6 (I (D 3 (S p0 (K 1)) 1) (I (D 4 (S p2 (K 1)) 1) (I (D 5 (S p3 (K 1)) 1) (I (N (E p3 p1)) (I (E p4 p3) (I (L p1 p5) (N (E p4 p0)))))))) _ (by kernel_rfl) rfl rfl rfl
theorem r120 {a b}:(I (N (T p0 p1)) (I (L p0 p1) (E p1 p0))).p [a,b]:=w 2 _ _ (by kernel_rfl)
theorem r122 {a b c}:(I (N (T p0 p1)) (L (Y p2 p1) p0)).p [a,b,c]:=w 3 _ _ (by kernel_rfl)
theorem r123 {a b}:(I (N (T p0 p1)) (L p1 p0)).p [a,b]:=w 2 _ _ (by kernel_rfl)
theorem r124 {a b c}:(I (T (A (A p0 (K 1)) p1) p2) (T (A p0 (A p1 (K 1))) p2)).p [a,b,c]:=w 3 _ _ (by kernel_rfl)
theorem r125 {a b c d}:(I (T (A (A p0 (M 2 p1)) (K 2)) p2) (I (L p3 p0) (T p3 p2))).p [a,b,c,d]:=w 4 _ _ (by kernel_rfl)
theorem r126 {a b c}:(I (T (A (A p0 (M 2 p1)) (K 2)) p2) (L (A (A p1 (K 1)) (K 1)) p2)).p [a,b,c]:=w 3 _ _ (by kernel_rfl)
theorem r127 {a b c}:(I (T (A (A p0 (M 2 p1)) (K 2)) p2) (T (A (A p0 (K 1)) (M 2 p1)) p2)).p [a,b,c]:=w 3 _ _ (by kernel_rfl)
theorem r129 {a b c}:(I (T (A (M 2 p0) (K 1)) p1) (I (T p0 p2) (T (S p1 p2) (S p1 p0)))).p [a,b,c]:=w 3 _ _ (by kernel_rfl)
theorem r130 {a b}:(I (T (A (M 2 p0) (K 1)) p1) (T (A (M 2 p0) (K 1)) p1)).p [a,b]:=w 2 _ _ (by kernel_rfl)
theorem r131 {a b}:(I (T (A (M 2 p0) (K 1)) p1) (T (S p1 (A (M 2 p0) (K 1))) (S p1 p0))).p [a,b]:=w 2 _ _ (by kernel_rfl)
theorem r132 {a b}:(I (T (A (M 2 p0) (K 1)) p1) (T (S p1 (A (M 2 p0) (K 2))) (S p1 p0))).p [a,b]:=w 2 _ _ (by kernel_rfl)
theorem r133 {a b}:(I (T (A (M 2 p0) (K 2)) p1) (T (A (M 2 p0) (K 1)) p1)).p [a,b]:=w 2 _ _ (by kernel_rfl)
theorem r134 {a b}:(I (T (A (M 2 p0) (K 2)) p1) (T (A (M 2 p0) (K 2)) p1)).p [a,b]:=w 2 _ _ (by kernel_rfl)
theorem r135 {a b c}:(I (T (A p0 (K 2)) (K 4096)) (I (L (A p1 (A p2 (K 1))) p0) (T p1 (K 1048576)))).p [a,b,c]:=w 3 _ _ (by kernel_rfl)
theorem r136 {a b}:(I (T (A p0 (K 2)) (K 4096)) (I (L (A p1 (K 1)) p0) (L (A p1 (K 1)) (K 1048576)))).p [a,b]:=w 2 _ _ (by kernel_rfl)
theorem r137 {a b}:(I (T (A p0 (K 2)) (K 4096)) (I (L p1 p0) (L p1 (K 1048575)))).p [a,b]:=w 2 _ _ (by kernel_rfl)
theorem r138 {a b}:(I (T (A p0 (K 2)) (K 4096)) (I (L p1 p0) (T p1 (K 1048576)))).p [a,b]:=w 2 _ _ (by kernel_rfl)
theorem r139 {a}:(I (T (A p0 (K 2)) (K 4096)) (L p0 (K 1048576))).p [a]:=w 1 _ _ (by kernel_rfl)
theorem r140 {a b c d}:(I (T (A p0 (M 2 (A p1 (K 1)))) p2) (I (L p3 (A p0 (K 1))) (L (A p3 (K 1)) p2))).p [a,b,c,d]:=w 4 _ _ (by kernel_rfl)
theorem r141 {a b c d}:(I (T (A p0 (M 2 (A p1 (K 1)))) p2) (I (L p3 p0) (T p3 p2))).p [a,b,c,d]:=w 4 _ _ (by kernel_rfl)
theorem r142 {a b c}:(I (T (A p0 (M 2 (A p1 (K 1)))) p2) (T (A (A p0 (K 2)) (M 2 p1)) p2)).p [a,b,c]:=w 3 _ _ (by kernel_rfl)
theorem r144:(I (T (K 0) (K 0)) F).p []:=w 0 _ _ (by kernel_rfl)
theorem r145 {a b}:(I (T (K 0) p0) (I (E p2 p1) (I (N (E p0 (A (M 2 p1) (K 1)))) (E p0 (A (M 2 p1) (K 2)))))).p [a,b,(a - 1) / 2]:=w 3 (I (D 2 (S p0 (K 1)) 1) (I (T (K 0) p0) (I (E p2 p1) (I (N (E p0 (A (M 2 p1) (K 1)))) (E p0 (A (M 2 p1) (K 2))))))) _ (by kernel_rfl) rfl
theorem r146 {a b}:(I (T (K 0) p0) (I (E p2 p1) (I (N (E p0 (A (M 2 p1) (K 2)))) (E p0 (A (M 2 p1) (K 1)))))).p [a,b,(a - 1) / 2]:=w 3 (I (D 2 (S p0 (K 1)) 1) (I (T (K 0) p0) (I (E p2 p1) (I (N (E p0 (A (M 2 p1) (K 2)))) (E p0 (A (M 2 p1) (K 1))))))) _ (by kernel_rfl) rfl
theorem r147 {a b}:(I (T (K 0) p0) (I (E p2 p1) (I (T p0 (A p1 (K 1))) F))).p [a,b,(a - 1) / 2]:=w 3 (I (D 2 (S p0 (K 1)) 1) (I (T (K 0) p0) (I (E p2 p1) (I (T p0 (A p1 (K 1))) F)))) _ (by kernel_rfl) rfl
theorem r148 {a b c}:(I (T (K 0) p0) (I (E p3 p1) (I (E p4 p0) (N (E p4 p1))))).p [a,b,c,(a - 1) / 2,(c - 1) / 2]:=w 5 (I (D 3 (S p0 (K 1)) 1) (I (D 4 (S p2 (K 1)) 1) (I (T (K 0) p0) (I (E p3 p1) (I (E p4 p0) (N (E p4 p1))))))) _ (by kernel_rfl) rfl rfl
theorem r149 {a}:(I (T (K 0) p0) (I (L p0 p1) F)).p [a,(a - 1) / 2]:=w 2 (I (D 1 (S p0 (K 1)) 1) (I (T (K 0) p0) (I (L p0 p1) F))) _ (by kernel_rfl) rfl
theorem r150 {a b}:(I (T (K 0) p0) (I (L p1 (S p0 (K 1))) (T p1 p0))).p [a,b]:=w 2 _ _ (by kernel_rfl)
theorem r152 {a b}:(I (T (K 0) p0) (I (L p1 p2) (N (E p0 p1)))).p [a,b,(a - 1) / 2]:=w 3 (I (D 2 (S p0 (K 1)) 1) (I (T (K 0) p0) (I (L p1 p2) (N (E p0 p1))))) _ (by kernel_rfl) rfl
theorem r153 {a b}:(I (T (K 0) p0) (I (T p0 p1) (I (L p2 p3) F))).p [a,b,b / 2,(a - 1) / 2]:=w 4 (I (D 2 p1 1) (I (D 3 (S p0 (K 1)) 1) (I (T (K 0) p0) (I (T p0 p1) (I (L p2 p3) F))))) _ (by kernel_rfl) rfl rfl
theorem r154 {a}:(I (T (K 0) p0) (N (E p0 p1))).p [a,(a - 1) / 2]:=w 2 (I (D 1 (S p0 (K 1)) 1) (I (T (K 0) p0) (N (E p0 p1)))) _ (by kernel_rfl) rfl
theorem r155 {a}:(I (T (K 0) p0) (T p1 p0)).p [a,(a - 1) / 2]:=w 2 (I (D 1 (S p0 (K 1)) 1) (I (T (K 0) p0) (T p1 p0))) _ (by kernel_rfl) rfl
theorem r156 {a}:(I (T (K 0) p0) (T p1 p0)).p [a,(a - 2) / 2]:=w 2 (I (D 1 (S p0 (K 2)) 1) (I (T (K 0) p0) (T p1 p0))) _ (by kernel_rfl) rfl
theorem r167 {a b}:(I (T p0 (A p1 (K 1))) (T p0 (A p1 (K 1)))).p [a,b]:=w 2 _ _ (by kernel_rfl)
theorem r168 {a b}:(I (T p0 (A p1 (K 1))) (T p2 (A p1 (K 1)))).p [a,b,(a - 1) / 2]:=w 3 (I (D 2 (S p0 (K 1)) 1) (I (T p0 (A p1 (K 1))) (T p2 (A p1 (K 1))))) _ (by kernel_rfl) rfl
theorem r172 {a}:(I (T p0 (K 64)) (L (A p0 (K 1)) (K 64))).p [a]:=w 1 _ _ (by kernel_rfl)
theorem r180 {a}:(I (T p0 p0) F).p [a]:=w 1 _ _ (by kernel_rfl)
theorem r181 {a b c}:(I (T p0 p1) (I (E p2 p1) (T p0 p2))).p [a,b,c]:=w 3 _ _ (by kernel_rfl)
theorem r182 {a b c}:(I (T p0 p1) (I (E p3 p4) (T p4 p1))).p [a,b,c,(a - 1) / 2,(c - 1) / 2]:=w 5 (I (D 3 (S p0 (K 1)) 1) (I (D 4 (S p2 (K 1)) 1) (I (T p0 p1) (I (E p3 p4) (T p4 p1))))) _ (by kernel_rfl) rfl rfl
theorem r184 {a b c}:(I (T p0 p1) (I (T p0 p2) (T p0 (Y p1 p2)))).p [a,b,c]:=w 3 _ _ (by kernel_rfl)
theorem r186 {a b c}:(I (T p0 p1) (I (T p2 p0) (T p2 p1))).p [a,b,c]:=w 3 _ _ (by kernel_rfl)
theorem r187 {a b c}:(I (T p0 p1) (L (A (A p2 (S p1 (A p0 (K 1)))) (K 1)) (A p2 (S p1 p0)))).p [a,b,c]:=w 3 _ _ (by kernel_rfl)
theorem r188 {a b}:(I (T p0 p1) (L (A p0 (K 1)) p1)).p [a,b]:=w 2 _ _ (by kernel_rfl)
theorem r189 {a b}:(I (T p0 p1) (L p0 (S p1 (K 1)))).p [a,b]:=w 2 _ _ (by kernel_rfl)
theorem r190 {a b}:(I (T p0 p1) (L p0 p1)).p [a,b]:=w 2 _ _ (by kernel_rfl)
theorem r191 {a b}:(I (T p0 p1) (N (E p1 p0))).p [a,b]:=w 2 _ _ (by kernel_rfl)
theorem r192 {a b}:(I (T p0 p1) (N (E p1 p2))).p [a,b,(b - 1) / 2]:=w 3 (I (D 2 (S p1 (K 1)) 1) (I (T p0 p1) (N (E p1 p2)))) _ (by kernel_rfl) rfl
theorem r193 {a b}:(I (T p0 p1) (T (S p1 (A p0 (K 1))) (S p1 p0))).p [a,b]:=w 2 _ _ (by kernel_rfl)
theorem r194 {a b}:(I (T p0 p1) (T p0 p1)).p [a,b]:=w 2 _ _ (by kernel_rfl)
theorem r195 {a b}:(I (T p0 p1) (T p2 p1)).p [a,b,(a - 1) / 2]:=w 3 (I (D 2 (S p0 (K 1)) 1) (I (T p0 p1) (T p2 p1))) _ (by kernel_rfl) rfl
theorem r196 {a b}:(I (T p0 p1) (T p2 p1)).p [a,b,(b - 1) / 2]:=w 3 (I (D 2 (S p1 (K 1)) 1) (I (T p0 p1) (T p2 p1))) _ (by kernel_rfl) rfl
theorem r197 {a b}:(I (T p0 p2) (T p0 p1)).p [a,b,b / 2]:=w 3 (I (D 2 p1 1) (I (T p0 p2) (T p0 p1))) _ (by kernel_rfl) rfl
theorem r198 {a b}:(I (T p2 p1) (T p2 p1)).p [a,b,(a - 1) / 2]:=w 3 (I (D 2 (S p0 (K 1)) 1) (I (T p2 p1) (T p2 p1))) _ (by kernel_rfl) rfl
theorem r199 {a b}:(L (A (A p0 (K 1)) (M 2 p1)) (A (A p0 (M 2 p1)) (K 1))).p [a,b]:=w 2 _ _ (by kernel_rfl)
theorem r200 {a b}:(L (A (A p0 (K 2)) (M 2 p1)) (A p0 (M 2 (A p1 (K 1))))).p [a,b]:=w 2 _ _ (by kernel_rfl)
theorem r201 {a}:(L (A (K 0) p0) p0).p [a]:=w 1 _ _ (by kernel_rfl)
theorem r202 {a b c}:(L (A p0 (A p1 p2)) (A (A p0 (A p2 (K 1))) p1)).p [a,b,c]:=w 3 _ _ (by kernel_rfl)
theorem r203 {a}:(L p0 (A (A p0 (K 1)) (K 1))).p [a]:=w 1 _ _ (by kernel_rfl)
theorem r205 {a b c}:(L p0 (A p0 (S p1 p2))).p [a,b,c]:=w 3 _ _ (by kernel_rfl)
theorem r207 {a}:(L p1 p0).p [a,a / 2]:=w 2 (I (D 1 p0 1) (L p1 p0)) _ (by kernel_rfl) rfl
theorem r208 {a}:(N (E p0 (A (M 2 p0) (K 1)))).p [a]:=w 1 _ _ (by kernel_rfl)
theorem r209 {a}:(N (E p0 (A (M 2 p0) (K 2)))).p [a]:=w 1 _ _ (by kernel_rfl)
theorem r210 {a}:(T (K 0) (A (M 2 p0) (K 1))).p [a]:=w 1 _ _ (by kernel_rfl)
theorem r211 {a}:(T (K 0) (A (M 2 p0) (K 2))).p [a]:=w 1 _ _ (by kernel_rfl)
theorem r212:(T (K 0) (K 4096)).p []:=w 0 _ _ (by kernel_rfl)
theorem r213 {a}:(T (K 3) (A (A (A (A (A (A (K 0) (K 1)) (K 1)) (K 1)) (K 1)) (K 1)) p0)).p [a]:=w 1 _ _ (by kernel_rfl)
theorem r214 {a}:(T p0 (A (M 2 p0) (K 1))).p [a]:=w 1 _ _ (by kernel_rfl)
theorem r215 {a}:(T p0 (A (M 2 p0) (K 2))).p [a]:=w 1 _ _ (by kernel_rfl)
theorem r217 {a b}:(T p0 (A p1 (S (A p0 (K 1)) p1))).p [a,b]:=w 2 _ _ (by kernel_rfl)
theorem r223 {a:Int}(_:0 < a/\a < 1073741824):0<=a:=by omega
theorem r224 {a:Int}(_:0 < a/\a < 1073741824):a ≠ 0:=by lia
theorem r225 {a:Int}(_:0 < a):0<=a:=by lia
theorem r226 {a:Int}(_:0 < a):a ≠ 0:=by lia
theorem r228 {a:Int}(_:0<=a):0<=a + 1:=by lia
theorem r229 {a:Int}(_:0<=a):¬a < 0:=by lia
theorem r231 {a:Int}(_:a < 0):a ≠ 0:=by lia
theorem r232 {a:Int}(_:a > 0):0<=a:=by lia
theorem r233 {a:Int}(_:¬0<=a):a < 0:=by lia
theorem r237 {a:Int}{b:Int}(_:a < b):0<=b - a - 1:=by lia
theorem r238 {a:Int}{b:Int}(_:a > b):0<=a - b - 1:=by lia
theorem r239 {a:Int}{b:Int}{c:Int}{d:Int}{e:Int}{f:Int}(_:a < b\/a=b/\c < d)(_:b < e\/b=e/\d < f):a < e\/a=e/\c < f:=by lia
theorem r240 {a:Int}{b:Int}{c:Int}{d:Int}{e:Nat}(_:((((((-1000000000 < a/\a < 1000000000)/\-1000000000 < b)/\b < 1000000000)/\-1000000 < c)/\c < 1000000)/\c ≠ 0)/\d.toNat<=e):c ≠ 0:=by omega
theorem r244 {a:Int}{b:Nat}{c:Nat}(_:a < (b:Int))(_:c=b):a < (c:Int):=by lia
theorem r247 {a:Nat} (_:a > 0) (_:a % 2=0):a=2 * ((a - 2) / 2) + 2:=by omega
theorem r253 {a:Nat}:0 + (a:Int) * 1=(a:Int):=by lia
theorem r254 {a:Nat}:0<=(a:Int):=by lia
theorem r255 {a:Nat}:¬(a:Int) < 0:=by lia
theorem r261 {a:Nat}{b:Nat}(_:((a + b):Int)=(b:Int)):a=0:=by lia
theorem r266 {a:Nat}{b:Nat}:((2 * a + 2):Int) < (b:Int) <-> 2 * a + 2 < b:=by omega
theorem r267 {a:Nat}{b:Nat}:((a + b):Int) - (b:Int)=(a:Int):=by lia
theorem r268 {a:Nat}{b:Nat}:(a:Int)<=((b + a):Int):=by lia
end Ar
end Mine
end
section
set_option genInjectivity false
set_option genSizeOf false
namespace Mine
theorem nqa {α:Type}{P:Prop}{a:α}(h:none=some a):P:=nomatch h
theorem nqb {α:Type}{P:Prop}{a:α}(h:some a=none):P:=nomatch h
theorem nqc {P:Prop}(h:true=false):P:=nomatch h
theorem nqd {P:Prop}(h:false=true):P:=nomatch h
structure Cx where
 prog:Program
 w:World
 h0:Heap
 mg:Str->Option Value
 mb:Str->Option Value
 tsC:Addr
 niC:Addr
 ns:h0.Ns mainGlobals mg
 nb:h0.Ns builtinsNs mb
 lim:h0.NoLimit
inductive AV where
 | undef
 | none
 | bool (b:Bool)
 | int (i:Int)
 | str (s:Str)
 | tup (vs:List AV)
 | fl (vs:List AV)
 | ref (a:Addr)
 | row (a:Addr) (i:Nat)
 | bi (id:String)
 | ty (n:String)
mutual
noncomputable def AV.sto:AV->Bool
 | .row _ _=>false
 | .tup vs=>AV.stos vs
 | .fl vs=>AV.stos vs
 | _=>true
noncomputable def AV.stos:List AV->Bool
 | []=>true
 | v :: r=>v.sto && AV.stos r
end
theorem stos_iff:∀ {vs:List AV},AV.stos vs=true <-> ∀ v ∈ vs,v.sto=true
 | []=>by simp[AV.stos]
 | v :: r=>by simp[AV.stos,stos_iff (vs:=r)]
inductive FObj where
 | lst (lk:Bool) (vs:List AV)
 | mat (lk:Bool) (M:List (List AV))
 | dic (lk:Bool) (es:List (Int × AV))
 | iset (ks:List Int)
 | inst (c:Addr) (attrs:List (Str × AV))
 | slots (c:Addr) (vs:List (Option AV))
 | nxt (src:Addr) (pos:Nat)
noncomputable def FObj.lk:FObj->Bool
 | .lst b _=>b
 | .dic b _=>b
 | .mat b _=>b
 | _=>false
structure NodeS where
 key:Int
 npred:Int
 succs:List Int
structure SState where
 nodes:List NodeS
 ready:Option (List Int)
 passed:Int
 fin:Int
inductive AObj where
 | f (o:FObj)
 | srt (S:SState)
theorem fI {o o':FObj}(h:some (AObj.f o)=some (AObj.f o')):o=o':=by cases h;rfl
noncomputable abbrev AH:=Addr->Option AObj
noncomputable abbrev Gh:=Addr->List Addr
noncomputable abbrev Rho:=Nat->AV
noncomputable def upd (H:AH) (a:Addr) (o:AObj):AH:=fun b=>if b=a then some o else H b
noncomputable def del (H:AH) (a:Addr):AH:=fun b=>if b=a then none else H b
noncomputable def Cd (G:Gh) (a:Addr) (l:List Addr):Gh:=fun b=>if b=a then l else G b
noncomputable def Rho.set (ρ:Rho) (i:Nat) (v:AV):Rho:=fun j=>if j=i then v else ρ j
@[simp] theorem Ad {H:AH} {a o}:upd H a o a=some o:=by simp[upd]
theorem Aa {H:AH}{a b o}(h:b ≠ a):upd H a o b=H b:=by simp[upd,h]
@[simp] theorem Rho.set_self {ρ:Rho} {i v}:ρ.set i v i=v:=by simp[Rho.set]
theorem Rho.set_ne {ρ:Rho}{i j v}(h:j ≠ i):ρ.set i v j=ρ j:=by simp[Rho.set,h]
noncomputable def own (H:AH) (G:Gh) (b:Addr):Prop:=∃ a,H a ≠ none/\(b=a\/b ∈ G a)
noncomputable def lim:Nat:=1048576
theorem Au:lim=1048576:=rfl
noncomputable def Bt (items:List Value) (n:Nat):Obj:={ cls:=.type "list",dict:=none,data:=.seq items.toArray n,slots:=#[] }
noncomputable def Kz (items:List Value) (n:Nat):Obj:={ cls:=.type "tuple",dict:=none,data:=.seq items.toArray n,slots:=#[] }
mutual
noncomputable def VRel (h:Heap) (O:Addr->Prop) (G:Gh):AV->Value->Prop
 | .undef,_=>False
 | .none,v=>v = .none
 | .bool b,v=>v = .bool b
 | .int i,v=>∃ t,v = .int i t
 | .str s,v=>∃ t,v = .str s t
 | .ref a,v=>v = .ref a
 | .bi id,v=>v = .builtin id
 | .ty n,v=>v = .type n
 | .row a i,v=>∃ b,(G a)[i]? = some b/\v = .ref b
 | .tup vs,v=>∃ a n items,v = .ref a/\h.get? a=some (Kz items n)/\¬ O a/\vs.length<=lim/\VRels h O G vs items
 | .fl vs,v=>∃ a n items,v = .ref a/\h.get? a=some (Bt items n)/\¬ O a/\vs.length<=lim/\VRels h O G vs items
noncomputable def VRels (h:Heap) (O:Addr->Prop) (G:Gh):List AV->List Value->Prop
 | [],vs=>vs=[]
 | x :: xs,vs=>∃ v r,vs=v :: r/\VRel h O G x v/\VRels h O G xs r
end
theorem vRu {h:Heap}{O:Addr->Prop}{G:Gh}{v:Value}:VRel h O G .undef v=False:=rfl
theorem vRn {h:Heap}{O:Addr->Prop}{G:Gh}{v:Value}:VRel h O G .none v=(v = .none):=rfl
theorem vRb {h:Heap}{O:Addr->Prop}{G:Gh}{v:Value}{b:Bool}:VRel h O G (.bool b) v=(v = .bool b):=rfl
theorem vRi {h:Heap}{O:Addr->Prop}{G:Gh}{v:Value}{i:Int}:VRel h O G (.int i) v=(∃ t,v = .int i t):=rfl
theorem vRs {h:Heap}{O:Addr->Prop}{G:Gh}{v:Value}{s:Str}:VRel h O G (.str s) v=(∃ t,v = .str s t):=rfl
theorem vRr {h:Heap}{O:Addr->Prop}{G:Gh}{v:Value}{a:Addr}:VRel h O G (.ref a) v=(v = .ref a):=rfl
theorem vRk {h:Heap}{O:Addr->Prop}{G:Gh}{v:Value}{i}:VRel h O G (.bi i) v=(v = .builtin i):=rfl
theorem vRt {h:Heap}{O:Addr->Prop}{G:Gh}{v:Value}{n}:VRel h O G (.ty n) v=(v = .type n):=rfl
theorem vRw {h:Heap}{O:Addr->Prop}{G:Gh}{v:Value}{a:Addr}{i:Nat}:VRel h O G (.row a i) v=(∃ b,(G a)[i]? = some b/\v = .ref b):=rfl
theorem vRp {h:Heap}{O:Addr->Prop}{G:Gh}{v:Value}{vs:List AV}:VRel h O G (.tup vs) v=(∃ a n items,v = .ref a/\h.get? a=some (Kz items n)/\¬ O a/\vs.length<=lim/\VRels h O G vs items):=rfl
theorem vRf {h:Heap}{O:Addr->Prop}{G:Gh}{v:Value}{vs:List AV}:VRel h O G (.fl vs) v=(∃ a n items,v = .ref a/\h.get? a=some (Bt items n)/\¬ O a/\vs.length<=lim/\VRels h O G vs items):=rfl
theorem vSn {h:Heap}{O:Addr->Prop}{G:Gh}{vs:List Value}:VRels h O G [] vs=(vs=[]):=rfl
theorem vSc {h:Heap}{O:Addr->Prop}{G:Gh}{vs:List Value}{x:AV}{xs:List AV}:VRels h O G (x :: xs) vs=(∃ v r,vs=v :: r/\VRel h O G x v/\VRels h O G xs r):=rfl
section
variable {h h':Heap} {O O':Addr->Prop} {G G':Gh}
mutual
theorem VRel.mono (hk:∀ b o xs n,h.get? b=some o->o.data = .seq xs n->¬ O b->h'.get? b=some o/\¬ O' b):∀ {v:AV} {x:Value},v.sto=true->VRel h O G v x->VRel h' O' G' v x
 | .undef,_,_,r=>by simp[vRu]at r
 | .none,_,_,r=>by simpa [vRu,vRn,vRb,vRi,vRs,vRr,vRk,vRt,vRw,vRp,vRf]using r
 | .bool b,_,_,r=>by simpa [vRu,vRn,vRb,vRi,vRs,vRr,vRk,vRt,vRw,vRp,vRf]using r
 | .int i,_,_,r=>by simpa [vRu,vRn,vRb,vRi,vRs,vRr,vRk,vRt,vRw,vRp,vRf]using r
 | .str s,_,_,r=>by simpa [vRu,vRn,vRb,vRi,vRs,vRr,vRk,vRt,vRw,vRp,vRf]using r
 | .ref a,_,_,r=>by simpa [vRu,vRn,vRb,vRi,vRs,vRr,vRk,vRt,vRw,vRp,vRf]using r
 | .bi a,_,_,r=>by simpa [vRu,vRn,vRb,vRi,vRs,vRr,vRk,vRt,vRw,vRp,vRf]using r
 | .ty a,_,_,r=>by simpa [vRu,vRn,vRb,vRi,vRs,vRr,vRk,vRt,vRw,vRp,vRf]using r
 | .row a i,_,s,_=>by simp[AV.sto]at s
 | .tup vs,x,s,r=>by
  simp only [vRp]at r ⊢
  obtain⟨a,n,items,e,hg,ho,hz,hr⟩:=r
  exact⟨a,n,items,e,(hk a _ _ n hg rfl ho).1,(hk a _ _ n hg rfl ho).2,hz,VRels.mono hk (by simpa [AV.sto]using s) hr⟩
 | .fl vs,x,s,r=>by
  simp only [vRf]at r ⊢
  obtain⟨a,n,items,e,hg,ho,hz,hr⟩:=r
  exact⟨a,n,items,e,(hk a _ _ n hg rfl ho).1,(hk a _ _ n hg rfl ho).2,hz,VRels.mono hk (by simpa [AV.sto]using s) hr⟩
theorem VRels.mono (hk:∀ b o xs n,h.get? b=some o->o.data = .seq xs n->¬ O b->h'.get? b=some o/\¬ O' b):∀ {vs:List AV} {xs:List Value},AV.stos vs=true->VRels h O G vs xs->VRels h' O' G' vs xs
 | [],xs,_,r=>by simpa [vSn,vSc]using r
 | v :: vs,xs,s,r=>by
  simp only [vSc]at r ⊢
  simp only [AV.stos,Bool.and_eq_true]at s
  obtain⟨x,q,e,h1,h2⟩:=r
  exact⟨x,q,e,VRel.mono hk s.1 h1,VRels.mono hk s.2 h2⟩
end
mutual
theorem VRel.keep (hk:∀ b o,h.get? b=some o->h'.get? b=some o):∀ {v:AV} {x:Value},VRel h O G v x->VRel h' O G v x
 | .undef,_,r=>by simp[vRu]at r
 | .none,_,r=>by simpa [vRu,vRn,vRb,vRi,vRs,vRr,vRk,vRt,vRw,vRp,vRf]using r
 | .bool b,_,r=>by simpa [vRu,vRn,vRb,vRi,vRs,vRr,vRk,vRt,vRw,vRp,vRf]using r
 | .int i,_,r=>by simpa [vRu,vRn,vRb,vRi,vRs,vRr,vRk,vRt,vRw,vRp,vRf]using r
 | .str s,_,r=>by simpa [vRu,vRn,vRb,vRi,vRs,vRr,vRk,vRt,vRw,vRp,vRf]using r
 | .ref a,_,r=>by simpa [vRu,vRn,vRb,vRi,vRs,vRr,vRk,vRt,vRw,vRp,vRf]using r
 | .bi a,_,r=>by simpa [vRu,vRn,vRb,vRi,vRs,vRr,vRk,vRt,vRw,vRp,vRf]using r
 | .ty a,_,r=>by simpa [vRu,vRn,vRb,vRi,vRs,vRr,vRk,vRt,vRw,vRp,vRf]using r
 | .row a i,_,r=>by simpa [vRu,vRn,vRb,vRi,vRs,vRr,vRk,vRt,vRw,vRp,vRf]using r
 | .tup vs,x,r=>by
  simp only [vRp]at r ⊢
  obtain⟨a,n,items,e,hg,ho,hz,hr⟩:=r
  exact⟨a,n,items,e,hk a _ hg,ho,hz,VRels.keep hk hr⟩
 | .fl vs,x,r=>by
  simp only [vRf]at r ⊢
  obtain⟨a,n,items,e,hg,ho,hz,hr⟩:=r
  exact⟨a,n,items,e,hk a _ hg,ho,hz,VRels.keep hk hr⟩
theorem VRels.keep (hk:∀ b o,h.get? b=some o->h'.get? b=some o):∀ {vs:List AV} {xs:List Value},VRels h O G vs xs->VRels h' O G vs xs
 | [],xs,r=>by simpa [vSn,vSc]using r
 | v :: vs,xs,r=>by
  simp only [vSc]at r ⊢
  obtain⟨x,q,e,h1,h2⟩:=r
  exact⟨x,q,e,VRel.keep hk h1,VRels.keep hk h2⟩
end
theorem VRels.length:∀ {vs:List AV} {xs:List Value},VRels h O G vs xs->xs.length=vs.length
 | [],_,r=>by simp only [vSn]at r;simp[r]
 | _ :: vs,_,r=>by
  simp only [vSc]at r
  obtain⟨x,q,e,_,h2⟩:=r
  simp[e,VRels.length h2]
theorem VRels.get:∀ {vs:List AV} {xs:List Value} {i:Nat} {v:AV},VRels h O G vs xs->vs[i]? = some v->∃ x,xs[i]? = some x/\VRel h O G v x
 | [],_,_,_,_,e=>by simp at e
 | w :: vs,_,i,v,r,e=>by
  simp only [vSc]at r
  obtain⟨x,q,rfl,h1,h2⟩:=r
  cases i with
  | zero=>simp at e;subst e;exact⟨x,by simp,h1⟩
  | succ i=>simp at e;obtain⟨y,hy,hr⟩:=VRels.get h2 e;exact⟨y,by simpa using hy,hr⟩
theorem VRels.append:∀ {vs ws:List AV} {xs ys:List Value},VRels h O G vs xs->VRels h O G ws ys->VRels h O G (vs++ws) (xs++ys)
 | [],_,_,_,r,r'=>by simp only [vSn]at r;subst r;simpa using r'
 | _ :: vs,_,_,_,r,r'=>by
  simp only [vSc]at r
  obtain⟨x,q,rfl,h1,h2⟩:=r
  simp only [List.cons_append,vSc]
  exact⟨x,_,rfl,h1,VRels.append h2 r'⟩
theorem VRels.nil:VRels h O G [] []:=by simp[vSn]
theorem VRels.cons {v vs x xs}(a:VRel h O G v x)(b:VRels h O G vs xs):VRels h O G (v :: vs) (x :: xs):=by simp only [vSc];exact⟨x,xs,rfl,a,b⟩
theorem VRels.one {v x}(a:VRel h O G v x):VRels h O G [v] [x]:=.cons a .nil
theorem VRels.set:∀ {vs:List AV} {xs:List Value} {i:Nat} {v:AV} {x:Value},VRels h O G vs xs->VRel h O G v x->VRels h O G (vs.set i v) (xs.set i x)
 | [],_,_,_,_,r,_=>by simp only [vSn]at r;subst r;simp[vSn]
 | w :: vs,_,i,v,x,r,rv=>by
  simp only [vSc]at r
  obtain⟨y,q,rfl,h1,h2⟩:=r
  cases i with
  | zero=>simp only [List.set_cons_zero,vSc];exact⟨_,_,rfl,rv,h2⟩
  | succ i=>simp only [List.set_cons_succ,vSc];exact⟨_,_,rfl,h1,VRels.set h2 rv⟩
theorem VRels.take:∀ {vs:List AV} {xs:List Value} (n:Nat),VRels h O G vs xs->VRels h O G (vs.take n) (xs.take n)
 | [],_,n,r=>by simp only [vSn]at r;subst r;simp[vSn]
 | w :: vs,_,n,r=>by
  simp only [vSc]at r
  obtain⟨y,q,rfl,h1,h2⟩:=r
  cases n with
  | zero=>simp[vSn]
  | succ n=>simp only [List.take_succ_cons,vSc];exact⟨_,_,rfl,h1,VRels.take n h2⟩
end
end Mine
end
section
namespace Mine
section
variable {P:Prop} {α β γ:Type} {r:α}
theorem bW {o:Option AObj}{A:Bool->List AV->Option α}(h:(match o with | some (.f (.lst lk vs))=>A lk vs | _=>none)=some r)(k:∀ lk vs,o=some (.f (.lst lk vs))->A lk vs=some r->P):P:=by
 generalize e:o=o' at h;revert e;revert h;cases o' with
 | none=>exact nqa
 | some x=>cases x with
  | srt=>exact nqa
  | f x=>cases x <;> first | exact nqa | exact fun h e=>k _ _ e h
theorem gV {o:Option AObj}{A:List AV->Option α}(h:(match o with | some (.f (.lst true vs))=>A vs | _=>none)=some r)(k:∀ vs,o=some (.f (.lst true vs))->A vs=some r->P):P:=by
 generalize e:o=o' at h;revert e;revert h;cases o' with
 | none=>exact nqa
 | some x=>cases x with
  | srt=>exact nqa
  | f x=>cases x <;> first | exact nqa | (cases lk <;> first | exact nqa | exact fun h e=>k _ e h)
theorem cX {o:Option AObj}{A:List AV->Option α}(h:(match o with | some (.f (.lst false vs))=>A vs | _=>none)=some r)(k:∀ vs,o=some (.f (.lst false vs))->A vs=some r->P):P:=by
 generalize e:o=o' at h;revert e;revert h;cases o' with
 | none=>exact nqa
 | some x=>cases x with
  | srt=>exact nqa
  | f x=>cases x <;> first | exact nqa | (cases lk <;> first | exact nqa | exact fun h e=>k _ e h)
theorem gU {o:Option AObj}{A:Bool->List (List AV)->Option α}(h:(match o with | some (.f (.mat lk vs))=>A lk vs | _=>none)=some r)(k:∀ lk vs,o=some (.f (.mat lk vs))->A lk vs=some r->P):P:=by
 generalize e:o=o' at h;revert e;revert h;cases o' with
 | none=>exact nqa
 | some x=>cases x with
  | srt=>exact nqa
  | f x=>cases x <;> first | exact nqa | exact fun h e=>k _ _ e h
theorem gT {o:Option AObj}{A:List (List AV)->Option α}(h:(match o with | some (.f (.mat true vs))=>A vs | _=>none)=some r)(k:∀ vs,o=some (.f (.mat true vs))->A vs=some r->P):P:=by
 generalize e:o=o' at h;revert e;revert h;cases o' with
 | none=>exact nqa
 | some x=>cases x with
  | srt=>exact nqa
  | f x=>cases x <;> first | exact nqa | (cases lk <;> first | exact nqa | exact fun h e=>k _ e h)
theorem cW {o:Option AObj}{A:List (List AV)->Option α}(h:(match o with | some (.f (.mat false vs))=>A vs | _=>none)=some r)(k:∀ vs,o=some (.f (.mat false vs))->A vs=some r->P):P:=by
 generalize e:o=o' at h;revert e;revert h;cases o' with
 | none=>exact nqa
 | some x=>cases x with
  | srt=>exact nqa
  | f x=>cases x <;> first | exact nqa | (cases lk <;> first | exact nqa | exact fun h e=>k _ e h)
theorem gY {o:Option AObj}{A:Bool->List (Int × AV)->Option α}(h:(match o with | some (.f (.dic lk vs))=>A lk vs | _=>none)=some r)(k:∀ lk vs,o=some (.f (.dic lk vs))->A lk vs=some r->P):P:=by
 generalize e:o=o' at h;revert e;revert h;cases o' with
 | none=>exact nqa
 | some x=>cases x with
  | srt=>exact nqa
  | f x=>cases x <;> first | exact nqa | exact fun h e=>k _ _ e h
theorem gX {o:Option AObj}{A:List (Int × AV)->Option α}(h:(match o with | some (.f (.dic true vs))=>A vs | _=>none)=some r)(k:∀ vs,o=some (.f (.dic true vs))->A vs=some r->P):P:=by
 generalize e:o=o' at h;revert e;revert h;cases o' with
 | none=>exact nqa
 | some x=>cases x with
  | srt=>exact nqa
  | f x=>cases x <;> first | exact nqa | (cases lk <;> first | exact nqa | exact fun h e=>k _ e h)
theorem cZ {o:Option AObj}{A:List (Int × AV)->Option α}(h:(match o with | some (.f (.dic false vs))=>A vs | _=>none)=some r)(k:∀ vs,o=some (.f (.dic false vs))->A vs=some r->P):P:=by
 generalize e:o=o' at h;revert e;revert h;cases o' with
 | none=>exact nqa
 | some x=>cases x with
  | srt=>exact nqa
  | f x=>cases x <;> first | exact nqa | (cases lk <;> first | exact nqa | exact fun h e=>k _ e h)
theorem gW {o:Option AObj}{A:List Int->Option α}(h:(match o with | some (.f (.iset vs))=>A vs | _=>none)=some r)(k:∀ vs,o=some (.f (.iset vs))->A vs=some r->P):P:=by
 generalize e:o=o' at h;revert e;revert h;cases o' with
 | none=>exact nqa
 | some x=>cases x with
  | srt=>exact nqa
  | f x=>cases x <;> first | exact nqa | exact fun h e=>k _ e h
theorem cY {o:Option AObj}{A:Addr->List (Str × AV)->Option α}(h:(match o with | some (.f (.inst c vs))=>A c vs | _=>none)=some r)(k:∀ c vs,o=some (.f (.inst c vs))->A c vs=some r->P):P:=by
 generalize e:o=o' at h;revert e;revert h;cases o' with
 | none=>exact nqa
 | some x=>cases x with
  | srt=>exact nqa
  | f x=>cases x <;> first | exact nqa | exact fun h e=>k _ _ e h
theorem eT {o:Option AObj}{A:Addr->List (Option AV)->Option α}(h:(match o with | some (.f (.slots c vs))=>A c vs | _=>none)=some r)(k:∀ c vs,o=some (.f (.slots c vs))->A c vs=some r->P):P:=by
 generalize e:o=o' at h;revert e;revert h;cases o' with
 | none=>exact nqa
 | some x=>cases x with
  | srt=>exact nqa
  | f x=>cases x <;> first | exact nqa | exact fun h e=>k _ _ e h
theorem Vt {v:AV}{A:Addr->Option α}(h:(match v with | .ref a=>A a | _=>none)=some r)(k:∀ a,v = .ref a->A a=some r->P):P:=by
 generalize e:v=v' at h;revert e;revert h;cases v' <;> first | exact nqa | exact fun h e=>k _ e h
theorem iU {v:AV}{A:Int->Option α}(h:(match v with | .int a=>A a | _=>none)=some r)(k:∀ a,v = .int a->A a=some r->P):P:=by
 generalize e:v=v' at h;revert e;revert h;cases v' <;> first | exact nqa | exact fun h e=>k _ e h
theorem gQ {o:Option AV}{A:Addr->Option α}(h:(match o with | some (.ref a)=>A a | _=>none)=some r)(k:∀ a,o=some (.ref a)->A a=some r->P):P:=by
 generalize e:o=o' at h;revert e;revert h;cases o' with
 | none=>exact nqa
 | some v=>cases v <;> first | exact nqa | exact fun h e=>k _ e h
theorem gS {o:Option AV}{A:Int->Option α}(h:(match o with | some (.int a)=>A a | _=>none)=some r)(k:∀ a,o=some (.int a)->A a=some r->P):P:=by
 generalize e:o=o' at h;revert e;revert h;cases o' with
 | none=>exact nqa
 | some v=>cases v <;> first | exact nqa | exact fun h e=>k _ e h
theorem Iy {u v:AV}{A:Addr->Int->Option α}(h:(match u,v with | .ref a,.int i=>A a i | _,_=>none)=some r)(k:∀ a i,u = .ref a->v = .int i->A a i=some r->P):P:=by
 generalize e:u=u' at h;revert e;revert h;cases u' <;> first | exact nqa | (intro h d;generalize e:v=v' at h;revert e;revert h;cases v' <;> first | exact nqa | exact fun h e=>k _ _ d e h)
theorem Ts {u v:AV}{A:Int->Int->Option α}(h:(match u,v with | .int a,.int i=>A a i | _,_=>none)=some r)(k:∀ a i,u = .int a->v = .int i->A a i=some r->P):P:=by
 generalize e:u=u' at h;revert e;revert h;cases u' <;> first | exact nqa | (intro h d;generalize e:v=v' at h;revert e;revert h;cases v' <;> first | exact nqa | exact fun h e=>k _ _ d e h)
theorem Hz {o:Option AV}{A:AV->Option α}(h:(match o with | some v=>A v | none=>none)=some r)(k:∀ v,o=some v->A v=some r->P):P:=by
 cases o with
 | none=>exact nqa h
 | some v=>exact k v rfl h
theorem Oy {o:Option (List AV)}{A:(List AV)->Option α}(h:(match o with | some v=>A v | none=>none)=some r)(k:∀ v,o=some v->A v=some r->P):P:=by
 cases o with
 | none=>exact nqa h
 | some v=>exact k v rfl h
theorem eQ {o:Option Rho}{A:Rho->Option α}(h:(match o with | some v=>A v | none=>none)=some r)(k:∀ v,o=some v->A v=some r->P):P:=by
 cases o with
 | none=>exact nqa h
 | some v=>exact k v rfl h
theorem eS {o:Option FObj}{A:FObj->Option α}(h:(match o with | some v=>A v | none=>none)=some r)(k:∀ v,o=some v->A v=some r->P):P:=by
 cases o with
 | none=>exact nqa h
 | some v=>exact k v rfl h
theorem Qk {o:Option AV}{o':Option AV}{A:AV->AV->Option α}(h:(match o,o' with | some v,some w=>A v w | _,_=>none)=some r)(k:∀ v w,o=some v->o' = some w->A v w=some r->P):P:=by
 cases o with
 | none=>exact nqa h
 | some v=>cases o' with
  | none=>exact nqa h
  | some w=>exact k v w rfl rfl h
theorem Yv {o:Option AV}{o':Option (List AV)}{A:AV->(List AV)->Option α}(h:(match o,o' with | some v,some w=>A v w | _,_=>none)=some r)(k:∀ v w,o=some v->o' = some w->A v w=some r->P):P:=by
 cases o with
 | none=>exact nqa h
 | some v=>cases o' with
  | none=>exact nqa h
  | some w=>exact k v w rfl rfl h
theorem Yw {o:Option (List AV)}{o':Option (List AV)}{A:(List AV)->(List AV)->Option α}(h:(match o,o' with | some v,some w=>A v w | _,_=>none)=some r)(k:∀ v w,o=some v->o' = some w->A v w=some r->P):P:=by
 cases o with
 | none=>exact nqa h
 | some v=>cases o' with
  | none=>exact nqa h
  | some w=>exact k v w rfl rfl h
theorem Mg {o:Option Bool}{o':Option Bool}{A:Bool->Bool->Option α}(h:(match o,o' with | some v,some w=>A v w | _,_=>none)=some r)(k:∀ v w,o=some v->o' = some w->A v w=some r->P):P:=by
 cases o with
 | none=>exact nqa h
 | some v=>cases o' with
  | none=>exact nqa h
  | some w=>exact k v w rfl rfl h
theorem iSS {o:Option (Option AV)}{A:AV->Option α}(h:(match o with | some (some v)=>A v | _=>none)=some r)(k:∀ v,o=some (some v)->A v=some r->P):P:=by
 cases o with
 | none=>exact nqa h
 | some v=>cases v with
  | none=>exact nqa h
  | some v=>exact k v rfl h
theorem Sl {o:Option (Option Value)}{A:Addr->Option α}(h:(match o with | some (some (.ref v))=>A v | _=>none)=some r)(k:∀ v,o=some (some (.ref v))->A v=some r->P):P:=by
 generalize e:o=o' at h;revert e;revert h;cases o' with
 | none=>exact nqa
 | some v=>cases v with
  | none=>exact nqa
  | some v=>cases v <;> first | exact nqa | exact fun h e=>k _ e h
theorem Yx {l:List AV}{A:AV->Option α}(h:(match l with | [v]=>A v | _=>none)=some r)(k:∀ v,l=[v]->A v=some r->P):P:=by
 cases l with
 | nil=>exact nqa h
 | cons v l=>cases l with
  | nil=>exact k v rfl h
  | cons=>exact nqa h
theorem eU {o:Option (List AV)}{A:Int->Option α}(h:(match o with | some [.int v]=>A v | _=>none)=some r)(k:∀ v,o=some [.int v]->A v=some r->P):P:=by
 cases o with
 | none=>exact nqa h
 | some l=>generalize e:l=m at h;revert e;revert h;cases m with
  | nil=>exact nqa
  | cons v m=>cases m with
   | nil=>cases v <;> first | exact nqa | exact fun h e=>k _ (congrArg some e) h
   | cons=>cases v <;> exact nqa
theorem gR {o:Option FObj}{A:Bool->List AV->Option α}(h:(match o with | some (.lst lk vs)=>A lk vs | _=>none)=some r)(k:∀ lk vs,o=some (.lst lk vs)->A lk vs=some r->P):P:=by
 generalize e:o=o' at h;revert e;revert h;cases o' with
 | none=>exact nqa
 | some v=>cases v <;> first | exact nqa | exact fun h e=>k _ _ e h
theorem iLX {o:FObj}{o':Option AV}{A:Bool->List AV->AV->Option α}(h:(match o,o' with | .lst lk ws,some w=>A lk ws w | _,_=>none)=some r)(k:∀ lk ws w,o = .lst lk ws->o' = some w->A lk ws w=some r->P):P:=by
 cases o' with
 | none=>cases o <;> exact nqa h
 | some w=>generalize e:o=u at h;revert e;revert h;cases u <;> first | exact nqa | exact fun h e=>k _ _ _ e rfl h
theorem Bo {c:Prop}[Decidable c]{a:Option α}(h:(if c then a else none)=some r)(k:c->a=some r->P):P :=
 if q:c then k q ((if_pos q).symm.trans h) else nqa ((if_neg q).symm.trans h)
end
end Mine
end
section
namespace Mine
structure Kp (s s':Shared):Prop where
 same:∃ h' tk,s' = { s with heap:=h',toks:=tk }
 k:∀ b o,s.heap.get? b=some o->s'.heap.get? b=some o
noncomputable def Iu (it:Addr):Obj:={ cls:=.type "method-wrapper",data:=.fields #[.builtin "list_iterator.__next__",.ref it] }
noncomputable def ORelF (C:Cx) (h:Heap) (O:Addr->Prop) (G:Gh):FObj->Addr->List Addr->Prop
 | .lst _ vs,a,g=>g=[]/\AV.stos vs=true/\vs.length<=lim/\∃ n items,h.get? a=some (Bt items n)/\VRels h O G vs items
 | .mat _ M,a,g=>(∃ n,h.get? a=some (Bt (g.map .ref) n))/\g.length=M.length/\M.length<=lim /\
   ∀ (i:Nat) (vs:List AV) (b:Addr),M[i]? = some vs->g[i]? = some b->AV.stos vs=true/\vs.length<=lim/\∃ n items,h.get? b=some (Bt items n)/\VRels h O G vs items
 | .dic _ es,a,g=>g=[]/\(a == sysModules)=false/\AV.stos (es.map (·.2))=true /\
   ∃ xs,h.DictOf (intKind C.prog C.w) a ((es.map (·.1)).zip xs)/\VRels h O G (es.map (·.2)) xs
 | .iset ks,a,g=>g=[]/\h.SetOf (intKind C.prog C.w) a (fun k=>decide (k ∈ ks)) ks.length
 | .inst c attrs,a,g=>∃ d m,g=[d]/\AV.stos (attrs.map (·.2))=true/\attrs.length<=1000/\h.get? a=some { cls:=.ref c,dict:=some d,data:=.plain,slots:=#[] }/\h.Ns1 d m /\
   ∀ x,(attrs.lookup x=none->m x=none)/\∀ v,attrs.lookup x=some v->∃ y,m x=some y/\VRel h O G v y
 | .slots c vs,a,g=>∃ d ys,g=[d]/\AV.stos (vs.filterMap id)=true/\h.get? a=some { cls:=.ref c,dict:=some d,data:=.plain,slots:=ys }/\h.Ns d (fun z0=>none) /\
   ys.size=vs.length/\∀ i:Nat,(∀ v,vs[i]? = some (some v)->∃ y,ys[i]? = some (some y)/\VRel h O G v y)/\(vs[i]? = some none->ys[i]? = some none)
 | .nxt src pos,a,g=>∃ it,g=[it]/\h.get? a=some (Iu it)/\h.IsListIter it src pos
structure FN where
 info:Addr
 succ:Addr
 nd:NodeS
structure FSt where
 d:Addr
 ra:Addr
 nds:List FN
 ready:Option (List Int)
 passed:Int
 fin:Int
noncomputable def FSt.rdy (σ:FSt):AV:=match σ.ready with
 | none=>.none
 | some _=>.ref σ.ra
noncomputable def FSt.toS (σ:FSt):SState:=⟨σ.nds.map (·.nd),σ.ready,σ.passed,σ.fin⟩
noncomputable def De (d:Addr) (rdy:AV) (p f:Int):List (Str × AV):=[("_node2info",.ref d),("_ready_nodes",rdy),("_npassedout",.int p),("_nfinished",.int f)]
noncomputable def Er (n:FN):List (Option AV):=[some (.int n.nd.key),some (.int n.nd.npred),some (.ref n.succ)]
noncomputable def FSt.dicL (σ:FSt):List (Int × AV):=σ.nds.map fun n=>(n.nd.key,AV.ref n.info)
noncomputable def FSt.L (C:Cx) (a:Addr) (σ:FSt):List (Addr × FObj) :=
 (a,.inst C.tsC (De σ.d σ.rdy σ.passed σ.fin)) :: (σ.d,.dic false σ.dicL) :: (match σ.ready with | none=>[] | some r=>[(σ.ra,.lst false (r.map .int))]) ++
  (σ.nds.map fun n=>(n.info,FObj.slots C.niC (Er n)))++(σ.nds.map fun n=>(n.succ,FObj.lst false (n.nd.succs.map .int)))
inductive SFlat (C:Cx) (a:Addr) (S:SState) (L:List (Addr × FObj)):Prop
 | mk (σ:FSt) (hS:σ.toS=S) (hL:L=σ.L C a) (hk:(σ.nds.map (·.nd.key)).Nodup)
noncomputable def ORel (C:Cx) (h:Heap) (O:Addr->Prop) (G:Gh):AObj->Addr->List Addr->Prop
 | .f o,a,g=>ORelF C h O G o a g
 | .srt S,a,g=>∃ (L:List (Addr × FObj)) (gs:List (List Addr)),SFlat C a S L/\gs.length=L.length /\
   (a :: g)=((L.zip gs).flatMap fun x=>x.1.1 :: x.2)/\∀ x ∈ L.zip gs,ORelF C h O G x.1.2 x.1.1 x.2
structure Rel (C:Cx) (H:AH) (G:Gh) (O:Addr->Prop) (h:Heap):Prop where
 sub:∀ b,own H G b->O b
 obj:∀ a o,H a=some o->ORel C h O G o a (G a)
 nd:∀ a,H a ≠ none->(a :: G a).Nodup
 dj:∀ a b x,H a ≠ none->H b ≠ none->a ≠ b->(x=a\/x ∈ G a)->¬ (x=b\/x ∈ G b)
 base:∀ b o,C.h0.get? b=some o->h.get? b=some o/\¬ O b
 live:∀ b,O b->∃ o,h.get? b=some o
structure Sc where
 vars:List (Str × Nat)
 cel:List Str
 globs:List Str
 top:Bool:=false
noncomputable def fr (env:Env) (b:Addr):Prop:=b=env.locals\/∃ x,(x,b) ∈ env.cells
noncomputable def Frs (C:Cx) (O:Addr->Prop) (h:Heap) (l:List Env):Prop:=h.FunFrames C.h0 l/\∀ b,b ∈ l.filterMap (·.frame)->¬ O b/\∃ o es ep,h.get? b=some o/\o.data = .dict es ep
noncomputable def FrsA (C:Cx) (A:Around) (O:Addr->Prop) (h:Heap):Prop:=∃ l,A.frames=some l/\Frs C O h l
structure WF (C:Cx) (A:Around) (sc:Sc) (env:Env) (ρ:Rho) (G:Gh) (O:Addr->Prop) (h:Heap):Prop where
 kind:env.scope.kind = .function
 glob:env.globals=mainGlobals
 bui:env.builtins=builtinsNs
 ns:∃ m,h.Ns env.locals m/\∀ x i,(x,i) ∈ sc.vars->env.kindOf x=some .local->ρ i = .undef\/∃ v,m x=some v/\VRel h O G (ρ i) v
 cells:∀ x i,(x,i) ∈ sc.vars->env.kindOf x ≠ some .local->(env.kindOf x=some .cell\/env.kindOf x=some .free) /\
  ∃ c ov,env.cells.lookup x=some c/\h.IsCell c ov/\(ρ i = .undef\/∃ v,ov=some v/\VRel h O G (ρ i) v)
 celk:∀ x,x ∈ sc.cel->env.kindOf x ≠ some .local
 gl:∀ x,x ∈ sc.globs->env.kindOf x=some .globalImplicit
 apart:env.cells.Pairwise fun x y=>x.2 ≠ y.2
 cnl:∀ x c,(x,c) ∈ env.cells->c ≠ env.locals
 cli:∀ x c,(x,c) ∈ env.cells->∃ ov,h.IsCell c ov
 nol:¬ O env.locals
 noc:∀ x c,(x,c) ∈ env.cells->¬ O c
 nbs:∀ b,fr env b->C.h0.get? b=none
 scnd:∀ x i j,(x,i) ∈ sc.vars->(x,j) ∈ sc.vars->i=j
 scinj:∀ x y i,(x,i) ∈ sc.vars->(y,i) ∈ sc.vars->x=y
 frs:FrsA C A O h
 top:sc.top=true->env.frame=some env.locals/\∃ l,A.frames=some (env :: l)
noncomputable def Slo (o o':Obj):Prop:=o' = o\/((∃ es ep,o.data = .dict es ep)/\∃ sl,o' = { o with slots:=sl })
theorem Slo.refl (o:Obj):Slo o o:=.inl rfl
theorem Slo.trans {a b c:Obj}(x:Slo a b)(y:Slo b c):Slo a c:=by
 rcases x with rfl | ⟨⟨es,ep,h⟩,sl,rfl⟩
 ·exact y
 ·rcases y with rfl | ⟨_,sl',rfl⟩
  ·exact .inr ⟨⟨es,ep,h⟩,sl,rfl⟩
  ·exact .inr ⟨⟨es,ep,h⟩,sl',rfl⟩
theorem Slo.data {a b:Obj}(x:Slo a b):b.data=a.data:=by
 rcases x with rfl | ⟨_,sl,rfl⟩ <;> rfl
theorem Slo.eq {a b:Obj}(x:Slo a b)(h:∀ es ep,a.data ≠ .dict es ep):b=a:=by
 rcases x with rfl | ⟨⟨es,ep,q⟩,_⟩
 ·rfl
 ·exact absurd q (h es ep)
structure Step (P:Addr->Prop) (H:AH) (G:Gh) (s:Shared) (H':AH) (G':Gh) (s':Shared):Prop where
 same:∃ h' tk,s' = { s with heap:=h',toks:=tk }
 keep:∀ b o,¬ own H G b->¬ P b->s.heap.get? b=some o->∃ o',s'.heap.get? b=some o'/\Slo o o'
 pl:∀ b o,P b->s.heap.get? b=some o->∃ o',s'.heap.get? b=some o'
 fresh:∀ b,own H' G' b->own H G b\/s.heap.get? b=none
 lock:∀ a o,H a=some (.f o)->o.lk=true->H' a=some (.f o)/\G' a=G a/\∀ b,b=a\/b ∈ G a->s'.heap.get? b=s.heap.get? b
noncomputable def AOk (k:Nat) (A:Around):Prop:=A.handled=none/\A.depth + k + 20<=900/\A.units + 100 * (k + 1)<=9000
noncomputable abbrev PF:=Rho->AH->Option AV
noncomputable abbrev CF:=Rho->AH->Option Bool
variable (C:Cx)
noncomputable def PureE (k:Nat) (sc:Sc) (e:Expr) (f:PF):Prop :=
 ∀ (A:Around) (env:Env) (s:Shared) (ρ:Rho) (H:AH) (G:Gh) (O:Addr->Prop) (v:AV),AOk k A->WF C A sc env ρ G O s.heap->Rel C H G O s.heap->f ρ H=some v ->
  wpAny (model C.prog C.w) A (eval e env) (fun x s'=>VRel s'.heap O G v x/\Kp s s') (fun z0 z0=>False) s
noncomputable def TestE (k:Nat) (sc:Sc) (e:Expr) (f:CF):Prop :=
 ∀ (A:Around) (env:Env) (s:Shared) (ρ:Rho) (H:AH) (G:Gh) (O:Addr->Prop) (b:Bool),AOk k A->WF C A sc env ρ G O s.heap->Rel C H G O s.heap->f ρ H=some b ->
  wpAny (model C.prog C.w) A (isTrue e env (eval e env)) (fun x s'=>x=b/\Kp s s') (fun z0 z0=>False) s
inductive PostM (s:Shared) (G:Gh) (O:Addr->Prop) (o:FObj) (x:Value) (s':Shared):Prop
 | mk (a:Addr) (g:List Addr) (e:x = .ref a) (ho:ORelF C s'.heap (fun b=>O b\/b=a\/b ∈ g) G o a g) (hn:(a :: g).Nodup) (hf:∀ b,b=a\/b ∈ g->s.heap.get? b=none/\∃ ob,s'.heap.get? b=some ob) (k:Kp s s')
noncomputable def MakeE (k:Nat) (sc:Sc) (e:Expr) (f:Rho->AH->Option FObj):Prop :=
 ∀ (A:Around) (env:Env) (s:Shared) (ρ:Rho) (H:AH) (G:Gh) (O:Addr->Prop) (o:FObj),AOk k A->WF C A sc env ρ G O s.heap->Rel C H G O s.heap->f ρ H=some o ->
  wpAny (model C.prog C.w) A (eval e env) (PostM C s G O o) (fun z0 z0=>False) s
noncomputable def stoR (sc:Sc) (ρ:Rho):Prop:=∀ x i,(x,i) ∈ sc.vars->(ρ i).sto=true
inductive AFlow where
 | next | brk | cont
 | ret (v:AV)
noncomputable def FRel (h:Heap) (O:Addr->Prop) (G:Gh):AFlow->Flow->Prop
 | .next,.next=>True
 | .brk,.brk=>True
 | .cont,.cont=>True
 | .ret v,.ret x=>VRel h O G v x/\v.sto=true
 | _,_=>False
theorem FRel.nextE {h O G fl}(r:FRel h O G .next fl):fl = .next:=by cases fl with | next=>rfl | _=>exact r.elim
theorem FRel.brkE {h O G fl}(r:FRel h O G .brk fl):fl = .brk:=by cases fl with | brk=>rfl | _=>exact r.elim
theorem FRel.contE {h O G fl}(r:FRel h O G .cont fl):fl = .cont:=by cases fl with | cont=>rfl | _=>exact r.elim
theorem FRel.retE {h O G v fl}(r:FRel h O G (.ret v) fl):∃ x,fl = .ret x/\FRel h O G (.ret v) (.ret x):=by cases fl with | ret x=>exact⟨x,rfl,r⟩ | _=>exact r.elim
noncomputable abbrev Wp (α:Type):=(α->Rho->AH->Prop)->Rho->AH->Prop
inductive PostE (A:Around) (sc:Sc) (env:Env) (s:Shared) (H:AH) (G:Gh) (Q:AV->Rho->AH->Prop) (x:Value) (s':Shared):Prop
 | mk (v:AV) (ρ':Rho) (H':AH) (G':Gh) (hq:Q v ρ' H') (hv:VRel s'.heap (own H' G') G' v x) (hsv:v.sto=true) (F:WF C A sc env ρ' G' (own H' G') s'.heap) (hs:stoR sc ρ') (R:Rel C H' G' (own H' G') s'.heap) (S:Step (fr env) H G s H' G' s')
inductive PostC (A:Around) (sc:Sc) (env:Env) (s:Shared) (H:AH) (G:Gh) (Q:Bool->Rho->AH->Prop) (b:Bool) (s':Shared):Prop
 | mk (ρ':Rho) (H':AH) (G':Gh) (hq:Q b ρ' H') (F:WF C A sc env ρ' G' (own H' G') s'.heap) (hs:stoR sc ρ') (R:Rel C H' G' (own H' G') s'.heap) (S:Step (fr env) H G s H' G' s')
inductive PostS (A:Around) (sc:Sc) (env:Env) (s:Shared) (H:AH) (G:Gh) (Q:AFlow->Rho->AH->Prop) (f:Flow) (s':Shared):Prop
 | mk (af:AFlow) (ρ':Rho) (H':AH) (G':Gh) (hq:Q af ρ' H') (hf:FRel s'.heap (own H' G') G' af f) (F:WF C A sc env ρ' G' (own H' G') s'.heap) (hs:stoR sc ρ') (R:Rel C H' G' (own H' G') s'.heap) (S:Step (fr env) H G s H' G' s')
inductive PostV (s:Shared) (H:AH) (G:Gh) (Q:AV->AH->Prop) (x:Value) (s':Shared):Prop
 | mk (v:AV) (H':AH) (G':Gh) (hq:Q v H') (hv:VRel s'.heap (own H' G') G' v x) (hsv:v.sto=true) (R:Rel C H' G' (own H' G') s'.heap) (S:Step (fun z0=>False) H G s H' G' s')
noncomputable def ImpE (k:Nat) (sc:Sc) (e:Expr) (W:Wp AV):Prop :=
 ∀ (A:Around) (env:Env) (s:Shared) (ρ:Rho) (H:AH) (G:Gh) (Q:AV->Rho->AH->Prop),AOk k A->WF C A sc env ρ G (own H G) s.heap->stoR sc ρ->Rel C H G (own H G) s.heap->W Q ρ H ->
  wpAny (model C.prog C.w) A (eval e env) (PostE C A sc env s H G Q) (fun z0 z0=>False) s
noncomputable def ImpC (k:Nat) (sc:Sc) (e:Expr) (W:Wp Bool):Prop :=
 ∀ (A:Around) (env:Env) (s:Shared) (ρ:Rho) (H:AH) (G:Gh) (Q:Bool->Rho->AH->Prop),AOk k A->WF C A sc env ρ G (own H G) s.heap->stoR sc ρ->Rel C H G (own H G) s.heap->W Q ρ H ->
  wpAny (model C.prog C.w) A (isTrue e env (eval e env)) (PostC C A sc env s H G Q) (fun z0 z0=>False) s
noncomputable def StmtR (k:Nat) (sc:Sc) (st:Stmt) (T:Wp AFlow):Prop :=
 ∀ (A:Around) (env:Env) (s:Shared) (ρ:Rho) (H:AH) (G:Gh) (Q:AFlow->Rho->AH->Prop),AOk k A->WF C A sc env ρ G (own H G) s.heap->stoR sc ρ->Rel C H G (own H G) s.heap->T Q ρ H ->
  wpAny (model C.prog C.w) A (exec st env) (PostS C A sc env s H G Q) (fun z0 z0=>False) s
noncomputable def StmtsR (k:Nat) (sc:Sc) (st:List Stmt) (T:Wp AFlow):Prop :=
 ∀ (A:Around) (env:Env) (s:Shared) (ρ:Rho) (H:AH) (G:Gh) (Q:AFlow->Rho->AH->Prop),AOk k A->WF C A sc env ρ G (own H G) s.heap->stoR sc ρ->Rel C H G (own H G) s.heap->T Q ρ H ->
  wpAny (model C.prog C.w) A (execs st env) (PostS C A sc env s H G Q) (fun z0 z0=>False) s
noncomputable abbrev FW:=List AV->(AV->AH->Prop)->AH->Prop
noncomputable def CallR (k:Nat) (f:Value) (W:FW):Prop :=
 ∀ (A:Around) (s:Shared) (H:AH) (G:Gh) (vs:List AV) (xs:List Value) (Q:AV->AH->Prop),AOk k A->FrsA C A (own H G) s.heap->Rel C H G (own H G) s.heap->VRels s.heap (own H G) G vs xs->AV.stos vs=true->W vs Q H ->
  codeAny (model C.prog C.w) A (.call f ⟨xs,[]⟩) (fun r s'=>match r with
   | .ok (.ret x)=>PostV C s H G Q x s'
   | _=>False) s
end Mine
end
section
namespace Mine
theorem Ac {P:Prop}(h:∀ R:Prop,(P->R)->R):P:=h P fun x=>x
theorem dA {α:Type}{M:Model}{A:Around}{m:Sem α}{Q:α->Shared->Prop}{E:Value->Shared->Prop}{s:Shared}(h:∀ (Q':α->Shared->Prop) (E':Value->Shared->Prop),(∀ v s',Q v s'->Q' v s')->(∀ v s',E v s'->E' v s')->wpAny M A m Q' E' s):wpAny M A m Q E s:=h Q E (fun z0 z0 x=>x) fun z0 z0 x=>x
noncomputable def gK (o:Option AObj):Nat:=match o with
 | none=>0
 | some (.srt _)=>1
 | some (.f o)=>match o with
  | .lst ..=>2
  | .mat ..=>3
  | .dic ..=>4
  | .iset _=>5
  | .inst ..=>6
  | .slots ..=>7
  | .nxt ..=>8
theorem Ai {H:AH}{a b:Addr}{x y:Option AObj}(h1:H a=x)(h2:H b=y)(h:(gK x).beq (gK y)=false):a ≠ b:=fun e=>by
 have q:x=y:=h1.symm.trans (e ▸ h2)
 rw[q,Nat.beq_refl]at h;exact nqc h
theorem Bb {s s' s'':Shared}(a:∃ h' tk,s' = { s with heap:=h',toks:=tk })(b:∃ h' tk,s'' = { s' with heap:=h',toks:=tk }):∃ h' tk,s'' = { s with heap:=h',toks:=tk }:=by
 obtain⟨h1,t1,rfl⟩:=a;obtain⟨h2,t2,rfl⟩:=b;exact⟨h2,t2,rfl⟩
theorem Kp.refl' (s:Shared):Kp s s:=⟨⟨s.heap,s.toks,rfl⟩,fun z0 z0 e=>e⟩
theorem Kp.trans' {s s' s'':Shared}(a:Kp s s')(b:Kp s' s''):Kp s s'':=by
 obtain⟨⟨h1,t1,rfl⟩,k1⟩:=a
 obtain⟨⟨h2,t2,rfl⟩,k2⟩:=b
 exact⟨⟨h2,t2,rfl⟩,fun b o e=>k2 b o (k1 b o e)⟩
theorem Kp.tok {s:Shared}{n:Nat}:Kp s { s with toks:=n }:=⟨⟨s.heap,n,rfl⟩,fun z0 z0 e=>e⟩
theorem Kp.push {s:Shared}{o:Obj}:Kp s { s with heap:=s.heap.push o }:=⟨⟨_,s.toks,rfl⟩,fun z0 z0 e=>Heap.get?_push_of_some o e⟩
theorem Kp.pushT {s:Shared}{o:Obj}{n:Nat}:Kp s { s with heap:=s.heap.push o,toks:=n }:=⟨⟨_,n,rfl⟩,fun z0 z0 e=>Heap.get?_push_of_some o e⟩
theorem aA {prog w}{h h':Heap}{a:Addr}{S:Int->Bool}{n:Nat}(x:h.SetOf (intKind prog w) a S n)(hk:∀ o,h.get? a=some o->h'.get? a=some o):h'.SetOf (intKind prog w) a S n :=
 let ⟨o,es,ep,t,e,r⟩:=x;⟨o,es,ep,t,hk _ e,r⟩
section
variable {C:Cx} {h h':Heap} {O O':Addr->Prop} {G G':Gh}
theorem Bq {vs:List AV}{v:AV}(s:AV.stos vs=true)(m:v ∈ vs):v.sto=true:=stos_iff.mp s v m
theorem Se {α:Type}{l:List (Str × α)}{x:Str}{v:α}(e:l.lookup x=some v):v ∈ l.map (·.2):=List.mem_map.mpr ⟨(x,v),PySem.mem_of_lookup e,rfl⟩
theorem ORelF.mono (hk:∀ b o xs n,h.get? b=some o->o.data = .seq xs n->¬ O b->h'.get? b=some o/\¬ O' b){o:FObj}{a:Addr}{g:List Addr}
  (hg:∀ b ob,(b=a\/b ∈ g)->h.get? b=some ob->h'.get? b=some ob) (r:ORelF C h O G o a g):ORelF C h' O' G' o a g:=by
 cases o with
 | lst lk vs =>
  refine Ac fun PP ret=>?_
  obtain⟨e,s,hz,n,items,hl,hr⟩:=r
  refine ret ?_
  exact⟨e,s,hz,n,items,hg _ _ (.inl rfl) hl,hr.mono hk s⟩
 | mat lk M =>
  refine Ac fun PP ret=>?_
  obtain⟨⟨n,hl⟩,e,hz,hr⟩:=r
  refine ret ?_
  refine⟨⟨n,hg _ _ (.inl rfl) hl⟩,e,hz,fun i vs b hM hb=>?_⟩
  refine Ac fun PP ret=>?_
  obtain⟨s,hz',n',items,hl',hr'⟩:=hr i vs b hM hb
  refine ret ?_
  exact⟨s,hz',n',items,hg _ _ (.inr (List.mem_of_getElem? hb)) hl',hr'.mono hk s⟩
 | dic lk es =>
  refine Ac fun PP ret=>?_
  obtain⟨e,hs,s,xs,hd,hr⟩:=r
  refine ret ?_
  exact⟨e,hs,s,xs,hd.at fun o e=>hg _ _ (.inl rfl) e,hr.mono hk s⟩
 | iset ks =>
  obtain⟨e,hs⟩:=r
  exact⟨e,aA hs fun o e=>hg _ _ (.inl rfl) e⟩
 | inst c attrs =>
  refine Ac fun PP ret=>?_
  obtain⟨d,m,rfl,s,hz,ho,hn,hr⟩:=r
  refine ret ?_
  refine⟨d,m,rfl,s,hz,hg _ _ (.inl rfl) ho,hn.at fun o e=>hg _ _ (.inr (by simp)) e,fun x=>⟨(hr x).1,fun v hv=>?_⟩⟩
  obtain⟨y,hy,hv'⟩:=(hr x).2 v hv
  exact⟨y,hy,hv'.mono hk (Bq s (Se hv))⟩
 | slots c vs =>
  refine Ac fun PP ret=>?_
  obtain⟨d,ys,rfl,s,ho,hn,hz,hr⟩:=r
  refine ret ?_
  refine⟨d,ys,rfl,s,hg _ _ (.inl rfl) ho,hn.at' fun o e=>hg _ _ (.inr (by simp)) e,hz,fun i=>⟨fun v hv=>?_,(hr i).2⟩⟩
  obtain⟨y,hy,hv'⟩:=(hr i).1 v hv
  exact⟨y,hy,hv'.mono hk (Bq s (List.mem_filterMap.mpr ⟨some v,List.mem_of_getElem? hv,rfl⟩))⟩
 | nxt src pos =>
  refine Ac fun PP ret=>?_
  obtain⟨it,rfl,ho,hi⟩:=r
  refine ret ?_
  exact⟨it,rfl,hg _ _ (.inl rfl) ho,hi.at fun o e=>hg _ _ (.inr (by simp)) e⟩
theorem ORel.mono (hk:∀ b o xs n,h.get? b=some o->o.data = .seq xs n->¬ O b->h'.get? b=some o/\¬ O' b){o:AObj}{a:Addr}{g:List Addr}
  (hg:∀ b ob,(b=a\/b ∈ g)->h.get? b=some ob->h'.get? b=some ob) (r:ORel C h O G o a g):ORel C h' O' G' o a g:=by
 cases o with
 | f o=>exact ORelF.mono hk hg r
 | srt S =>
  obtain⟨L,gs,hS,hl,he,hr⟩:=r
  refine⟨L,gs,hS,hl,he,fun x hx=>ORelF.mono hk (fun b ob hb=>hg b ob ?_) (hr x hx)⟩
  have:b ∈ a :: g:=by
   rw[he];refine List.mem_flatMap.mpr ⟨x,hx,?_⟩
   rcases hb with rfl | hb
   ·simp
   ·simp[hb]
  simpa using this
variable {H:AH}
theorem Rel.keepO (R:Rel C H G O h)(hk:∀ b o,h.get? b=some o->h'.get? b=some o)(hO:∀ b,O b->O' b)(hn:∀ b o,h.get? b=some o->O' b->O b)(hl:∀ b,O' b->∃ o,h'.get? b=some o):Rel C H G O' h' where
 sub:=fun b hb=>hO b (R.sub b hb)
 obj:=fun a o ha=>(R.obj a o ha).mono (fun b ob z0 z0 e z0 hb=>⟨hk b ob e,fun x=>hb (hn b ob e x)⟩) fun b ob z0 e=>hk b ob e
 nd:=R.nd
 dj:=R.dj
 base:=fun b o e=>⟨hk _ _ (R.base b o e).1,fun x=>(R.base b o e).2 (hn b o (R.base b o e).1 x)⟩
 live:=hl
theorem Rel.keep (R:Rel C H G O h)(hk:∀ b o,h.get? b=some o->h'.get? b=some o):Rel C H G O h':=R.keepO hk (fun z0 x=>x) (fun z0 z0 z0 x=>x) fun b hb=>let ⟨o,e⟩:=R.live b hb;⟨o,hk _ _ e⟩
noncomputable def frA (A:Around) (b:Addr):Prop:=∃ l,A.frames=some l/\b ∈ l.filterMap (·.frame)
theorem Frs.mono' {l:List Env}(hk:∀ b,b ∈ l.filterMap (·.frame)->∀ o es ep,h.get? b=some o->o.data = .dict es ep->¬ O b->(∃ o' es' ep',h'.get? b=some o'/\o'.data = .dict es' ep')/\¬ O' b)(F:Frs C O h l):Frs C O' h' l:=by
 obtain⟨h1,h2⟩:=F
 refine⟨?_,fun b hb=>?_⟩
 ·revert h1 h2 hk
  induction l with
  | nil=>intro _ _ _;trivial
  | cons e r ih =>
   intro hk h1 h2
   refine Ac fun PP ret=>?_
   obtain⟨hm,⟨L,o,hf,hb,ho,hd⟩,hr⟩:=h1
   refine ret ?_
   have hmm:∀ b,b ∈ r.filterMap (·.frame)->b ∈ (e :: r).filterMap (·.frame):=fun b hb=>by rw[List.filterMap_cons,hf];exact List.mem_cons_of_mem _ hb
   have hL:L ∈ (e :: r).filterMap (·.frame):=by rw[List.filterMap_cons,hf];exact List.mem_cons_self
   refine⟨hm,⟨L,?_⟩,ih (fun b hb=>hk b (hmm b hb)) hr fun b hb'=>h2 b (hmm b hb')⟩
   refine Ac fun PP ret=>?_
   obtain⟨hO,o2,es,ep,ho2,hd2⟩:=h2 L hL
   obtain⟨⟨o',es',ep',ho',hd'⟩,_⟩:=hk L hL o2 es ep ho2 hd2 hO
   refine ret ?_
   exact⟨o',hf,hb,ho',fun vs q=>by rw[hd']at q;cases q⟩
 ·refine Ac fun PP ret=>?_
  obtain⟨hO,o2,es,ep,ho2,hd2⟩:=h2 b hb
  obtain⟨h3,h4⟩:=hk b hb o2 es ep ho2 hd2 hO
  refine ret ?_
  exact⟨h4,h3⟩
theorem FrsA.mono' {A:Around}(F:FrsA C A O h)(hk:∀ b,frA A b->∀ o es ep,h.get? b=some o->o.data = .dict es ep->¬ O b->(∃ o' es' ep',h'.get? b=some o'/\o'.data = .dict es' ep')/\¬ O' b):FrsA C A O' h' :=
 let ⟨l,e,x⟩:=F;⟨l,e,x.mono' fun b hb=>hk b ⟨l,e,hb⟩⟩
theorem FrsA.mono {A:Around}(hk:∀ b o es ep,h.get? b=some o->o.data = .dict es ep->¬ O b->(∃ o' es' ep',h'.get? b=some o'/\o'.data = .dict es' ep')/\¬ O' b)(F:FrsA C A O h):FrsA C A O' h':=F.mono' fun b z0=>hk b
theorem FrsA.live {A:Around}(F:FrsA C A O h){b:Addr}(hb:frA A b):¬ O b/\∃ o es ep,h.get? b=some o/\o.data = .dict es ep:=by
 refine Ac fun PP ret=>?_
 obtain⟨l,e,x⟩:=F
 obtain⟨l',e',hb'⟩:=hb
 rw[e]at e';obtain rfl:=Option.some.inj e'
 refine ret ?_
 exact x.2 b hb'
theorem FrsA.keepO {A:Around}(F:FrsA C A O h)(hk:∀ b o,h.get? b=some o->h'.get? b=some o)(hn:∀ b o,h.get? b=some o->O' b->O b):FrsA C A O' h' :=
 F.mono fun b o es ep e hd hb=>⟨⟨o,es,ep,hk b o e,hd⟩,fun x=>hb (hn b o e x)⟩
theorem FrsA.keep {A:Around}(F:FrsA C A O h)(hk:∀ b o,h.get? b=some o->h'.get? b=some o):FrsA C A O h':=F.keepO hk fun z0 z0 z0 x=>x
variable {sc:Sc} {env:Env} {ρ:Rho}
theorem WF.keepO (F:WF C A sc env ρ G O h)(hst:∀ x i,(x,i) ∈ sc.vars->∀ v,VRel h O G (ρ i) v->VRel h' O' G' (ρ i) v)(hk:∀ b o,h.get? b=some o->h'.get? b=some o)(hn:∀ b o,h.get? b=some o->O' b->O b):WF C A sc env ρ G' O' h' where
 kind:=F.kind
 glob:=F.glob
 bui:=F.bui
 ns:=by
  obtain⟨m,hm,hv⟩:=F.ns
  refine⟨m,hm.keeps hk,fun x i hx hl=>(hv x i hx hl).imp id fun ⟨v,e,r⟩=>⟨v,e,hst x i hx v r⟩⟩
 cells:=fun x i hx hl=>by
  refine Ac fun PP ret=>?_
  obtain⟨k,c,ov,e,hc,hv⟩:=F.cells x i hx hl
  refine ret ?_
  exact⟨k,c,ov,e,hc.keeps hk,hv.imp id fun ⟨v,e,r⟩=>⟨v,e,hst x i hx v r⟩⟩
 celk:=F.celk
 gl:=F.gl
 apart:=F.apart
 cnl:=F.cnl
 cli:=fun x c hx=>let ⟨o,e⟩:=F.cli x c hx;⟨o,e.keeps hk⟩
 nol:=fun x=>by obtain⟨m,⟨o,_,_,ho,_⟩,_⟩:=F.ns;exact F.nol (hn _ o ho x)
 noc:=fun x c hx y=>by obtain⟨ov,o,ho,_⟩:=F.cli x c hx;exact F.noc x c hx (hn _ o ho y)
 nbs:=F.nbs
 scnd:=F.scnd
 scinj:=F.scinj
 frs:=F.frs.keepO hk hn
 top:=F.top
theorem WF.keep (F:WF C A sc env ρ G O h)(hk:∀ b o,h.get? b=some o->h'.get? b=some o):WF C A sc env ρ G O h':=F.keepO (fun z0 z0 z0 z0 r=>r.keep hk) hk fun z0 z0 z0 x=>x
theorem Rel.lt (R:Rel C H G O h){b:Addr}(hb:O b):b < h.objs.size:=by obtain⟨o,e⟩:=R.live b hb;exact Heap.lt_size e
theorem Rel.nsize (R:Rel C H G O h):¬ O h.objs.size:=fun x=>Nat.lt_irrefl _ (R.lt x)
theorem Qm (h:Heap):h.get? h.objs.size=none:=by
 cases e:h.get? h.objs.size with
 | none=>rfl
 | some o=>exact absurd (Heap.lt_size e) (Nat.lt_irrefl _)
theorem Go {a:Addr}{o:AObj}(ha:H a ≠ none):own (upd H a o) G=own H G:=by
 funext b
 apply propext
 constructor
 ·rintro⟨x,hx,hb⟩
  by_cases e:x=a
  ·exact⟨a,ha,e ▸ hb⟩
  ·exact⟨x,by rwa [Aa e]at hx,hb⟩
 ·rintro⟨x,hx,hb⟩
  by_cases e:x=a
  ·exact⟨a,by simp,e ▸ hb⟩
  ·exact⟨x,by rwa [Aa e],hb⟩
theorem Ot {a:Addr}{o:AObj}{g:List Addr}(ha:H a=none):own (upd H a o) (Cd G a g)=fun b=>own H G b\/b=a\/b ∈ g:=by
 funext b
 apply propext
 constructor
 ·rintro⟨x,hx,hb⟩
  by_cases e:x=a
  ·clear ha hx;subst e;right;simpa [Cd]using hb
  ·left;exact⟨x,by rwa [Aa e]at hx,by simpa [Cd,e]using hb⟩
 ·rintro(⟨x,hx,hb⟩ | hb)
  ·have e:x ≠ a:=by rintro rfl;exact hx ha
   exact⟨x,by rwa [Aa e],by simpa [Cd,e]using hb⟩
  ·exact⟨a,by simp,by simpa [Cd]using hb⟩
theorem Rel.change (R:Rel C H G (own H G) h){a:Addr}{o₀ o':AObj}(ha:H a=some o₀)(hk:∀ b ob,b ≠ a->b ∉ G a->h.get? b=some ob->h'.get? b=some ob)
  (ho:ORel C h' (own H G) G o' a (G a)) (hl:∀ b,b=a\/b ∈ G a->∃ ob,h'.get? b=some ob):Rel C (upd H a o') G (own (upd H a o') G) h':=by
 have hne:H a ≠ none:=by rw[ha];simp
 have oe:own (upd H a o') G=own H G:=Go hne
 have un:∀ x,upd H a o' x ≠ none->H x ≠ none:=fun x hx=>by
  by_cases e:x=a
  ·exact e ▸ hne
  ·rwa [Aa e]at hx
 rw[oe]
 refine⟨fun b hb=>oe ▸ hb,fun x o hx=>?_,fun x hx=>R.nd x (un x hx),fun x y z hx hy=>R.dj x y z (un x hx) (un y hy),fun b o e=>?_,fun b hb=>?_⟩
 ·by_cases e:x=a
  ·subst e;rw[Ad]at hx;obtain rfl:=Option.some.inj hx;exact ho
  ·rw[Aa e]at hx
   have hxn:H x ≠ none:=by rw[hx];simp
   refine(R.obj x o hx).mono (fun b ob z0 z0 e' z0 hb=>⟨hk b ob ?_ ?_ e',hb⟩) fun b ob hb e'=>hk b ob ?_ ?_ e'
   ·clear R e e' ha hk hl ho hx hxn oe un z0;rintro rfl;exact hb ⟨b,hne,.inl rfl⟩
   ·intro hm;exact hb ⟨a,hne,.inr hm⟩
   ·clear e' ha hk hl ho hx oe un;rintro rfl;exact R.dj x b b hxn hne e hb (.inl rfl)
   ·intro hm;exact R.dj x a b hxn hne e hb (.inr hm)
 ·have:=R.base b o e
  refine⟨hk b o ?_ ?_ this.1,this.2⟩
  ·clear R e ha hk hl ho oe un;rintro rfl;exact this.2 ⟨b,hne,.inl rfl⟩
  ·intro hm;exact this.2 ⟨a,hne,.inr hm⟩
 ·by_cases e:b=a\/b ∈ G a
  ·exact hl b e
  ·obtain⟨ob,hob⟩:=R.live b hb
   exact⟨ob,hk b ob (fun x=>e (.inl x)) (fun x=>e (.inr x)) hob⟩
theorem Rel.free (R:Rel C H G (own H G) h){a:Addr}(hf:h.get? a=none):¬ own H G a:=fun x=>by obtain⟨o,e⟩:=R.live a x;rw[hf]at e;exact nqa e
theorem Rel.none_of (R:Rel C H G (own H G) h){a:Addr}(hf:h.get? a=none):H a=none:=by
 cases e:H a with
 | none=>rfl
 | some o=>exact absurd ⟨a,by rw[e];simp,.inl rfl⟩ (R.free hf)
theorem Rel.alloc (R:Rel C H G (own H G) h){a:Addr}{g:List Addr}{o:FObj}(hk:∀ b ob,h.get? b=some ob->h'.get? b=some ob)
  (hf:∀ b,b=a\/b ∈ g->h.get? b=none/\∃ ob,h'.get? b=some ob) (hnd:(a :: g).Nodup) (ho:ORelF C h' (fun b=>own H G b\/b=a\/b ∈ g) G o a g) :
  Rel C (upd H a (.f o)) (Cd G a g) (own (upd H a (.f o)) (Cd G a g)) h':=by
 have hn:H a=none:=R.none_of (hf a (.inl rfl)).1
 have oe:=Ot (G:=G) (o:=.f o) (g:=g) hn
 rw[oe]
 have ge:∀ x,x ≠ a->Cd G a g x=G x:=fun x e=>by simp[Cd,e]
 have ga:Cd G a g a=g:=by simp[Cd]
 have nof:∀ b ob,h.get? b=some ob->¬ (b=a\/b ∈ g):=fun b ob e x=>by rw[(hf b x).1]at e;exact nqa e
 refine⟨fun b hb=>by rw[oe]at hb;exact hb,fun x ob hx=>?_,fun x hx=>?_,fun x y z hx hy hxy hz=>?_,fun b ob e=>?_,fun b hb=>?_⟩
 ·by_cases e:x=a
  ·subst e;rw[Ad]at hx;obtain rfl:=Option.some.inj hx;rw[ga]
   refine ORelF.mono (fun b ob z0 z0 e z0 hb=>⟨e,hb⟩) (fun z0 z0 z0 e=>e) ho
  ·rw[Aa e]at hx;rw[ge x e]
   exact(R.obj x ob hx).mono (fun b ob z0 z0 e' z0 hb=>⟨hk b ob e',fun q=>q.elim hb (nof b ob e')⟩) fun b ob z0 e'=>hk b ob e'
 ·by_cases e:x=a
  ·clear R ge hf hk hn ho hx nof oe;subst e;rw[ga];exact hnd
  ·rw[ge x e];rw[Aa e]at hx;exact R.nd x hx
 ·by_cases e:x=a
  ·clear hf hk hn hnd ho hx oe;subst e
   rw[ga]at hz
   have ey:y ≠ x:=Ne.symm hxy
   rw[Aa ey]at hy
   rw[ge y ey]
   intro q
   obtain⟨ob,e⟩:=R.live z ⟨y,hy,q⟩
   exact nof z ob e hz
  ·rw[Aa e]at hx;rw[ge x e]at hz
   by_cases ey:y=a
   ·clear ge hf hk hn hnd ho hxy hy oe;subst ey;rw[ga]
    intro q
    obtain⟨ob,e⟩:=R.live z ⟨x,hx,hz⟩
    exact nof z ob e q
   ·rw[Aa ey]at hy;rw[ge y ey]
    exact R.dj x y z hx hy hxy hz
 ·have:=R.base b ob e
  exact⟨hk _ _ this.1,fun q=>q.elim this.2 (nof b ob this.1)⟩
 ·rcases hb with hb | hb
  ·obtain⟨ob,e⟩:=R.live b hb;exact⟨ob,hk _ _ e⟩
  ·exact(hf b hb).2
end
section
variable {P:Addr->Prop} {H H' H'':AH} {G G' G'':Gh} {s s' s'':Shared}
theorem Step.refl (s:Shared):Step P H G s H G s:=⟨⟨s.heap,s.toks,rfl⟩,fun z0 o z0 z0 e=>⟨o,e,.refl o⟩,fun z0 o z0 e=>⟨o,e⟩,fun z0 x=>.inl x,fun z0 z0 e z0=>⟨e,rfl,fun z0 z0=>rfl⟩⟩
theorem Step.ofKp (k:Kp s s')(hl:∀ b,own H G b->∃ ob,s.heap.get? b=some ob):Step P H G s H G s':=by
 obtain⟨⟨h',tk,rfl⟩,hk⟩:=k
 refine⟨⟨h',tk,rfl⟩,fun b o z0 z0 e=>⟨o,hk b o e,.refl o⟩,fun b o z0 e=>⟨o,hk b o e⟩,fun z0 x=>.inl x,fun a o e z0=>⟨e,rfl,fun b hb=>?_⟩⟩
 obtain⟨ob,hob⟩:=hl b ⟨a,by rw[e];simp,hb⟩
 rw[hob];exact hk _ _ hob
theorem Step.trans (a:Step P H G s H' G' s')(b:Step P H' G' s' H'' G'' s''):Step P H G s H'' G'' s'':=by
 refine⟨?_,fun x o h1 h2 e=>(let ⟨o',e',q⟩:=a.keep x o h1 h2 e;let ⟨o'',e'',q'⟩:=b.keep x o' (fun y=>?_) h2 e';⟨o'',e'',q.trans q'⟩),fun x o p e=>?_,fun x hx=>?_,fun x o e l=>?_⟩
 ·obtain⟨h1,t1,rfl⟩:=a.same;obtain⟨h2,t2,rfl⟩:=b.same;exact⟨h2,t2,rfl⟩
 ·rcases a.fresh x y with z | z
  ·exact h1 z
  ·rw[z]at e;exact nqa e
 ·obtain⟨o',e'⟩:=a.pl x o p e
  exact b.pl x o' p e'
 ·rcases b.fresh x hx with z | z
  ·exact a.fresh x z
  ·by_cases q:own H G x
   ·exact .inl q
   ·right
    cases e:s.heap.get? x with
    | none=>rfl
    | some o =>
     by_cases p:P x
     ·obtain⟨o',e'⟩:=a.pl x o p e;rw[e']at z;exact nqb z
     ·obtain⟨o',e',_⟩:=a.keep x o q p e;rw[e']at z;exact nqb z
 ·refine Ac fun PP ret=>?_
  obtain⟨e1,g1,l1⟩:=a.lock x o e l
  obtain⟨e2,g2,l2⟩:=b.lock x o e1 l
  refine ret ?_
  exact⟨e2,g2.trans g1,fun y hy=>(l2 y (by rwa [g1])).trans (l1 y hy)⟩
end
end Mine
end
section
namespace Mine
section
variable {C:Cx} {k:Nat} {sc:Sc} {f f':PF}
theorem PureE.two {l r:Expr}{A:Around}{env:Env}{s:Shared}{ρ:Rho}{H:AH}{G:Gh}{O:Addr->Prop}{u v:AV}{K:Value->Value->Shared->Prop}
  (hl:PureE C k sc l f) (hr:PureE C k sc r f') (hA:AOk k A) (F:WF C A sc env ρ G O s.heap) (R:Rel C H G O s.heap) (hu:f ρ H=some u) (hv:f' ρ H=some v)
  (hK:∀ x y s',VRel s'.heap O G u x->VRel s'.heap O G v y->Kp s s'->K x y s') :
  wpAny (model C.prog C.w) A (eval l env) (fun x s₁=>wpAny (model C.prog C.w) A (eval r env) (fun y s₂=>K x y s₂) (fun z0 z0=>False) s₁) (fun z0 z0=>False) s:=by
 refine wpAny_mono (hl A env s ρ H G O u hA F R hu) (fun x s1 h1=>?_) (fun z0 z0 x=>x)
 obtain⟨rx,k1⟩:=h1
 refine wpAny_mono (hr A env s1 ρ H G O v hA (F.keep k1.k) (R.keep k1.k) hv) (fun y s2 h2=>?_) (fun z0 z0 x=>x)
 obtain⟨ry,k2⟩:=h2
 exact hK x y s2 (rx.keep k2.k) ry (k1.trans' k2)
noncomputable def BinR (C:Cx) (k:Nat) (t:Value->Value->Sem Value) (g:AH->AV->AV->Option AV):Prop :=
 ∀ (A:Around) (s:Shared) (H:AH) (G:Gh) (O:Addr->Prop) (u v r:AV) (x y:Value),AOk k A->Rel C H G O s.heap->VRel s.heap O G u x->VRel s.heap O G v y->g H u v=some r ->
  wpAny (model C.prog C.w) A (t x y) (fun z s'=>VRel s'.heap O G r z/\Kp s s') (fun z0 z0=>False) s
noncomputable def opP (g:AH->AV->AV->Option AV) (f f':PF):PF:=fun ρ H=>match f ρ H,f' ρ H with
 | some u,some v=>g H u v
 | _,_=>none
theorem It {g:AH->AV->AV->Option AV}{ρ:Rho}{H:AH}{r:AV}(h:opP g f f' ρ H=some r):∃ u v,f ρ H=some u/\f' ρ H=some v/\g H u v=some r:=by
 unfold opP at h
 refine Qk h ?_;clear h;intro z1 z2 q1 q2 h
 exact⟨_,_,by assumption,by assumption,h⟩
theorem PureE.bin {l r:Expr}{op:Operator}{pos:Pos}{g:AH->AV->AV->Option AV}(hl:PureE C k sc l f)(hr:PureE C k sc r f')(hg:BinR C k (binaryOp op) g):PureE C k sc (.BinOp l op r pos) (opP g f f'):=by
 intro A env s ρ H G O v hA F R hv
 refine Ac fun PP ret=>?_
 obtain⟨a,b,ha,hb,hr'⟩:=It hv
 refine ret ?_
 refine wpAny_BinOp (PureE.two hl hr hA F R ha hb fun x y s' rx ry ks=>?_)
 refine wpAny_mono (hg A s' H G O a b v x y hA (R.keep ks.k) rx ry hr') (fun z s'' hz=>⟨hz.1,ks.trans' hz.2⟩) (fun z0 z0 x=>x)
theorem PureE.cmp {l r:Expr}{op:CmpOp}{pos:Pos}{g:AH->AV->AV->Option AV}(hl:PureE C k sc l f)(hr:PureE C k sc r f')(hg:BinR C k (compareOp op) g)
  (hm:behindInMarks op r=false:=by with_unfolding_all rfl):PureE C k sc (.Compare l [op] [r] pos) (opP g f f'):=by
 intro A env s ρ H G O v hA F R hv
 refine Ac fun PP ret=>?_
 obtain⟨a,b,ha,hb,hr'⟩:=It hv
 refine ret ?_
 refine wpAny_Compare1 (PureE.two hl hr hA F R ha hb fun x y s' rx ry ks=>?_) hm
 refine wpAny_mono (hg A s' H G O a b v x y hA (R.keep ks.k) rx ry hr') (fun z s'' hz=>⟨hz.1,ks.trans' hz.2⟩) (fun z0 z0 x=>x)
noncomputable def CmpR (C:Cx) (k:Nat) (op:CmpOp) (g:AH->AV->AV->Option Bool):Prop:=BinR C k (compareOp op) (fun H u v=>(g H u v).map .bool)
noncomputable def Aw (g:AH->AV->AV->Option Bool) (f f':PF):CF:=fun ρ H=>match f ρ H,f' ρ H with
 | some u,some v=>g H u v
 | _,_=>none
theorem Wd {g:AH->AV->AV->Option Bool}{ρ:Rho}{H:AH}{r:Bool}(h:Aw g f f' ρ H=some r):∃ u v,f ρ H=some u/\f' ρ H=some v/\g H u v=some r:=by
 unfold Aw at h
 refine Qk h ?_;clear h;intro z1 z2 q1 q2 h
 exact⟨_,_,by assumption,by assumption,h⟩
theorem TestE.cmp {l r:Expr}{op:CmpOp}{pos:Pos}{g:AH->AV->AV->Option Bool}(hl:PureE C k sc l f)(hr:PureE C k sc r f')(hg:CmpR C k op g)
  (hm:behindInMarks op r=false:=by with_unfolding_all rfl):TestE C k sc (.Compare l [op] [r] pos) (Aw g f f'):=by
 intro A env s ρ H G O b hA F R hv
 refine Ac fun PP ret=>?_
 obtain⟨u,v,ha,hb,hr'⟩:=Wd hv
 refine ret ?_
 refine wpAny_isTrue_Compare1 (PureE.two hl hr hA F R ha hb fun x y s' rx ry ks=>?_) hm
 refine wpAny_mono (hg A s' H G O u v (.bool b) x y hA (R.keep ks.k) rx ry (by simp[hr'])) (fun z s'' hz=>?_) (fun z0 z0 x=>x)
 obtain⟨hz,k2⟩:=hz
 simp only [vRb]at hz;subst hz
 exact wpAny_truthy_bool ⟨rfl,ks.trans' k2⟩
noncomputable def bP (c:CF):PF:=fun ρ H=>(c ρ H).map .bool
theorem PureE.cmpB {l r:Expr}{op:CmpOp}{pos:Pos}{g:AH->AV->AV->Option Bool}(hl:PureE C k sc l f)(hr:PureE C k sc r f')(hg:CmpR C k op g)
  (hm:behindInMarks op r=false:=by with_unfolding_all rfl):PureE C k sc (.Compare l [op] [r] pos) (bP (Aw g f f')):=by
 have:=PureE.cmp (pos:=pos) hl hr hg hm
 intro A env s ρ H G O v hA F R hv
 refine this A env s ρ H G O v hA F R ?_
 unfold bP Aw at hv;unfold opP
 revert hv
 cases f ρ H with
 | none=>simp
 | some u=>cases f' ρ H with
  | none=>simp
  | some w=>simp
theorem TestE.not {x:Expr}{pos:Pos}{c:CF}(h:TestE C k sc x c):TestE C k sc (.UnaryOp .Not x pos) (fun ρ H=>(c ρ H).map (!·)):=by
 intro A env s ρ H G O b hA F R hv
 obtain⟨a,ha,rfl⟩:=Option.map_eq_some_iff.mp hv
 exact wpAny_isTrue_Not (wpAny_mono (h A env s ρ H G O a hA F R ha) (fun z0 z0 q=>⟨by rw[q.1],q.2⟩) fun z0 z0 x=>x)
noncomputable def Wj (c c':CF):CF:=fun ρ H=>match c ρ H with
 | some true=>c' ρ H
 | some false=>some false
 | none=>none
theorem TestE.and {x y:Expr}{pos:Pos}{c c':CF}(h:TestE C k sc x c)(h':TestE C k sc y c'):TestE C k sc (.BoolOp .And [x,y] pos) (Wj c c'):=by
 intro A env s ρ H G O b hA F R hv
 unfold Wj at hv
 refine wpAny_isTrue_BoolOp (wpAny_allTrue_And_cons ?_)
 cases hc:c ρ H with
 | none=>rw[hc]at hv;exact nqa hv
 | some a =>
  rw[hc]at hv
  refine wpAny_mono (h A env s ρ H G O a hA F R hc) (fun q s1 hq=>?_) (fun z0 z0 x=>x)
  clear h hc;obtain⟨rfl,k1⟩:=hq
  cases q with
  | false=>simp at hv;simp only [Bool.false_eq_true,if_false];exact⟨hv.symm,k1⟩
  | true =>
   simp only [if_true]at hv ⊢
   refine wpAny_allTrue_And_cons (wpAny_mono (h' A env s1 ρ H G O b hA (F.keep k1.k) (R.keep k1.k) hv) (fun q s2 hq=>?_) (fun z0 z0 x=>x))
   obtain⟨rfl,k2⟩:=hq
   cases q with
   | false=>simp only [Bool.false_eq_true,if_false];exact⟨trivial,k1.trans' k2⟩
   | true=>simp only [if_true];exact wpAny_allTrue_And_nil ⟨rfl,k1.trans' k2⟩
noncomputable def vP (i:Nat):PF:=fun ρ z0=>match ρ i with
 | .undef=>none
 | v=>some v
theorem aK {i:Nat}{ρ:Rho}{H:AH}{v:AV}(h:vP i ρ H=some v):ρ i=v/\v ≠ .undef:=by
 unfold vP at h
 set_option tactic.hygienic true in split at h
 ·exact nqa h
 ·rename_i hne;obtain rfl:=Option.some.inj h;exact⟨rfl,fun e=>hne e⟩
theorem Ox {x:Str}{i:Nat}{A:Around}{env:Env}{s:Shared}{ρ:Rho}{G:Gh}{O:Addr->Prop}{v:AV}{Q:Value->Shared->Prop}{E:Value->Shared->Prop}{M:Model}
  (F:WF C A sc env ρ G O s.heap) (hx:(x,i) ∈ sc.vars) (hv:ρ i=v) (hne:v ≠ .undef) (hQ:∀ y,VRel s.heap O G v y->Q y s) (hcd:(x == ("__classdict__":Str))=false):wpAny M A (loadName env x) Q E s:=by
 subst hv
 by_cases hl:env.kindOf x=some .local
 ·obtain⟨m,hm,hr⟩:=F.ns
  rcases hr x i hx hl with h | ⟨y,hy,hr⟩
  ·exact absurd h hne
  ·exact wpAny_loadName_local F.kind hl hm hy (hQ y hr)
 ·refine Ac fun PP ret=>?_
  obtain⟨hk,c,ov,hc,hcell,hr⟩:=F.cells x i hx hl
  refine ret ?_
  rcases hr with h | ⟨y,rfl,hr⟩
  ·exact absurd h hne
  ·rcases hk with hk | hk
   ·exact wpAny_loadName_cell F.kind hk hc hcell (hQ y hr)
   ·exact wpAny_loadName_free F.kind hk hc hcell (hQ y hr) hcd
theorem PureE.var {x:Str} {i:Nat} {pos:Pos} (hx:(x,i) ∈ sc.vars) (hd:(x == ("__debug__":Str))=false:=by decide) (hcd:(x == ("__classdict__":Str))=false:=by decide):PureE C k sc (.Name x pos) (vP i):=by
 intro A env s ρ H G O v hA F R hv
 obtain⟨h1,h2⟩:=aK hv
 exact wpAny_Name (Ox F hx h1 h2 (fun y hy=>⟨hy,.refl' s⟩) hcd) hd
theorem Nz {x:Str}{A:Around}{env:Env}{s:Shared}{mg mb:Str->Option Value}{y:Value}{Q:Value->Shared->Prop}{E:Value->Shared->Prop}{M:Model}(hf:env.scope.kind = .function)(hk:env.kindOf x=some .globalImplicit)
  (n1:s.heap.Ns env.globals mg) (n2:s.heap.Ns env.builtins mb) (hm:mg x=some y\/(mg x=none/\mb x=some y)) (hQ:Q y s):wpAny M A (loadName env x) Q E s:=by
 unfold loadName
 simp only [Env.blockKind,hf,hk,ScopeKind.isAnnotationScope,Bool.false_and,Bool.false_eq_true,if_false]
 unfold loadGlobal
 rcases hm with hm | ⟨hm,hm'⟩
 ·refine wpAny_bind (wpAny_nsGet n1 ?_)
  rw[hm];exact wpAny_pure hQ
 ·refine wpAny_bind (wpAny_nsGet n1 ?_)
  rw[hm]
  refine wpAny_bind (wpAny_nsGet n2 ?_)
  rw[hm'];exact wpAny_pure hQ
theorem Cf {x:Str}{A:Around}{env:Env}{s:Shared}{ρ:Rho}{H:AH}{G:Gh}{O:Addr->Prop}{y:Value}{Q:Value->Shared->Prop}{E:Value->Shared->Prop}{M:Model}
  (F:WF C A sc env ρ G O s.heap) (R:Rel C H G O s.heap) (hx:x ∈ sc.globs) (hm:C.mg x=some y\/(C.mg x=none/\C.mb x=some y)) (hQ:Q y s):wpAny M A (loadName env x) Q E s :=
 Nz F.kind (F.gl x hx) (F.glob ▸ C.ns.keeps fun b o e=>(R.base b o e).1) (F.bui ▸ C.nb.keeps fun b o e=>(R.base b o e).1) hm hQ
noncomputable def cP (v:AV):PF:=fun z0 z0=>some v
theorem PureE.glob {x:Str} {pos:Pos} {v:AV} {y:Value} (hx:x ∈ sc.globs) (hm:C.mg x=some y\/(C.mg x=none/\C.mb x=some y)) (hv:∀ h O G,VRel h O G v y) (hd:(x == ("__debug__":Str))=false:=by decide):PureE C k sc (.Name x pos) (cP v):=by
 intro A env s ρ H G O v' hA F R hv'
 obtain rfl:=Option.some.inj hv'
 exact wpAny_Name (Cf F R hx hm ⟨hv _ _ _,.refl' s⟩) hd
theorem PureE.none {i pos}:PureE C k sc (.Constant .none i pos) (cP .none):=by
 intro A env s ρ H G O v hA F R hv;obtain rfl:=Option.some.inj hv;exact wpAny_Constant_none ⟨by simp[vRn],.refl' s⟩
theorem PureE.bool {b i pos}:PureE C k sc (.Constant (.bool b) i pos) (cP (.bool b)):=by
 intro A env s ρ H G O v hA F R hv;obtain rfl:=Option.some.inj hv;exact wpAny_Constant_bool ⟨by simp[vRb],.refl' s⟩
theorem PureE.int {n i pos}:PureE C k sc (.Constant (.int n) i pos) (cP (.int n)):=by
 intro A env s ρ H G O v hA F R hv;obtain rfl:=Option.some.inj hv;exact wpAny_Constant_int ⟨by simp[vRi],.tok⟩
noncomputable def Nn (H:AH):AV->Option Bool
 | .none=>some false
 | .bool b=>some b
 | .int i=>some (i != 0)
 | .fl vs=>some (!vs.isEmpty)
 | .ref a=>match H a with
  | some (.f (.lst _ vs))=>some (!vs.isEmpty)
  | _=>Option.none
 | _=>Option.none
theorem Ol {H:AH}{a:Addr}:Nn H (.ref a)=match H a with | some (.f (.lst _ vs))=>some (!vs.isEmpty) | _=>Option.none:=rfl
end
end Mine
end
section
open AutoSeq1 (wpAny_loadPart')
open MeetsSeq MeetsSeq2 MeetsSeq3 SeqRoads2 SeqAt
namespace Mine
noncomputable def LtAt (A:Around) (s:Shared) (y x:Value) (b:Bool):Prop :=
 ∀ (prog:Program) (w:World) (E:Value->Shared->Prop) (Q:Value->Shared->Prop),Q (.bool b) s->wpAny (model prog w) A (richCompare .Lt y x) Q E s
noncomputable def Gk (A:Around) (s:Shared) (fin:Bool):List (Value × Value)->Bool->Prop
 | [],b=>b=fin
 | (p,q) :: r,b=>∃ e,EqAt A s p q e/\(if e=true then Gk A s fin r b else LtAt A s p q b)
theorem Rd {A:Around}{s:Shared}{fin b:Bool}:Gk A s fin [] b=(b=fin):=rfl
theorem Re {A:Around}{s:Shared}{fin b:Bool}{p q:Value}{r:List (Value × Value)}:Gk A s fin ((p,q) :: r) b = ∃ e,EqAt A s p q e/\(if e=true then Gk A s fin r b else LtAt A s p q b):=rfl
theorem Rg (l b:Addr)(items items2:Array Value)(n n2:Nat)(dd dd2:Option Addr)(sl sl2:Array (Option Value))(r:Bool) :
  Meets (Builtin.«tuple.__lt__» ⟨[.ref l,.ref b],[]⟩)
   (fun A R s=>s.heap.get? l=some { cls:=.type "tuple",dict:=dd,data:=.seq items n,slots:=sl }/\s.heap.get? b=some { cls:=.type "tuple",dict:=dd2,data:=.seq items2 n2,slots:=sl2 } /\
    Gk A.in1 s (decide (items.size < items2.size)) (items.toList.zip items2.toList) r/\R (.ok (.ret (.bool r))) s) :=
 .of_wp fun prog w A R s h=>by
  obtain⟨hp,g,d,tk,os⟩:=s;obtain⟨hl,hb,he,h⟩:=h
  have f2:=AutoSeq1.sub_tuple_tuple
  wp_walk using wpAny_loadPart' hl,wpAny_loadPart' hb,wpAny_forIn_list _ (fun rest b s'=>b.1=none/\s' = ⟨hp,g,d,tk,os⟩/\Gk A.in1 ⟨hp,g,d,tk,os⟩ (decide (items.size < items2.size)) rest r) _
  case turn =>
   clear f2 hb he hl;rintro⟨y,x⟩ rest b s' ⟨hb',rfl,e,hz,hR⟩
   refine wpAny_bind (hz prog w _ _ ?_)
   cases e with
   | true =>
    simp only [if_true]at hR
    wp_walk
    exact⟨rfl,rfl,hR⟩
   | false =>
    simp only [Bool.false_eq_true,if_false]at hR
    have hR':∀ (E:Value->Shared->Prop) (Q:Value->Shared->Prop),Q (.bool r) ⟨hp,g,d,tk,os⟩->wpAny (model prog w) A.in1 (richCompare .Lt y x) Q E ⟨hp,g,d,tk,os⟩:=fun E Q q=>hR prog w E Q q
    wp_walk using hR' _ _
    exact⟨_,rfl,h⟩
  case fin =>
   clear f2 hb he hl;rintro⟨b1,b2⟩ s' ⟨hb',rfl,hR⟩
   simp only at hb'
   subst hb'
   simp only [Rd,Re]at hR
   subst hR
   wp_walk
   exact⟨_,rfl,by simpa [Builtin.Tuple.tupleCompareSizes]using h⟩
  case h =>
   exact⟨rfl,rfl,he⟩
theorem Vm (l b:Addr)(items items2:Array Value)(n n2:Nat)(dd dd2:Option Addr)(sl sl2:Array (Option Value))(r:Bool)(k:Nat) :
  ∀ i:Nat,items.size - i=k->Meets (Builtin.«list.__eq__.loop» ⟨[.ref l,.ref b,rawInt i,rawInt 0],[]⟩)
   (fun A R s=>s.heap.get? l=some { cls:=.type "list",dict:=dd,data:=.seq items n,slots:=sl }/\s.heap.get? b=some { cls:=.type "list",dict:=dd2,data:=.seq items2 n2,slots:=sl2 } /\
    Gk A.in1 s (decide (items.size < items2.size)) ((items.toList.zip items2.toList).drop i) r/\i<=items.size/\R (.ok (.ret (.bool r))) s):=by
 induction k with
 | zero =>
  intro i hk prog w A R s h
  obtain⟨hp,g,d,tk,os⟩:=s;obtain⟨hl,hb,he,hle,h⟩:=h
  have hi:items[((i:Nat):Int).toNat]? = none:=by simp;exact Ar.r18 hk
  have hd:(items.toList.zip items2.toList).drop i=[]:=by simp;exact Ar.r17 hk
  rw[hd]at he
  simp only [Rd,Re]at he
  subst he
  wp_walk using wpAny_loadPart' hl,wpAny_loadPart' hb
  rw[hi]
  wp_walk using wpAny_loadPart' hl,wpAny_loadPart' hb
  exact h
 | succ k ih =>
  intro i hk prog w A R s h
  obtain⟨hp,g,d,tk,os⟩:=s;obtain⟨hl,hb,he,hle,h⟩:=h
  have hlt:i < items.size:=by exact Ar.r16 hk
  have hi1:items[((i:Nat):Int).toNat]? = some items[i]:=by simp[hlt]
  by_cases h2:i < items2.size
  ·have hi2:items2[((i:Nat):Int).toNat]? = some items2[i]:=by simp[h2]
   have hz:i < (items.toList.zip items2.toList).length:=by simp;exact Ar.r184 hlt h2
   rw[List.drop_eq_getElem_cons hz]at he
   simp only [List.getElem_zip,Array.getElem_toList,Rd,Re]at he
   obtain⟨e,hE,he⟩:=he
   wp_walk using wpAny_loadPart' hl,wpAny_loadPart' hb
   rw[hi1,hi2]
   refine wpAny_bind (hE prog w _ _ ?_)
   cases e with
   | true =>
    simp only [if_true]at he
    have hc:((i:Int) + 1)=((i + 1:Nat):Int):=by push_cast;rfl
    wp_walk
    rw[hc]
    exact⟨plainId_quiet plain_eq_loop _,codeAny_builtin entry_eq_loop (by
     rw[Around.under_plainId plain_eq_loop _]
     exact ih (i + 1) (by exact Ar.r15 hk) prog w A R _ ⟨hl,hb,he,by exact Ar.r188 hlt,h⟩)⟩
   | false =>
    simp only [Bool.false_eq_true,if_false]at he
    wp_walk using wpAny_loadPart' hl,wpAny_loadPart' hb
    rw[hi1,hi2]
    have hR':∀ (E:Value->Shared->Prop) (Q:Value->Shared->Prop),Q (.bool r) ⟨hp,g,d,tk,os⟩->wpAny (model prog w) A.in1 (richCompare .Lt items[i] items2[i]) Q E ⟨hp,g,d,tk,os⟩:=fun E Q q=>he prog w E Q q
    wp_walk using hR' _ _
    exact h
  ·have hi2:items2[((i:Nat):Int).toNat]? = none:=by simp;exact Ar.r123 h2
   have hd:(items.toList.zip items2.toList).drop i=[]:=by simp;exact Ar.r122 h2
   rw[hd]at he
   simp only [Rd,Re]at he
   subst he
   wp_walk using wpAny_loadPart' hl,wpAny_loadPart' hb
   rw[hi1,hi2]
   wp_walk using wpAny_loadPart' hl,wpAny_loadPart' hb
   exact h
theorem Vn (l b:Addr)(items items2:Array Value)(n n2:Nat)(dd dd2:Option Addr)(sl sl2:Array (Option Value))(r:Bool) :
  Meets (Builtin.«list.__lt__» ⟨[.ref l,.ref b],[]⟩)
   (fun A R s=>s.heap.get? l=some { cls:=.type "list",dict:=dd,data:=.seq items n,slots:=sl }/\s.heap.get? b=some { cls:=.type "list",dict:=dd2,data:=.seq items2 n2,slots:=sl2 } /\
    Gk A.in1 s (decide (items.size < items2.size)) (items.toList.zip items2.toList) r/\R (.ok (.ret (.bool r))) s):=by
 intro prog w A R s h
 obtain⟨hp,g,d,tk,os⟩:=s;obtain⟨hl,hb,he,h⟩:=h
 have f3:=AutoSeq1.sub_list_list
 wp_walk using wpAny_loadPart' hl,wpAny_loadPart' hb
 exact⟨plainId_quiet plain_eq_loop _,codeAny_builtin entry_eq_loop (by
  rw[Around.under_plainId plain_eq_loop _]
  exact Vm l b items items2 n n2 dd dd2 sl sl2 r _ 0 rfl prog w A R _ ⟨hl,hb,by simpa using he,Nat.zero_le _,h⟩)⟩
section
variable {A:Around} {s:Shared}
theorem LtAt.lists {l b:Addr}{items items2:Array Value}{r:Bool}(hl:s.heap.IsList l items)(hb:s.heap.IsList b items2)(hu:A.units < cLine)
  (he:Gk A.in1 s (decide (items.size < items2.size)) (items.toList.zip items2.toList) r):LtAt A s (.ref l) (.ref b) r:=fun prog w E Q h=>by
 obtain⟨⟨cls,dd,data,sl⟩,ho,hc,n,hd⟩:=id hl
 obtain⟨⟨cls2,dd2,data2,sl2⟩,ho2,hc2,n2,hd2⟩:=id hb
 simp only at hc hd hc2 hd2
 subst hc hd hc2 hd2
 exact richCompare_meets_room (op:=.Lt) ⟨_,ho,rfl⟩ ⟨_,ho2,rfl⟩ F.slot_list_lt F.entry_list_lt (F.args_list_lt_2 _ _) (Vn l b items items2 n n2 dd dd2 sl sl2 r)
  ⟨ho,ho2,he,show Value.bool r ≠ Value.notImplemented/\Q (.bool r) s from ⟨(fun x=>nomatch x),h⟩⟩ hu
theorem LtAt.tuples {l b:Addr}{items items2:Array Value}{r:Bool}(hl:s.heap.IsTuple l items)(hb:s.heap.IsTuple b items2)(hu:A.units < cLine)
  (he:Gk A.in1 s (decide (items.size < items2.size)) (items.toList.zip items2.toList) r):LtAt A s (.ref l) (.ref b) r:=fun prog w E Q h=>by
 obtain⟨⟨cls,dd,data,sl⟩,ho,hc,n,hd⟩:=id hl
 obtain⟨⟨cls2,dd2,data2,sl2⟩,ho2,hc2,n2,hd2⟩:=id hb
 simp only at hc hd hc2 hd2
 subst hc hd hc2 hd2
 exact richCompare_meets_room (op:=.Lt) ⟨_,ho,rfl⟩ ⟨_,ho2,rfl⟩ F.slot_tuple_lt F.entry_tuple_lt (F.args_tuple_lt_2 _ _) (Rg l b items items2 n n2 dd dd2 sl sl2 r)
  ⟨ho,ho2,he,show Value.bool r ≠ Value.notImplemented/\Q (.bool r) s from ⟨(fun x=>nomatch x),h⟩⟩ hu
end
end Mine
end
section
open SeqAt
namespace Mine
noncomputable def eqL (e:AV->AV->Option Bool):List AV->List AV->Option Bool
 | [],[]=>some true
 | x :: xs,y :: ys=>match e x y,eqL e xs ys with
  | some b,some c=>some (b && c)
  | _,_=>none
 | _,_=>none
noncomputable def eqS (u v:AV):Option Bool:=match u with
 | .none=>(match v with | .none=>some true | .int _=>some false | _=>none)
 | .int a=>(match v with | .none=>some false | .int b=>some (a == b) | _=>none)
 | .bool a=>(match v with | .bool b=>some (a == b) | _=>none)
 | .str a=>(match v with | .str b=>some (a == b) | _=>none)
 | _=>none
noncomputable def eqA:Nat->AV->AV->Option Bool
 | 0,u,v=>eqS u v
 | n + 1,u,v=>match u with
  | .tup xs=>(match v with | .tup ys=>eqL (eqA n) xs ys | _=>none)
  | .fl xs=>(match v with | .fl ys=>if xs.length ≠ ys.length then some false else eqL (eqA n) xs ys | _=>none)
  | _=>eqS u v
noncomputable def ltL (e l:AV->AV->Option Bool):List AV->List AV->Option Bool
 | [],[]=>some false
 | [],_ :: _=>some true
 | _ :: _,[]=>some false
 | x :: xs,y :: ys=>match e x y with
  | some true=>ltL e l xs ys
  | some false=>l x y
  | none=>none
noncomputable def ltS (u v:AV):Option Bool:=match u with
 | .int a=>(match v with | .int b=>some (decide (a < b)) | _=>none)
 | .str a=>(match v with | .str b=>some (decide (a.cps.toList < b.cps.toList)) | _=>none)
 | _=>none
noncomputable def ltA:Nat->AV->AV->Option Bool
 | 0,u,v=>ltS u v
 | n + 1,u,v=>match u with
  | .tup xs=>(match v with | .tup ys=>ltL (eqA n) (ltA n) xs ys | _=>none)
  | .fl xs=>(match v with | .fl ys=>ltL (eqA n) (ltA n) xs ys | _=>none)
  | _=>ltS u v
inductive EqI:Nat->AV->AV->Bool->Prop
 | nn {n}:EqI n .none .none true
 | ni {n} (i:Int):EqI n .none (.int i) false
 | iN {n} (i:Int):EqI n (.int i) .none false
 | bb {n} (a b:Bool):EqI n (.bool a) (.bool b) (a == b)
 | ii {n} (a b:Int):EqI n (.int a) (.int b) (a == b)
 | ss {n} (a b:Str):EqI n (.str a) (.str b) (a == b)
 | tt {n xs ys b} (h:eqL (eqA n) xs ys=some b):EqI (n + 1) (.tup xs) (.tup ys) b
 | ll {n xs ys b} (h:(if xs.length ≠ ys.length then some false else eqL (eqA n) xs ys)=some b):EqI (n + 1) (.fl xs) (.fl ys) b
inductive LtI:Nat->AV->AV->Bool->Prop
 | ii {n} (a b:Int):LtI n (.int a) (.int b) (decide (a < b))
 | ss {n} (a b:Str):LtI n (.str a) (.str b) (decide (a.cps.toList < b.cps.toList))
 | tt {n xs ys b} (h:ltL (eqA n) (ltA n) xs ys=some b):LtI (n + 1) (.tup xs) (.tup ys) b
 | ll {n xs ys b} (h:ltL (eqA n) (ltA n) xs ys=some b):LtI (n + 1) (.fl xs) (.fl ys) b
theorem Ty {n u v b}(h:eqS u v=some b):EqI n u v b:=by
 cases u with
 | none =>
  cases v with
  | none=>exact Option.some.inj h ▸ .nn
  | int i=>exact Option.some.inj h ▸ .ni i
  | _=>exact nqa h
 | int a =>
  cases v with
  | none=>exact Option.some.inj h ▸ .iN a
  | int i=>exact Option.some.inj h ▸ .ii a i
  | _=>exact nqa h
 | bool a =>
  cases v with
  | bool i=>exact Option.some.inj h ▸ .bb a i
  | _=>exact nqa h
 | str a =>
  cases v with
  | str i=>exact Option.some.inj h ▸ .ss a i
  | _=>exact nqa h
 | _=>exact nqa h
theorem Ua {n u v b}(h:eqA n u v=some b):EqI n u v b:=by
 cases n with
 | zero=>exact Ty h
 | succ n =>
  cases u with
  | tup xs =>
   cases v with
   | tup ys=>exact .tt h
   | _=>exact nqa h
  | fl xs =>
   cases v with
   | fl ys=>exact .ll h
   | _=>exact nqa h
  | _=>exact Ty h
theorem Tk {n u v b}(h:ltS u v=some b):LtI n u v b:=by
 cases u with
 | int a =>
  cases v with
  | int i=>exact Option.some.inj h ▸ .ii a i
  | _=>exact nqa h
 | str a =>
  cases v with
  | str i=>exact Option.some.inj h ▸ .ss a i
  | _=>exact nqa h
 | _=>exact nqa h
theorem Tl {n u v b}(h:ltA n u v=some b):LtI n u v b:=by
 cases n with
 | zero=>exact Tk h
 | succ n =>
  cases u with
  | tup xs =>
   cases v with
   | tup ys=>exact .tt h
   | _=>exact nqa h
  | fl xs =>
   cases v with
   | fl ys=>exact .ll h
   | _=>exact nqa h
  | _=>exact Tk h
noncomputable def Bf (H:AH):AV->Option (List AV)
 | .fl vs=>some vs
 | .ref a=>match H a with
  | some (.f (.lst _ vs))=>some vs
  | _=>none
 | .row a i=>match H a with
  | some (.f (.mat _ M))=>M[i]?
  | _=>none
 | _=>none
theorem Dz {H:AH}{a:Addr}:Bf H (.ref a)=match H a with | some (.f (.lst _ vs))=>some vs | _=>none:=rfl
theorem Eu {H:AH}{a:Addr}{i:Nat}:Bf H (.row a i)=match H a with | some (.f (.mat _ M))=>M[i]? | _=>none:=rfl
noncomputable def eqV (H:AH) (u v:AV):Option Bool:=match Bf H u,Bf H v with
 | some xs,some ys=>if xs.length ≠ ys.length then some false else eqL (eqA 6) xs ys
 | _,_=>eqA 7 u v
noncomputable def ltV (H:AH) (u v:AV):Option Bool:=match Bf H u,Bf H v with
 | some xs,some ys=>ltL (eqA 6) (ltA 6) xs ys
 | _,_=>ltA 7 u v
theorem Aj {h:Heap}{a n}{items:List Value}(e:h.get? a=some (Bt items n)):h.IsList a items.toArray:=⟨_,e,rfl,n,rfl⟩
theorem Bu {h:Heap}{a n}{items:List Value}(e:h.get? a=some (Kz items n)):h.IsTuple a items.toArray:=⟨_,e,rfl,n,rfl⟩
theorem Sj {h:Heap}{a n}{items:List Value}(e:h.get? a=some (Kz items n)):IsTup h a items.toArray:=⟨_,e,rfl,n,rfl⟩
section
variable {A:Around} {s:Shared} {O:Addr->Prop} {G:Gh}
theorem Tz {e}:∀ {xs ys:List AV} {b},eqL e xs ys=some b->xs.length=ys.length
 | [],[],_,_=>rfl
 | [],_ :: _,_,h=>nqa h
 | _ :: _,[],_,h=>nqa h
 | x :: xs,y :: ys,b,h=>by
  refine Mg h ?_;clear h;intro c d h1 h2 h
  simp[Tz h2]
theorem Mk {e:AV->AV->Option Bool}(he:∀ u v x b,VRel s.heap O G u x->VRel s.heap O G v x->e u v=some b->b=true) :
  ∀ {xs ys:List AV} {vs:List Value} {b},VRels s.heap O G xs vs->VRels s.heap O G ys vs->eqL e xs ys=some b->b=true
 | [],[],_,_,_,_,h=>(Option.some.inj h).symm
 | [],_ :: _,_,_,_,_,h=>nqa h
 | _ :: _,[],_,_,_,_,h=>nqa h
 | x :: xs,y :: ys,_,b,r1,r2,h=>by
  simp only [vSc]at r1 r2
  obtain⟨v,r,rfl,a1,a2⟩:=r1
  obtain⟨v',r',e',b1,b2⟩:=r2
  cases e'
  refine Mg h ?_;clear h;intro c d h1 h2 h
  obtain rfl:=Option.some.inj h
  rw[he _ _ _ _ a1 b1 h1,Mk he a2 b2 h2];rfl
theorem Ym {i i':List Value}{n n':Nat}(h:some (Bt i n)=some (Bt i' n')):i=i':=by
 have h:=Option.some.inj h;unfold Bt at h;injection h with _ _ h _;injection h with h _;simpa using h
theorem Wy {i i':List Value}{n n':Nat}(h:some (Kz i n)=some (Kz i' n')):i=i':=by
 have h:=Option.some.inj h;unfold Kz at h;injection h with _ _ h _;injection h with h _;simpa using h
theorem Ze (n:Nat):∀ (u v:AV) (x:Value) (b:Bool),VRel s.heap O G u x->VRel s.heap O G v x->eqA n u v=some b->b=true:=by
 induction n using Nat.strongRecOn with
 | _ n ih =>
  intro u v x b hu hv h
  cases Ua h with
  | nn=>rfl
  | ni i=>obtain⟨t,e⟩:=hv;exact Value.noConfusion (e.symm.trans hu)
  | iN i=>obtain⟨t,e⟩:=hu;exact Value.noConfusion (e.symm.trans hv)
  | bb a b=>have e:Value.bool a = .bool b:=Eq.trans (Eq.symm hu) hv;injection e with e;exact beq_iff_eq.mpr e
  | ii a b=>obtain⟨t,e1⟩:=hu;obtain⟨t',e2⟩:=hv;have e:=e1.symm.trans e2;injection e with e;exact beq_iff_eq.mpr e
  | ss a b=>obtain⟨t,e1⟩:=hu;obtain⟨t',e2⟩:=hv;have e:=e1.symm.trans e2;injection e with e;exact beq_iff_eq.mpr e
  | tt h =>
   refine Ac fun PP ret=>?_
   obtain⟨a,n1,items,e1,hg,_,_,hr⟩:=hu
   obtain⟨a',n2,items',e2,hg',_,_,hr'⟩:=hv
   refine ret ?_
   have e:=e1.symm.trans e2;injection e with e
   exact Mk (ih _ (Nat.lt_succ_self _)) hr ((Wy (hg.symm.trans (e ▸ hg'))) ▸ hr') h
  | ll h =>
   refine Ac fun PP ret=>?_
   obtain⟨a,n1,items,e1,hg,_,_,hr⟩:=hu
   obtain⟨a',n2,items',e2,hg',_,_,hr'⟩:=hv
   refine ret ?_
   have e:=e1.symm.trans e2;injection e with e
   have hi:=Ym (hg.symm.trans (e ▸ hg'))
   rw[if_neg (by rw[<- hr.length,<- hr'.length,hi];exact fun q=>q rfl)]at h
   exact Mk (ih _ (Nat.lt_succ_self _)) hr (hi ▸ hr') h
theorem Jw {e:AV->AV->Option Bool}(he:∀ u v x y b,VRel s.heap O G u x->VRel s.heap O G v y->e u v=some b->EqAt A s x y b) :
  ∀ {xs ys:List AV} {vs ws:List Value} {b},VRels s.heap O G xs vs->VRels s.heap O G ys ws->eqL e xs ys=some b ->
   ∃ q:Nat->Bool,(∀ j (h1:j < vs.length) (h2:j < ws.length),EqAt A s vs[j] ws[j] (q j))/\(List.range vs.length).all q=b
 | [],[],_,_,_,r1,r2,h=>by
  simp only [vSn]at r1 r2;clear he;subst r1 r2
  exact⟨fun z0=>true,fun j h1=>absurd h1 (by simp),Option.some.inj h⟩
 | [],_ :: _,_,_,_,_,_,h=>nqa h
 | _ :: _,[],_,_,_,_,_,h=>nqa h
 | x :: xs,y :: ys,_,_,b,r1,r2,h=>by
  simp only [vSc]at r1 r2
  obtain⟨v,r,rfl,a1,a2⟩:=r1
  obtain⟨v',r',rfl,b1,b2⟩:=r2
  refine Mg h ?_;clear h;intro c d h1 h2 h
  obtain rfl:=Option.some.inj h
  obtain⟨q,hq,hb⟩:=Jw he a2 b2 h2
  refine⟨fun j=>match j with | 0=>c | j + 1=>q j,fun j k1 k2=>?_,?_⟩
  ·cases j with
   | zero=>exact he _ _ _ _ _ a1 b1 h1
   | succ j=>exact hq j (by simpa using k1) (by simpa using k2)
  ·rw[List.length_cons,List.range_succ_eq_map,List.all_cons,List.all_map,<- hb];rfl
theorem Pw {n:Nat}{xs ys:List AV}{vs ws:List Value}{a a':Addr}{n1 n2:Nat}{b:Bool}(hu:A.units < cLine)
  (he:∀ u v x y b,VRel s.heap O G u x->VRel s.heap O G v y->eqA n u v=some b->EqAt A.in1 s x y b)
  (h1:s.heap.get? a=some (Bt vs n1)) (h2:s.heap.get? a' = some (Bt ws n2)) (r1:VRels s.heap O G xs vs) (r2:VRels s.heap O G ys ws)
  (h:(if xs.length ≠ ys.length then some false else eqL (eqA n) xs ys)=some b):RcAt A s (.ref a) (.ref a') b/\RcNeAt A s (.ref a) (.ref a') (!b):=by
 by_cases hl:xs.length=ys.length
 ·rw[if_neg (by simpa using hl)]at h
  obtain⟨q,hq,rfl⟩:=Jw he r1 r2 h
  have hz:vs.toArray.size=ws.toArray.size:=by simp[r1.length,r2.length,hl]
  have q1:=RcAt.lists (e:=q) (Aj h1) (Aj h2) hz hu (fun j k1 k2=>by simpa using hq j (by simpa using k1) (by simpa using k2))
  have q2:=RcNeAt.lists (e:=q) (Aj h1) (Aj h2) hz hu (fun j k1 k2=>by simpa using hq j (by simpa using k1) (by simpa using k2))
  simp only [List.size_toArray]at q1 q2
  exact⟨q1,q2⟩
 ·rw[if_pos (by simpa using hl)]at h
  clear he;obtain rfl:=Option.some.inj h
  have hz:(vs.toArray.size != ws.toArray.size)=true:=by simp[r1.length,r2.length,hl]
  exact⟨RcAt.lists_lengths (Aj h1) (Aj h2) hz hu,RcNeAt.lists_lengths (Aj h1) (Aj h2) hz hu⟩
theorem Vc {n:Nat}{xs ys:List AV}{vs ws:List Value}{a a':Addr}{n1 n2:Nat}{b:Bool}(hu:A.units < cLine)
  (he:∀ u v x y b,VRel s.heap O G u x->VRel s.heap O G v y->eqA n u v=some b->EqAt A.in1 s x y b)
  (h1:s.heap.get? a=some (Kz vs n1)) (h2:s.heap.get? a' = some (Kz ws n2)) (r1:VRels s.heap O G xs vs) (r2:VRels s.heap O G ys ws)
  (h:eqL (eqA n) xs ys=some b):RcAt A s (.ref a) (.ref a') b/\RcNeAt A s (.ref a) (.ref a') (!b):=by
 obtain⟨q,hq,rfl⟩:=Jw he r1 r2 h
 have hz:vs.length=ws.length:=by simp[r1.length,r2.length,Tz h]
 have q1:=RcAt.tuples (e:=q) (Bu h1) (Bu h2) hu (fun j k1 k2=>by simpa using hq j (by simpa using k1) (by simpa using k2))
 have q2:=RcNeAt.tuples (e:=q) (Bu h1) (Bu h2) hu (fun j k1 k2=>by simpa using hq j (by simpa using k1) (by simpa using k2))
 simp only [List.size_toArray,hz,Nat.min_self,beq_self_eq_true,Bool.and_true]at q1 q2
 rw[hz]
 exact⟨q1,q2⟩
noncomputable def E3 (A:Around) (s:Shared) (x y:Value) (b:Bool):Prop:=EqAt A s x y b/\RcAt A s x y b/\RcNeAt A s x y (!b)
theorem E3.refs {A:Around}{a a':Addr}{b:Bool}(q:RcAt A s (.ref a) (.ref a') b/\RcNeAt A s (.ref a) (.ref a') (!b))(hs:a=a'->b=true):E3 A s (.ref a) (.ref a') b:=by
 refine⟨?_,q⟩
 by_cases e:a=a'
 ·rw[hs e,e];exact EqAt.same _
 ·exact EqAt.of_refs e q.1
theorem eqA_at' (n:Nat):∀ {A:Around} (u v:AV) (x y:Value) (b:Bool),A.units + n + 1<=cLine->VRel s.heap O G u x->VRel s.heap O G v y->eqA n u v=some b->E3 A s x y b:=by
 induction n using Nat.strongRecOn with
 | _ n ih =>
  intro A u v x y b hA hu hv h
  have hsame:=fun e:x=y=>Ze n u v x b hu (e ▸ hv) h
  have hu':A.units < cLine:=by exact Ar.r54 hA
  have he:∀ m,m + 1=n->∀ u v x y b,VRel s.heap O G u x->VRel s.heap O G v y->eqA m u v=some b->EqAt A.in1 s x y b :=
   fun m hm u v x y b h1 h2 h3=>(ih m (by exact Ar.r12 hm) (A:=A.in1) u v x y b (by simp only [Around.in1_units];exact Ar.r53 hA hm) h1 h2 h3).1
  clear hA ih;cases Ua h with
  | nn=>cases hu;cases hv;exact⟨EqAt.same _,RcAt.none_none,RcNeAt.none_none⟩
  | ni i=>cases hu;obtain⟨t,rfl⟩:=hv;exact⟨EqAt.none_int _ _,RcAt.none_int _ _,RcNeAt.none_int _ _⟩
  | iN i=>cases hv;obtain⟨t,rfl⟩:=hu;exact⟨EqAt.int_none _ _,RcAt.int_none _ _,RcNeAt.int_none _ _⟩
  | bb a b=>cases hu;cases hv;exact⟨EqAt.bool_bool _ _,RcAt.bool_bool _ _,RcNeAt.bool_bool _ _⟩
  | ii a b=>obtain⟨t,rfl⟩:=hu;obtain⟨t',rfl⟩:=hv;exact⟨EqAt.int_int _ _ _ _,RcAt.int_int _ _ _ _,RcNeAt.int_int _ _ _ _⟩
  | ss a b=>obtain⟨t,rfl⟩:=hu;obtain⟨t',rfl⟩:=hv;exact⟨EqAt.str_str _ _ _ _,RcAt.str_str _ _ _ _,RcNeAt.str_str _ _ _ _⟩
  | tt h =>
   refine Ac fun PP ret=>?_
   obtain⟨a,n1,items,rfl,hg,_,_,hr⟩:=hu
   obtain⟨a',n2,items',rfl,hg',_,_,hr'⟩:=hv
   refine ret ?_
   exact .refs (Vc hu' (he _ rfl) hg hg' hr hr' h) fun e=>hsame (e ▸ rfl)
  | ll h =>
   refine Ac fun PP ret=>?_
   obtain⟨a,n1,items,rfl,hg,_,_,hr⟩:=hu
   obtain⟨a',n2,items',rfl,hg',_,_,hr'⟩:=hv
   refine ret ?_
   exact .refs (Pw hu' (he _ rfl) hg hg' hr hr' h) fun e=>hsame (e ▸ rfl)
theorem Jx (n:Nat){A:Around}(u v:AV)(x y:Value)(b:Bool)(hA:A.units + n + 1<=cLine)(hu:VRel s.heap O G u x)(hv:VRel s.heap O G v y)(h:eqA n u v=some b) :
  EqAt A s x y b/\RcAt A s x y b/\RcNeAt A s x y (!b):=eqA_at' n u v x y b hA hu hv h
theorem Ln {e l:AV->AV->Option Bool}(he:∀ u v x y b,VRel s.heap O G u x->VRel s.heap O G v y->e u v=some b->EqAt A s x y b)
  (hl:∀ u v x y b,VRel s.heap O G u x->VRel s.heap O G v y->l u v=some b->LtAt A s x y b) :
  ∀ {xs ys:List AV} {vs ws:List Value} {b},VRels s.heap O G xs vs->VRels s.heap O G ys ws->ltL e l xs ys=some b->Gk A s (decide (vs.length < ws.length)) (vs.zip ws) b
 | [],[],_,_,_,r1,r2,h=>by
  simp only [vSn]at r1 r2;subst r1 r2;obtain rfl:=Option.some.inj h;exact rfl
 | [],y :: ys,_,_,_,r1,r2,h=>by
  simp only [vSn,vSc]at r1 r2;obtain⟨v,r,rfl,_,_⟩:=r2;subst r1;obtain rfl:=Option.some.inj h;exact rfl
 | x :: xs,[],_,_,_,r1,r2,h=>by
  simp only [vSn,vSc]at r1 r2;obtain⟨v,r,rfl,_,_⟩:=r1;subst r2;obtain rfl:=Option.some.inj h;exact rfl
 | x :: xs,y :: ys,_,_,b,r1,r2,h=>by
  simp only [vSc]at r1 r2
  obtain⟨v,r,rfl,a1,a2⟩:=r1
  obtain⟨v',r',rfl,b1,b2⟩:=r2
  replace h:(match e x y with | some true=>ltL e l xs ys | some false=>l x y | none=>none)=some b:=h
  simp only [List.zip_cons_cons,Rd,Re,List.length_cons,Nat.succ_lt_succ_iff]
  generalize h1:e x y=w at h
  cases w with
  | none=>exact nqa h
  | some w=>cases w with
   | true=>refine⟨true,he _ _ _ _ _ a1 b1 h1,?_⟩;simp only [if_true];exact Ln he hl a2 b2 h
   | false=>refine⟨false,he _ _ _ _ _ a1 b1 h1,?_⟩;simp only [Bool.false_eq_true,if_false];exact hl _ _ _ _ _ a1 b1 h
theorem Kr {a b:Int}{t u:Tok}:LtAt A s (.int a t) (.int b u) (decide (a < b)):=fun prog w E Q h=>P.lt_int h
theorem Kq {a b:Str}{t u:Tok}:LtAt A s (.str a t) (.str b u) (decide (a.cps.toList < b.cps.toList)):=fun prog w E Q h=>PyProof.Rows.lt_str h
theorem Sd (n:Nat):∀ {A:Around} (u v:AV) (x y:Value) (b:Bool),A.units + n + 1<=cLine->VRel s.heap O G u x->VRel s.heap O G v y->ltA n u v=some b->LtAt A s x y b:=by
 induction n with
 | zero =>
  intro A u v x y b _ hu hv h
  cases Tl h with
  | ii a b=>obtain⟨t,rfl⟩:=hu;obtain⟨t',rfl⟩:=hv;exact Kr
  | ss a b=>obtain⟨t,rfl⟩:=hu;obtain⟨t',rfl⟩:=hv;exact Kq
 | succ n ih =>
  intro A u v x y b hA hu hv h
  have hu':A.units < cLine:=by exact Ar.r48 hA
  have he:∀ u v x y b,VRel s.heap O G u x->VRel s.heap O G v y->eqA n u v=some b->EqAt A.in1 s x y b :=
   fun u v x y b h1 h2 h3=>(Jx n (A:=A.in1) u v x y b (by simp only [Around.in1_units];exact Ar.r47 hA) h1 h2 h3).1
  have hl:∀ u v x y b,VRel s.heap O G u x->VRel s.heap O G v y->ltA n u v=some b->LtAt A.in1 s x y b :=
   fun u v x y b h1 h2 h3=>ih (A:=A.in1) u v x y b (by simp only [Around.in1_units];exact Ar.r47 hA) h1 h2 h3
  clear hA ih;cases Tl h with
  | ii a b=>obtain⟨t,rfl⟩:=hu;obtain⟨t',rfl⟩:=hv;exact Kr
  | ss a b=>obtain⟨t,rfl⟩:=hu;obtain⟨t',rfl⟩:=hv;exact Kq
  | tt h =>
   refine Ac fun PP ret=>?_
   obtain⟨a,n1,items,rfl,hg,_,_,hr⟩:=hu
   obtain⟨a',n2,items',rfl,hg',_,_,hr'⟩:=hv
   refine ret ?_
   exact LtAt.tuples (Bu hg) (Bu hg') hu' (by simpa using Ln he hl hr hr' h)
  | ll h =>
   refine Ac fun PP ret=>?_
   obtain⟨a,n1,items,rfl,hg,_,_,hr⟩:=hu
   obtain⟨a',n2,items',rfl,hg',_,_,hr'⟩:=hv
   refine ret ?_
   exact LtAt.lists (Aj hg) (Aj hg') hu' (by simpa using Ln he hl hr hr' h)
end
section
variable {C:Cx} {k:Nat} {H:AH} {G:Gh} {O:Addr->Prop} {h:Heap}
theorem bC {a:Addr}{lk:Bool}{vs:List AV}(h:H a=some (.f (.lst lk vs))):Bf H (.ref a)=some vs:=by
 refine(?_:(match H a with | some (.f (.lst _ vs))=>some vs | _=>none)=some vs)
 rw[h]
theorem Th {a:Addr}{i:Nat}{lk:Bool}{M:List (List AV)}(h:H a=some (.f (.mat lk M))):Bf H (.row a i)=M[i]?:=by
 refine(?_:(match H a with | some (.f (.mat _ M))=>M[i]? | _=>none)=M[i]?)
 rw[h]
theorem Ao (R:Rel C H G O h){v:AV}{x:Value}{vs:List AV}(hv:VRel h O G v x)(e:Bf H v=some vs) :
  ∃ a n items,x = .ref a/\h.get? a=some (Bt items n)/\VRels h O G vs items/\vs.length<=lim:=by
 cases v with
 | fl ws=>obtain rfl:=Option.some.inj e;simp only [vRf]at hv;obtain⟨a,n,items,rfl,hg,_,hz,hr⟩:=hv;exact⟨a,n,items,rfl,hg,hr,hz⟩
 | ref a =>
  refine bW e ?_;clear e;intro lk ws hH e
  obtain rfl:=Option.some.inj e
  refine Ac fun PP ret=>?_
  simp only [vRr]at hv;subst hv
  obtain⟨_,_,hz,n,items,hg,hr⟩:=R.obj a _ hH
  refine ret ?_
  exact⟨a,n,items,rfl,hg,hr,hz⟩
 | row a i =>
  refine gU e ?_;clear e;intro z1 M hH e
  refine Ac fun PP ret=>?_
  simp only [vRw]at hv
  obtain⟨b,hb,rfl⟩:=hv
  obtain⟨_,_,_,hr⟩:=R.obj a _ hH
  obtain⟨_,hz,n,items,hg,hr⟩:=hr i vs b e hb
  refine ret ?_
  exact⟨b,n,items,rfl,hg,hr,hz⟩
 | _=>exact nqa e
theorem AOk.units {A:Around}(hA:AOk k A):A.units + 100<=cLine:=by obtain⟨_,_,h⟩:=hA;unfold cLine;exact Ar.r66 h
theorem Zd {A:Around}{s:Shared}(hA:AOk k A)(R:Rel C H G O s.heap){u v:AV}{x y:Value}{b:Bool}(hu:VRel s.heap O G u x)(hv:VRel s.heap O G v y)(e:eqV H u v=some b) :
  RcAt A s x y b/\RcNeAt A s x y (!b):=by
 have hU:=hA.units
 unfold eqV at e
 generalize h1:Bf H u=w at e
 cases w with
 | none=>exact(Jx 7 u v x y b (by exact Ar.r62 hU) hu hv e).2
 | some xs =>
  generalize h2:Bf H v=w at e
  cases w with
  | none=>exact(Jx 7 u v x y b (by exact Ar.r62 hU) hu hv e).2
  | some ys =>
   refine Ac fun PP ret=>?_
   clear hA;obtain⟨a,n,items,rfl,hg,hr,_⟩:=Ao R hu h1
   obtain⟨a',n',items',rfl,hg',hr',_⟩:=Ao R hv h2
   refine ret ?_
   exact Pw (by exact Ar.r63 hU) (fun u v x y b q1 q2 q3=>(Jx 6 (A:=A.in1) u v x y b (by simp only [Around.in1_units];exact Ar.r61 hU) q1 q2 q3).1) hg hg' hr hr' e
theorem eL {A:Around}{s:Shared}(hA:AOk k A)(R:Rel C H G O s.heap){u v:AV}{x y:Value}{b:Bool}(hu:VRel s.heap O G u x)(hv:VRel s.heap O G v y)(e:ltV H u v=some b) :
  LtAt A s x y b:=by
 have hU:=hA.units
 unfold ltV at e
 generalize h1:Bf H u=w at e
 cases w with
 | none=>exact Sd 7 u v x y b (by exact Ar.r62 hU) hu hv e
 | some xs =>
  generalize h2:Bf H v=w at e
  cases w with
  | none=>exact Sd 7 u v x y b (by exact Ar.r62 hU) hu hv e
  | some ys =>
   refine Ac fun PP ret=>?_
   obtain⟨a,n,items,rfl,hg,hr,_⟩:=Ao R hu h1
   obtain⟨a',n',items',rfl,hg',hr',_⟩:=Ao R hv h2
   have hx:=Ln (A:=A.in1) (fun u v x y b q1 q2 q3=>(Jx 6 (A:=A.in1) u v x y b (by simp only [Around.in1_units];exact Ar.r61 hU) q1 q2 q3).1) (fun u v x y b q1 q2 q3=>Sd 6 (A:=A.in1) u v x y b (by simp only [Around.in1_units];exact Ar.r61 hU) q1 q2 q3) hr hr' e
   refine ret ?_
   exact LtAt.lists (Aj hg) (Aj hg') (by exact Ar.r63 hU) (by simpa using hx)
theorem CmpR.eq:CmpR C k .Eq eqV:=by
 intro A s H G O u v r x y hA R hu hv e
 obtain⟨b,hb,rfl⟩:=Option.map_eq_some_iff.mp e
 exact(Zd hA R hu hv hb).1 _ _ _ _ ⟨by simp[vRb],.refl' s⟩
theorem CmpR.ne:CmpR C k .NotEq (fun H u v=>(eqV H u v).map (!·)):=by
 intro A s H G O u v r x y hA R hu hv e
 obtain⟨b,hb,rfl⟩:=Option.map_eq_some_iff.mp e
 clear e;obtain⟨c,hc,rfl⟩:=Option.map_eq_some_iff.mp hb
 exact(Zd hA R hu hv hc).2 _ _ _ _ ⟨by simp[vRb],.refl' s⟩
theorem CmpR.lt:CmpR C k .Lt ltV:=by
 intro A s H G O u v r x y hA R hu hv e
 obtain⟨b,hb,rfl⟩:=Option.map_eq_some_iff.mp e
 exact(eL hA R hu hv hb) _ _ _ _ ⟨by simp[vRb],.refl' s⟩
end
end Mine
end
section
open SeqAt
namespace Mine
section
variable {C:Cx} {k:Nat} {sc:Sc} {f f':PF}
noncomputable def iop (g:Int->Int->Option Int):AH->AV->AV->Option AV:=fun z0 u v=>match u,v with
 | .int a,.int b=>(g a b).map .int
 | _,_=>none
theorem Yr {g:Int->Int->Option Int}{H:AH}{u v r:AV}(h:iop g H u v=some r):∃ a b c,u = .int a/\v = .int b/\g a b=some c/\r = .int c:=by
 unfold iop at h
 refine Ts h ?_;clear h;intro z1 z2 q1 q2 h;subst q1;subst q2
 obtain⟨c,hc,rfl⟩:=Option.map_eq_some_iff.mp h;exact⟨_,_,c,rfl,rfl,hc,rfl⟩
theorem BinR.ofInt {t:Value->Value->Sem Value}{g:Int->Int->Option Int}
  (h:∀ (A:Around) (s:Shared) (a b c:Int) (p q:Tok) (Q:Value->Shared->Prop),g a b=some c->(∀ tk n,Q (.int c tk) { s with toks:=n })->wpAny (model C.prog C.w) A (t (.int a p) (.int b q)) Q (fun z0 z0=>False) s):BinR C k t (iop g):=by
 intro A s H G O u v r x y hA R hu hv e
 obtain⟨a,b,c,rfl,rfl,hc,rfl⟩:=Yr e
 simp only [vRi]at hu hv
 obtain⟨p,rfl⟩:=hu
 obtain⟨q,rfl⟩:=hv
 exact h A s a b c p q _ hc fun tk n=>⟨by simp[vRi],.tok⟩
noncomputable def Fy (a b:Int):Option Int:=some (a + b)
noncomputable def subI (a b:Int):Option Int:=some (a - b)
noncomputable def Le (a b:Int):Option Int:=if a.natAbs < 2 ^ 64\/b.natAbs < 2 ^ 64 then some (a * b) else none
noncomputable def Hm (a b:Int):Option Int:=if 0 < b/\b < 1073741824 then some (a / b) else none
noncomputable def Yg (a b:Int):Option Int:=if 0 < b then some (a % b) else if b < 0 then some (a.fmod b) else none
noncomputable def aY (a b:Int):Option Int:=if b=1 then some (a / 2) else none
theorem Mf {a:Int}(h:a.natAbs < 2 ^ 64):Builtin.Int.intBits a<=64:=by
 unfold Builtin.Int.intBits
 set_option tactic.hygienic true in split
 ·exact Nat.zero_le _
 ·rename_i h0
  have:a.natAbs ≠ 0:=by intro e;apply h0;simpa using e
  have:=(Nat.log2_lt this).mpr h
  exact Ar.r172 this
theorem gN {a b:Int}(h:a.natAbs < 2 ^ 64\/b.natAbs < 2 ^ 64):IntMulOk a b:=by
 rcases h with h | h
 ·exact .of_left (Mf h)
 ·exact .of_right (Mf h)
theorem BinR.add:BinR C k (binaryOp .Add) (iop Fy):=.ofInt fun A s a b c p q Q h hQ=>by obtain rfl:=Option.some.inj h;exact P.add_int (hQ _ _)
theorem BinR.iadd:BinR C k (inplaceOp .Add) (iop Fy):=.ofInt fun A s a b c p q Q h hQ=>by obtain rfl:=Option.some.inj h;exact P.iadd_int (hQ _ _)
theorem BinR.sub:BinR C k (binaryOp .Sub) (iop subI):=.ofInt fun A s a b c p q Q h hQ=>by obtain rfl:=Option.some.inj h;exact P.sub_int (hQ _ _)
theorem BinR.isub:BinR C k (inplaceOp .Sub) (iop subI):=.ofInt fun A s a b c p q Q h hQ=>by obtain rfl:=Option.some.inj h;exact P.isub_int (hQ _ _)
theorem BinR.mul:BinR C k (binaryOp .Mult) (iop Le):=.ofInt fun A s a b c p q Q h hQ=>by
 unfold Le at h;refine Bo h ?_;clear h;intro h' h
 obtain rfl:=Option.some.inj h;exact P.mul_int (hQ _ _) (gN h')
theorem BinR.fdiv:BinR C k (binaryOp .FloorDiv) (iop Hm):=.ofInt fun A s a b c p q Q h hQ=>by
 unfold Hm at h;refine Bo h ?_;clear h;intro h' h
 obtain rfl:=Option.some.inj h
 have e:a / b=a.fdiv b:=by rw[Int.fdiv_eq_ediv_of_nonneg _ (by exact Ar.r223 h')]
 refine PyProof.Rows.floordiv_int (by exact Ar.r224 h') ?_ (.inl (PyProof.noPylong_small (by omega)))
 rw[<- e];exact hQ _ _
theorem BinR.mod:BinR C k (binaryOp .Mod) (iop Yg):=.ofInt fun A s a b c p q Q h hQ=>by
 unfold Yg at h;set_option tactic.hygienic true in split at h
 ·rename_i h';obtain rfl:=Option.some.inj h
  have e:a % b=a.fmod b:=by rw [Int.fmod_eq_emod_of_nonneg _ (by exact Ar.r225 h')]
  refine PyProof.Rows.mod_int' (by exact Ar.r226 h') ?_
  rw[<- e];exact hQ _ _
 ·refine Bo h ?_;clear h;intro q1 h
  obtain rfl:=Option.some.inj h;exact PyProof.Rows.mod_int' (by exact Ar.r231 (by assumption)) (hQ _ _)
theorem BinR.shr:BinR C k (binaryOp .RShift) (iop aY):=.ofInt fun A s a b c p q Q h hQ=>by
 unfold aY at h;refine Bo h ?_;clear h;intro h' h
 obtain rfl:=Option.some.inj h;subst h'
 refine PyProof.Rows.rshift_int (by lia) ?_
 have e:a / 2=a.fdiv (2 ^ (1:Int).toNat):=by rw[Int.fdiv_eq_ediv_of_nonneg _ (by decide)];rfl
 rw[<- e];exact hQ _ _
noncomputable def Vr (g:Int->Int->Bool):AH->AV->AV->Option Bool:=fun z0 u v=>match u,v with
 | .int a,.int b=>some (g a b)
 | _,_=>none
theorem CmpR.ofInt {op:CmpOp}{g:Int->Int->Bool}
  (h:∀ (A:Around) (s:Shared) (a b:Int) (p q:Tok) (Q:Value->Shared->Prop),Q (.bool (g a b)) s->wpAny (model C.prog C.w) A (compareOp op (.int a p) (.int b q)) Q (fun z0 z0=>False) s):CmpR C k op (Vr g):=by
 intro A s H G O u v r x y hA R hu hv e
 obtain⟨b,hb,rfl⟩:=Option.map_eq_some_iff.mp e
 unfold Vr at hb
 refine Ts hb ?_;clear hb;intro z1 z2 q1 q2 hb;subst q1;subst q2
 obtain rfl:=Option.some.inj hb
 simp only [vRi]at hu hv
 obtain⟨p,rfl⟩:=hu
 obtain⟨q,rfl⟩:=hv
 exact h A s _ _ p q _ ⟨by simp[vRb],.refl' s⟩
theorem CmpR.gtI:CmpR C k .Gt (Vr fun a b=>decide (b < a)):=.ofInt fun A s a b p q Q h=>P.gt_int h
noncomputable def isN:AV->Option Bool
 | .none=>some true
 | .undef=>none
 | .row _ _=>none
 | _=>some false
theorem Yq {h O G v x b}(hv:VRel h O G v x)(e:isN v=some b):(x == .none)=b:=by
 set_option tactic.hygienic true in cases v <;> first | exact nqa e | skip
 all_goals (simp only [vRn,vRb,vRi,vRs,vRr,vRk,vRt,vRp,vRf]at hv;obtain rfl:=Option.some.inj e)
 ·subst hv;rfl
 ·subst hv;rfl
 ·obtain⟨t,rfl⟩:=hv;rfl
 ·obtain⟨t,rfl⟩:=hv;rfl
 ·obtain⟨a,n,i,rfl,_⟩:=hv;rfl
 ·obtain⟨a,n,i,rfl,_⟩:=hv;rfl
 ·subst hv;rfl
 ·subst hv;rfl
 ·subst hv;rfl
theorem CmpR.is:CmpR C k .Is (fun z0 u v=>match v with | .none=>isN u | _=>.none):=by
 intro A s H G O u v r x y hA R hu hv e
 obtain⟨b,hb,rfl⟩:=Option.map_eq_some_iff.mp e
 set_option tactic.hygienic true in cases v <;> simp only at hb <;> first | (exact nqa hb;done) | skip
 simp only [vRn]at hv;subst hv
 refine is_none ?_
 rw[Yq hu hb]
 exact⟨by simp[vRb],.refl' s⟩
theorem CmpR.isNot:CmpR C k .IsNot (fun z0 u v=>match v with | .none=>(isN u).map (!·) | _=>.none):=by
 intro A s H G O u v r x y hA R hu hv e
 obtain⟨b,hb,rfl⟩:=Option.map_eq_some_iff.mp e
 set_option tactic.hygienic true in cases v <;> simp only at hb <;> first | (exact nqa hb;done) | skip
 obtain⟨c,hc,rfl⟩:=Option.map_eq_some_iff.mp hb
 simp only [vRn]at hv;subst hv
 refine isNot_none ?_
 rw[Yq hu hc]
 exact⟨by simp[vRb],.refl' s⟩
theorem PureE.neg {x:Expr}{pos:Pos}(h:PureE C k sc x f):PureE C k sc (.UnaryOp .USub x pos) (fun ρ H=>match f ρ H with | some (.int a)=>some (.int (-a)) | _=>Option.none):=by
 intro A env s ρ H G O v hA F R hv
 dsimp only at hv
 refine gS hv ?_;clear hv;intro a ha hv
 obtain rfl:=Option.some.inj hv
 refine wpAny_UnaryOp (wpAny_mono (h A env s ρ H G O _ hA F R ha) (fun x s1 h1=>?_) fun z0 z0 x=>x)
 obtain⟨r,k1⟩:=h1
 simp only [vRi]at r
 obtain⟨t,rfl⟩:=r
 exact P.neg_int ⟨by simp[vRi],k1.trans' .tok⟩
theorem Ii {A:Around}{s:Shared}{H:AH}{G:Gh}{O:Addr->Prop}{v:AV}{x:Value}{b:Bool}{Q:Bool->Shared->Prop}(hA:AOk k A)(R:Rel C H G O s.heap)(hv:VRel s.heap O G v x)(e:Nn H v=some b)
  (hQ:∀ tk,Q b { s with toks:=tk }):wpAny (model C.prog C.w) A (truthy x) Q (fun z0 z0=>False) s:=by
 have lst:∀ (vs:List AV) (a:Addr) (n:Nat) (items:List Value),s.heap.get? a=some (Bt items n)->VRels s.heap O G vs items->vs.length<=lim->b=(!vs.isEmpty)->wpAny (model C.prog C.w) A (truthy (.ref a)) Q (fun z0 z0=>False) s:=by
  intro vs a n items hg hr hz hb
  have hl:=hr.length
  refine wpAny_truthy_list (Aj hg) (by rw[List.size_toArray,hl];rw[Au]at hz;lia) ?_
  have h3:(!items.toArray.isEmpty)=b:=by
   rw[hb]
   clear R e hA hQ hb hg hr hv hz;cases vs with
   | nil=>have:items=[]:=List.eq_nil_of_length_eq_zero (by simpa using hl);subst this;rfl
   | cons v vs=>cases items with
    | nil=>simp at hl
    | cons _ _=>rfl
  rw[h3];exact hQ _
 set_option tactic.hygienic true in cases v <;> first | exact nqa e | skip
 ·simp only [vRn]at hv;subst hv;obtain rfl:=Option.some.inj e;exact wpAny_pure (hQ s.toks)
 ·simp only [vRb]at hv;subst hv;obtain rfl:=Option.some.inj e;exact wpAny_truthy_bool (hQ s.toks)
 ·simp only [vRi]at hv;obtain⟨t,rfl⟩:=hv;obtain rfl:=Option.some.inj e;exact P.truthy_int (hQ s.toks)
 ·simp only [vRf]at hv;obtain⟨a,n,items,rfl,hg,_,hz,hr⟩:=hv;obtain rfl:=Option.some.inj e;exact lst _ a n items hg hr hz rfl
 ·rename_i a
  refine bW e ?_;clear e;intro lk vs hH e
  clear hA hQ;obtain rfl:=Option.some.inj e
  simp only [vRr]at hv;subst hv
  obtain⟨_,_,hz,n,items,hg,hr⟩:=R.obj a _ hH
  exact lst vs a n items hg hr hz rfl
end
end Mine
end
section
open SeqAt
namespace Mine
theorem Eg {k:Int}{n j:Nat}(h:seqIndex? k n=some j):-(n:Int)<=k/\k < n/\j < n:=by
 unfold seqIndex? at h
 by_cases hk:k < 0
 ·simp only [hk,if_true]at h
  by_cases h1:(decide (0<=k + (n:Int)) && decide (k + (n:Int) < n))=true
  ·rw[if_pos h1]at h
   simp only [Bool.and_eq_true,decide_eq_true_eq]at h1
   have:=Option.some.inj h
   omega
  ·rw[if_neg h1]at h;exact nqa h
 ·simp only [hk,if_false]at h
  by_cases h1:(decide (0<=k) && decide (k < (n:Int)))=true
  ·rw[if_pos h1]at h
   simp only [Bool.and_eq_true,decide_eq_true_eq]at h1
   have:=Option.some.inj h
   omega
  ·rw[if_neg h1]at h;exact nqa h
theorem Lb {k:Int}{n j:Nat}(h:seqIndex? k n=some j)(h0:0<=k):j=k.toNat:=by
 unfold seqIndex? at h
 have hk:¬ k < 0:=by exact Ar.r229 h0
 simp only [hk,if_false]at h
 by_cases h1:(decide (0<=k) && decide (k < (n:Int)))=true
 ·rw[if_pos h1]at h;exact(Option.some.inj h).symm
 ·rw[if_neg h1]at h;exact nqa h
noncomputable def Js (vs:List AV) (k:Int):Option AV:=(seqIndex? k vs.length).bind (vs[·]?)
noncomputable def idx (H:AH) (v i:AV):Option AV:=match i with
 | .int k=>match v with
  | .tup vs=>Js vs k
  | .fl vs=>Js vs k
  | .row a j=>(Bf H (.row a j)).bind fun vs=>Js vs k
  | .ref a=>match H a with
   | some (.f (.lst _ vs))=>Js vs k
   | some (.f (.mat _ M))=>(seqIndex? k M.length).map (AV.row a)
   | some (.f (.dic _ es))=>es.lookup k
   | _=>none
  | _=>none
 | _=>none
theorem Yt {H:AH}{a:Addr}{k:Int}:idx H (.ref a) (.int k)=match H a with | some (.f (.lst _ vs))=>Js vs k | some (.f (.mat _ M))=>(seqIndex? k M.length).map (AV.row a) | some (.f (.dic _ es))=>es.lookup k | _=>none:=rfl
section
variable {C:Cx} {k:Nat} {sc:Sc} {f f':PF}
theorem Ja {A:Around}{s:Shared}{a:Addr}{n:Nat}{items:List Value}{i:Int}{t:Tok}{j:Nat}{x:Value}{Q:Value->Shared->Prop}{E:Value->Shared->Prop}(hg:s.heap.get? a=some (Bt items n))
  (hz:items.length<=lim) (hi:seqIndex? i items.length=some j) (hx:items[j]? = some x) (h:Q x s):wpAny (model C.prog C.w) A (getItem (.ref a) (.int i t)) Q E s:=by
 obtain⟨h1,h2,h3⟩:=Eg hi
 have hz':=hz
 rw[Au]at hz'
 by_cases h0:0<=i
 ·have e:j=i.toNat:=Lb hi h0
  exact wpAny_getItem_list (Aj hg) h0 (by lia) (by simpa [<- e]using hx) h
 ·have e:=seqIndex_neg (k:=i) (n:=items.length) (by exact Ar.r233 h0) h1
  rw[hi]at e
  have e:=Option.some.inj e
  exact wpAny_getItem_list_neg (Aj hg) (by exact Ar.r233 h0) (by simpa using h1) (by lia) (by simpa [<- e]using hx) h
theorem Tr {h:Heap}{O G}{vs:List AV}{items:List Value}{i:Int}{v:AV}(hr:VRels h O G vs items)(e:Js vs i=some v):∃ j x,seqIndex? i items.length=some j/\items[j]? = some x/\VRel h O G v x:=by
 unfold Js at e
 refine Ac fun PP ret=>?_
 obtain⟨j,hj,hv⟩:=Option.bind_eq_some_iff.mp e
 obtain⟨x,hx,hr'⟩:=hr.get hv
 refine ret ?_
 exact⟨j,x,by rw[hr.length];exact hj,hx,hr'⟩
theorem Hw {es:List (Int × AV)}{xs:List Value}{h O G}(hr:VRels h O G (es.map (·.2)) xs){k:Int}{v:AV}(e:es.lookup k=some v) :
  ∃ x,valueAt ((es.map (·.1)).zip xs) k=some x/\VRel h O G v x:=by
 induction es generalizing xs with
 | nil=>simp at e
 | cons p r ih =>
  obtain⟨k',v'⟩:=p
  simp only [List.map_cons,vSc]at hr
  obtain⟨x,q,rfl,h1,h2⟩:=hr
  rw[List.lookup_cons]at e
  simp only [List.map_cons,List.zip_cons_cons,valueAt,List.find?_cons]
  by_cases hk:k=k'
  ·subst hk;simp at e;subst e;exact⟨x,by simp,h1⟩
  ·have:(k == k')=false:=by simpa using hk
   rw[this]at e
   obtain⟨y,hy,hr⟩:=ih h2 e
   refine⟨y,?_,hr⟩
   rw[decide_eq_false (by exact fun h=>hk h.symm)]
   exact hy
theorem Ia {A:Around}{s:Shared}{H:AH}{G:Gh}{O:Addr->Prop}{v i r:AV}{x y:Value}{Q:Value->Shared->Prop}(R:Rel C H G O s.heap)(hv:VRel s.heap O G v x)(hi:VRel s.heap O G i y)(e:idx H v i=some r)
  (hQ:∀ z tk,VRel s.heap O G r z->Q z { s with toks:=tk }):(∃ T id,s.TypeIs x T/\typeLookup (.type T) "__getitem__" = pure (some (.builtin id)))/\wpAny (model C.prog C.w) A (getItem x y) Q (fun z0 z0=>False) s:=by
 set_option tactic.hygienic true in cases i <;> first | exact nqa e | skip
 rename_i i
 simp only [vRi]at hi
 obtain⟨t,rfl⟩:=hi
 have lst:∀ (vs:List AV) (a:Addr) (n:Nat) (items:List Value),s.heap.get? a=some (Bt items n)->VRels s.heap O G vs items->vs.length<=lim->Js vs i=some r->x = .ref a ->
   (∃ T id,s.TypeIs x T/\typeLookup (.type T) "__getitem__" = pure (some (.builtin id)))/\wpAny (model C.prog C.w) A (getItem x (.int i t)) Q (fun z0 z0=>False) s:=by
  intro vs a n items hg hr hz he hx
  clear R e hv;subst hx
  obtain⟨j,z,h1,h2,h3⟩:=Tr hr he
  exact⟨⟨"list",_,⟨_,hg,rfl⟩,slot_list_getitem.lookup⟩,Ja hg (by rw[hr.length];exact hz) h1 h2 (hQ z s.toks h3)⟩
 set_option tactic.hygienic true in cases v <;> first | exact nqa e | skip
 ·rename_i vs
  refine Ac fun PP ret=>?_
  simp only [vRp]at hv
  clear R lst;obtain⟨a,n,items,rfl,hg,_,hz,hr⟩:=hv
  obtain⟨j,z,h1,h2,h3⟩:=Tr hr e
  have hb:=Eg h1
  have hl:=hr.length
  rw[Au]at hz
  refine ret ?_
  exact⟨⟨"tuple",_,⟨_,hg,rfl⟩,F.slot_tuple_getitem.lookup⟩,getItem_tuple (Sj hg) (by lia) (by lia) (by simpa using h1) (by simpa using h2) (hQ z s.toks h3)⟩
 ·rename_i vs
  refine Ac fun PP ret=>?_
  simp only [vRf]at hv
  clear R hQ;obtain⟨a,n,items,rfl,hg,_,hz,hr⟩:=hv
  refine ret ?_
  exact lst vs a n items hg hr hz e rfl
 ·rename_i a
  simp only [vRr]at hv
  subst hv
  replace e:(match H a with | some (.f (.lst _ vs))=>Js vs i | some (.f (.mat _ M))=>(seqIndex? i M.length).map (AV.row a) | some (.f (.dic _ es))=>es.lookup i | _=>none)=some r:=e
  generalize hH:H a=o at e
  cases o with
  | none=>exact nqa e
  | some o=>cases o with
   | srt=>exact nqa e
   | f o=>cases o with
    | lst lk vs =>
     obtain⟨_,_,hz,n,items,hg,hr⟩:=R.obj a _ hH
     exact lst vs a n items hg hr hz e rfl
    | mat lk M =>
     refine Ac fun PP ret=>?_
     clear lst;obtain⟨j,hj,rfl⟩:=Option.map_eq_some_iff.mp e
     obtain⟨⟨n,hg⟩,hl,hz,_⟩:=R.obj a _ hH
     have hb:=Eg hj
     have hjl:j < (G a).length:=by lia
     refine ret ?_
     refine⟨⟨"list",_,⟨_,hg,rfl⟩,slot_list_getitem.lookup⟩,Ja (j:=j) (x:=.ref ((G a)[j])) hg (by simp;exact Ar.r32 hl hz) (by simpa [hl]using hj) (by simp[hjl]) (hQ _ s.toks ?_)⟩
     simp only [vRw]
     exact⟨_,by simp[hjl],rfl⟩
    | dic lk es =>
     refine Ac fun PP ret=>?_
     obtain⟨_,_,_,xs,hd,hr⟩:=R.obj a _ hH
     obtain⟨z,hz,hr'⟩:=Hw hr e
     refine ret ?_
     exact⟨⟨"dict",_,hd.typeIs,slot_dict_getitem.lookup⟩,wpAny_getItem_of (intKind_is _ _ i t) hd.mapOf hz (hQ z _ hr')⟩
    | _=>exact nqa e
 ·rename_i a j
  refine Ac fun PP ret=>?_
  obtain⟨vs,h1,h2⟩:=Option.bind_eq_some_iff.mp e
  clear e hQ;obtain⟨b,n,items,rfl,hg,hr,hz⟩:=Ao R hv h1
  refine ret ?_
  exact lst vs b n items hg hr hz h2 rfl
theorem PureE.sub {v i:Expr}{pos:Pos}(hv:PureE C k sc v f)(hi:PureE C k sc i f')(hs:∀ o x,subscripted i false o x=operate [o,x] (getItem o x):=by intro _ _;rfl):PureE C k sc (.Subscript v i pos) (opP idx f f'):=by
 intro A env s ρ H G O r hA F R hr
 refine Ac fun PP ret=>?_
 obtain⟨u,w,hu,hw,he⟩:=It hr
 refine ret ?_
 refine Subscript_ (PureE.two hv hi hA F R hu hw fun x y s' rx ry ks=>?_)
 refine Ac fun PP ret=>?_
 obtain⟨⟨T,id,hT,hl⟩,hg⟩:=Ia (A:=A) (Q:=fun z s''=>VRel s''.heap O G r z/\Kp s s'') (R.keep ks.k) rx ry he (fun z tk hz=>⟨hz,ks.trans' .tok⟩)
 refine ret ?_
 exact tail_any hT hl hg (hs x y)
noncomputable def inV (H:AH) (u v:AV):Option Bool:=match Bf H v with
 | some vs=>(vs.mapM fun x=>eqA 6 x u).map fun l=>l.any id
 | none=>match v,u with
  | .ref a,.int k=>match H a with
   | some (.f (.dic _ es))=>some (es.lookup k).isSome
   | some (.f (.iset ks))=>some (decide (k ∈ ks))
   | _=>none
  | _,_=>none
theorem Mn (l:Addr)(items:Array Value)(n:Nat)(dd:Option Addr)(sl:Array (Option Value))(x:Value)(k:Nat) :
  ∀ (i:Nat) (bs:List Bool),items.size - i=k->bs.length=k->Meets (Builtin.«list.__contains__.loop» ⟨[.ref l,x,rawInt i],[]⟩)
   (fun A R s=>s.heap.get? l=some { cls:=.type "list",dict:=dd,data:=.seq items n,slots:=sl }/\(∀ j b (h:i + j < items.size),bs[j]? = some b->EqAt A.in1 s items[i + j] x b)/\R (.ok (.ret (.bool (bs.any id)))) s):=by
 induction k with
 | zero =>
  intro i bs hk hbs prog w A R s h
  obtain⟨hp,g,d,tk,os⟩:=s;obtain⟨hl,he,h⟩:=h
  wp_walk using AutoSeq1.wpAny_loadPart' hl
  have hi:items[((i:Nat):Int).toNat]? = none:=by simp;exact Ar.r18 hk
  have:bs=[]:=List.eq_nil_of_length_eq_zero hbs
  clear hbs he hk hl;subst this
  rw[hi]
  wp_walk
  exact h
 | succ k ih =>
  intro i bs hk hbs prog w A R s h
  obtain⟨hp,g,d,tk,os⟩:=s;obtain⟨hl,he,h⟩:=h
  wp_walk using AutoSeq1.wpAny_loadPart' hl
  have hlt:i < items.size:=by exact Ar.r16 hk
  have hi:items[((i:Nat):Int).toNat]? = some items[i]:=by simp[hlt]
  cases bs with
  | nil=>simp at hbs
  | cons b bs =>
   rw[List.any_cons]at h
   rw[hi]
   refine wpAny_bind (he 0 b (by simpa using hlt) (by simp) prog w _ _ ?_)
   cases b with
   | true =>
    wp_walk
    exact h
   | false =>
    have hc:((i:Int) + 1)=((i + 1:Nat):Int):=by push_cast;rfl
    wp_walk
    rw[hc]
    exact⟨plainId_quiet MeetsSeq.plain_contains_loop _,codeAny_builtin MeetsSeq.entry_contains_loop (by
     rw[Around.under_plainId MeetsSeq.plain_contains_loop _]
     exact ih (i + 1) bs (by exact Ar.r15 hk) (by simpa using hbs) prog w A R _ ⟨hl,fun j c hj hc=>by
      have:=he (j + 1) c (by exact Ar.r124 hj) (by simpa using hc)
      have e:i + (j + 1)=i + 1 + j:=by exact Ar.r4
      simpa only [e]using this,by simpa using h⟩)⟩
theorem Gg (l:Addr)(items:Array Value)(n:Nat)(dd:Option Addr)(sl:Array (Option Value))(x:Value)(bs:List Bool)(hbs:bs.length=items.size) :
  Meets (Builtin.«list.__contains__» ⟨[.ref l,x],[]⟩)
   (fun A R s=>s.heap.get? l=some { cls:=.type "list",dict:=dd,data:=.seq items n,slots:=sl }/\(∀ j b (h:j < items.size),bs[j]? = some b->EqAt A.in1 s items[j] x b)/\R (.ok (.ret (.bool (bs.any id)))) s):=by
 intro prog w A R s h
 obtain⟨hp,g,d,tk,os⟩:=s;obtain⟨hl,he,h⟩:=h
 wp_walk using AutoSeq1.wpAny_loadPart' hl
 exact⟨plainId_quiet MeetsSeq.plain_contains_loop _,codeAny_builtin MeetsSeq.entry_contains_loop (by
  rw[Around.under_plainId MeetsSeq.plain_contains_loop _]
  exact Mn l items n dd sl x _ 0 bs rfl (by simpa using hbs) prog w A R _ ⟨hl,fun j b hj hb=>by simpa using he j b (by simpa using hj) hb,h⟩)⟩
theorem Ny {α β:Type}{g:α->Option β}:∀ {l:List α} {r:List β},l.mapM g=some r->r.length=l.length/\∀ (j:Nat) (b:β),r[j]? = some b->∃ a,l[j]? = some a/\g a=some b
 | [],r,h=>by simp at h;subst h;simp
 | a :: l,r,h=>by
  rw[List.mapM_cons]at h
  cases hg:g a with
  | none=>simp[hg]at h
  | some b =>
   cases hr:l.mapM g with
   | none=>simp[hg,hr]at h
   | some r' =>
    simp[hg,hr]at h
    subst h
    obtain⟨h1,h2⟩:=Ny hr
    refine⟨by simp[h1],fun j c hj=>?_⟩
    cases j with
    | zero=>simp at hj;subst hj;exact⟨a,by simp,hg⟩
    | succ j=>simpa using h2 j c (by simpa using hj)
theorem eP {A:Around}{s:Shared}{H:AH}{G:Gh}{O:Addr->Prop}{u v:AV}{x y:Value}{b:Bool}{Q:Value->Shared->Prop}(hA:AOk k A)(R:Rel C H G O s.heap)(hu:VRel s.heap O G u y)(hv:VRel s.heap O G v x)(e:inV H u v=some b) :
  ((∀ tk,Q (.bool b) { s with toks:=tk })->wpAny (model C.prog C.w) A (compareOp .In y x) Q (fun z0 z0=>False) s) /\
  ((∀ tk,Q (.bool (!b)) { s with toks:=tk })->wpAny (model C.prog C.w) A (compareOp .NotIn y x) Q (fun z0 z0=>False) s):=by
 have hU:=hA.units
 unfold inV at e
 generalize hs:Bf H v=o at e
 cases o with
 | some vs =>
  obtain⟨bs,hbs,rfl⟩:=Option.map_eq_some_iff.mp e
  obtain⟨a,n,items,rfl,hg,hr,hz⟩:=Ao R hv hs
  obtain⟨hl,hj⟩:=Ny hbs
  have heq:∀ j b (h:j < items.toArray.size),bs[j]? = some b->EqAt A.in1 s items.toArray[j] y b:=by
   intro j b h hb
   obtain⟨w,hw,hwb⟩:=hj j b hb
   obtain⟨z,hz,hrz⟩:=hr.get hw
   have:items.toArray[j]=z:=by
    have h':j < items.length:=by simpa using h
    rw[List.getElem?_eq_getElem h']at hz
    simpa using hz
   rw[this]
   exact(Jx 6 (A:=A.in1) w u z y b (by simp only [Around.in1_units];exact Ar.r61 hU) hrz hu hwb).1
  have hlen:bs.length=items.toArray.size:=by simp[hl,hr.length]
  exact⟨fun hQ=>SeqRoads2.in_meets (T:="list") ⟨_,hg,rfl⟩ F.slot_list_contains F.entry_list_contains (F.args_list_contains_2 _ _) (Gg a items.toArray n none #[] y bs hlen) ⟨hg,heq,_,rfl,hQ s.toks⟩,
   fun hQ=>SeqRoads2.notIn_meets (T:="list") ⟨_,hg,rfl⟩ F.slot_list_contains F.entry_list_contains (F.args_list_contains_2 _ _) (Gg a items.toArray n none #[] y bs hlen) ⟨hg,heq,_,rfl,hQ s.toks⟩⟩
 | none =>
  refine Iy e ?_;clear e;rintro a i rfl rfl e
  simp only [vRi,vRr]at hu hv
  obtain⟨t,rfl⟩:=hu
  subst hv
  generalize hH:H a=o at e
  cases o with
  | none=>exact nqa e
  | some o=>cases o with
   | srt=>exact nqa e
   | f o=>cases o with
    | dic lk es =>
     cases e
     obtain⟨_,hsm,hst,xs,hd,hr⟩:=R.obj a _ hH
     have hb:(valueAt ((es.map (·.1)).zip xs) i).isSome=(es.lookup i).isSome:=by
      clear hd hH hsm hst
      induction es generalizing xs with
      | nil=>simp[valueAt]
      | cons p r ih =>
       obtain⟨k',v'⟩:=p
       simp only [List.map_cons,vSc]at hr
       obtain⟨z,q,rfl,h1,h2⟩:=hr
       rw[List.lookup_cons]
       simp only [List.map_cons,List.zip_cons_cons,valueAt,List.find?_cons]
       by_cases hk:i=k'
       ·subst hk;simp
       ·have:(i == k')=false:=by simpa using hk
        rw[this,decide_eq_false (by exact fun h=>hk h.symm)]
        exact ih q h2
     refine⟨fun hQ=>wpAny_in_of (intKind_is _ _ i t) hsm hd.mapOf ?_,fun hQ=>wpAny_notIn_of (intKind_is _ _ i t) hsm hd.mapOf ?_⟩
     ·rw[hb];exact hQ _
     ·rw[hb];exact hQ _
    | iset ks =>
     cases e
     obtain⟨_,hset⟩:=R.obj a _ hH
     exact⟨fun hQ=>wpAny_inSet_of (intKind_is _ _ i t) rfl hset (hQ _),fun hQ=>wpAny_notInSet_of (intKind_is _ _ i t) rfl hset (hQ _)⟩
    | _=>exact nqa e
theorem CmpR.inn:CmpR C k .In inV:=by
 intro A s H G O u v r x y hA R hu hv e
 obtain⟨b,hb,rfl⟩:=Option.map_eq_some_iff.mp e
 exact(eP hA R hu hv hb).1 fun tk=>⟨by simp[vRb],.tok⟩
end
end Mine
end
section
namespace Mine
section
variable {C:Cx} {k:Nat} {sc:Sc} {f f':PF}
noncomputable abbrev LF:=Rho->AH->Option (List AV)
noncomputable def ArgsE (C:Cx) (k:Nat) (sc:Sc) (args:List Expr) (fs:LF):Prop :=
 ∀ (pos:Pos) (A:Around) (env:Env) (s:Shared) (ρ:Rho) (H:AH) (G:Gh) (O:Addr->Prop) (vs:List AV),AOk k A->WF C A sc env ρ G O s.heap->Rel C H G O s.heap->fs ρ H=some vs ->
  wpAny (model C.prog C.w) A (spliced (backTo pos (starEach args env))) (fun xs s'=>VRels s'.heap O G vs xs/\Kp s s') (fun z0 z0=>False) s
noncomputable def Af (f:PF) (fs:LF):LF:=fun ρ H=>match f ρ H,fs ρ H with
 | some v,some vs=>some (v :: vs)
 | _,_=>none
theorem Sr {fs:LF}{ρ:Rho}{H:AH}{r:List AV}(h:Af f fs ρ H=some r):∃ v vs,f ρ H=some v/\fs ρ H=some vs/\r=v :: vs:=by
 unfold Af at h
 refine Yv h ?_;clear h;intro z1 z2 q1 q2 h
 obtain rfl:=Option.some.inj h;exact⟨_,_,by assumption,by assumption,rfl⟩
noncomputable def Ak:LF:=fun z0 z0=>some []
theorem ArgsE.nil:ArgsE C k sc [] Ak:=by
 intro pos A env s ρ H G O vs hA F R h;obtain rfl:=Option.some.inj h
 exact wpAny_items_nil ⟨.nil,.refl' s⟩
theorem ArgsE.cons {e:Expr}{rest:List Expr}{fs:LF}(he:PureE C k sc e f)(hr:ArgsE C k sc rest fs)(hs:∀ env,starEach (e :: rest) env=(false,eval e env) :: starEach rest env:=by intro _;rfl):ArgsE C k sc (e :: rest) (Af f fs):=by
 intro pos A env s ρ H G O vs hA F R h
 refine Ac fun PP ret=>?_
 obtain⟨v,ws,hv,hws,rfl⟩:=Sr h
 refine ret ?_
 refine wpAny_items_cons (wpAny_mono (he A env s ρ H G O v hA F R hv) (fun x s1 h1=>?_) fun z0 z0 x=>x) (hs env)
 obtain⟨r1,k1⟩:=h1
 refine wpAny_mono (hr pos A env s1 ρ H G O ws hA (F.keep k1.k) (R.keep k1.k) hws) (fun xs s2 h2=>?_) fun z0 z0 x=>x
 obtain⟨r2,k2⟩:=h2
 exact⟨.cons (r1.keep k2.k) r2,k1.trans' k2⟩
theorem Cj:lim<=sizeLine:=by rw[Au,sizeLine_eq];decide
noncomputable def Rh (fs:LF):PF:=fun ρ H=>match fs ρ H with
 | some vs=>if vs.length<=lim then some (.tup vs) else none
 | none=>none
theorem PureE.tuple {elts:List Expr}{i:Nat}{pos:Pos}{fs:LF}(h:ArgsE C k sc elts fs):PureE C k sc (.Tuple elts i pos) (Rh fs):=by
 intro A env s ρ H G O v hA F R hv
 unfold Rh at hv
 refine Oy hv ?_;clear hv;intro vs hvs hv
 refine Bo hv ?_;clear hv;intro hz hv
 obtain rfl:=Option.some.inj hv
 refine wpAny_Tuple (wpAny_mono (h pos A env s ρ H G O vs hA F R hvs) (fun xs s1 h1=>?_) fun z0 z0 x=>x)
 obtain⟨r,k1⟩:=h1
 have hl:=r.length
 refine⟨by have:=Cj;exact Ar.r95 hz hl this,?_,k1.trans' .push⟩
 simp only [vRp]
 exact⟨_,0,xs,rfl,Heap.get?_push_size _ rfl,(R.keep k1.k).nsize,hz,r.keep fun z0 z0 e=>Heap.get?_push_of_some _ e⟩
noncomputable def Ec (fs:LF):Rho->AH->Option FObj:=fun ρ H=>match fs ρ H with
 | some vs=>if vs.length<=lim/\AV.stos vs=true then some (.lst false vs) else none
 | none=>none
theorem Gr {fs:LF}{ρ:Rho}{H:AH}{o:FObj}(h:Ec fs ρ H=some o):∃ vs,fs ρ H=some vs/\vs.length<=lim/\AV.stos vs=true/\o = .lst false vs:=by
 unfold Ec at h
 set_option tactic.hygienic true in split at h
 ·refine Bo h ?_;clear h;intro h' h
  obtain rfl:=Option.some.inj h;exact⟨_,by assumption,h'.1,h'.2,rfl⟩
 ·exact nqa h
theorem Gq {s s1:Shared}{H:AH}{G:Gh}{O:Addr->Prop}{vs:List AV}{xs:List Value}(R:Rel C H G O s1.heap)(k1:Kp s s1)(hz:vs.length<=lim)(hs:AV.stos vs=true)(r:VRels s1.heap O G vs xs) :
  PostM C s G O (.lst false vs) (.ref s1.heap.objs.size) { s1 with heap:=s1.heap.push { cls:=.type "list",data:=.seq xs.toArray } }:=by
 refine⟨s1.heap.objs.size,[],rfl,⟨rfl,hs,hz,0,xs,Heap.get?_push_size _ rfl,?_⟩,by simp,fun b hb=>?_,k1.trans' .push⟩
 ·refine r.mono (fun b o z0 z0 e z0 hb=>⟨Heap.get?_push_of_some _ e,fun q=>?_⟩) hs
  rcases q with q | q | q
  ·exact hb q
  ·clear R hb hs hz k1 r z0;subst q;exact absurd (Heap.lt_size e) (Nat.lt_irrefl _)
  ·simp at q
 ·simp at hb;clear R hs hz r;subst hb
  refine⟨?_,_,Heap.get?_push_size _ rfl⟩
  cases e:s.heap.get? s1.heap.objs.size with
  | none=>rfl
  | some o=>exact absurd (Heap.lt_size (k1.k _ _ e)) (Nat.lt_irrefl _)
theorem MakeE.list {elts:List Expr}{pos:Pos}{fs:LF}(h:ArgsE C k sc elts fs):MakeE C k sc (.List elts pos) (Ec fs):=by
 intro A env s ρ H G O o hA F R ho
 refine Ac fun PP ret=>?_
 obtain⟨vs,hvs,hz,hs,rfl⟩:=Gr ho
 refine ret ?_
 refine wpAny_List (wpAny_mono (h pos A env s ρ H G O vs hA F R hvs) (fun xs s1 h1=>?_) fun z0 z0 x=>x)
 obtain⟨r,k1⟩:=h1
 have hl:=r.length
 exact⟨by have:=Cj;exact Ar.r95 hz hl this,Gq (R.keep k1.k) k1 hz hs r⟩
noncomputable def Jt (g:Rho->AH->Option FObj):PF:=fun ρ H=>match g ρ H with
 | some (.lst _ vs)=>some (.fl vs)
 | _=>none
theorem MakeE.frz {e:Expr}{g:Rho->AH->Option FObj}(h:MakeE C k sc e g):PureE C k sc e (Jt g):=by
 intro A env s ρ H G O v hA F R hv
 unfold Jt at hv
 refine gR hv ?_;clear hv;intro lk vs hg hv
 obtain rfl:=Option.some.inj hv
 refine wpAny_mono (h A env s ρ H G O _ hA F R hg) (fun x s1 h1=>?_) fun z0 z0 x=>x
 refine Ac fun PP ret=>?_
 clear F h hA hg hv;obtain⟨a,gl,rfl,⟨rfl,hs,hz,n,items,hl,hr⟩,_,hf,k1⟩:=h1
 refine ret ?_
 refine⟨?_,k1⟩
 simp only [vRf]
 refine⟨a,n,items,rfl,hl,fun q=>?_,hz,hr.mono (fun b o z0 z0 e z0 hb=>⟨e,fun q=>hb (.inl q)⟩) hs⟩
 obtain⟨o,e⟩:=R.live a q
 rw[(hf a (.inl rfl)).1]at e;exact nqa e
noncomputable def Jm (f:PF):LF:=fun ρ H=>match f ρ H with
 | some v=>Bf H v
 | none=>none
noncomputable def Wh (fs fs':LF):LF:=fun ρ H=>match fs ρ H,fs' ρ H with
 | some xs,some ys=>some (xs++ys)
 | _,_=>none
theorem Wg {fs fs':LF}{ρ:Rho}{H:AH}{r:List AV}(h:Wh fs fs' ρ H=some r):∃ xs ys,fs ρ H=some xs/\fs' ρ H=some ys/\r=xs++ys:=by
 unfold Wh at h
 refine Yw h ?_;clear h;intro z1 z2 q1 q2 h
 obtain rfl:=Option.some.inj h;exact⟨_,_,by assumption,by assumption,rfl⟩
theorem Gn {ρ:Rho}{H:AH}{r:List AV}(h:Jm f ρ H=some r):∃ v,f ρ H=some v/\Bf H v=some r:=by
 unfold Jm at h
 refine Hz h ?_;clear h;intro z1 q1 h
 exact⟨_,by assumption,h⟩
theorem MakeE.cat {l r:Expr}{pos:Pos}(hl:PureE C k sc l f)(hr:PureE C k sc r f'):MakeE C k sc (.BinOp l .Add r pos) (Ec (Wh (Jm f) (Jm f'))):=by
 intro A env s ρ H G O o hA F R ho
 refine Ac fun PP ret=>?_
 obtain⟨vs,hvs,hz,hs,rfl⟩:=Gr ho
 clear ho;obtain⟨xs,ys,hxs,hys,rfl⟩:=Wg hvs
 obtain⟨u,hu,hxs⟩:=Gn hxs
 obtain⟨v,hv,hys⟩:=Gn hys
 refine ret ?_
 refine wpAny_BinOp (PureE.two hl hr hA F R hu hv fun x y s' rx ry ks=>?_)
 refine Ac fun PP ret=>?_
 have R':=R.keep ks.k
 obtain⟨a,n,items,rfl,hg,r1,z1⟩:=Ao R' rx hxs
 obtain⟨b,n',items',rfl,hg',r2,z2⟩:=Ao R' ry hys
 have e1:=r1.length
 have e2:=r2.length
 have hlim:=Cj
 simp only [List.length_append]at hz
 refine ret ?_
 refine P.add_list hg hg' ?_ (by simp only [List.size_toArray];exact Ar.r30 e1 e2 hlim hz)
 have:=Gq (xs:=items++items') R' ks (by simpa using hz) hs (r1.append r2)
 simp only [List.append_toArray]
 exact this
end
end Mine
end
section
namespace Mine
structure ItOK (C:Cx) (A:Around) (s s':Shared) (O:Addr->Prop) (G:Gh) (vs:List AV) (I:Addr) (fp wr cs:List Addr) (P:Nat->Value->Prop) (St:Nat->Heap->Prop):Prop where
 W:Walks C.prog C.w A I fp wr vs.length P St
 st:St 0 s'.heap
 new:∀ b ∈ wr,s.heap.get? b=none/\∃ o,s'.heap.get? b=some o
 wl:∀ i h,St i h->∀ b ∈ wr,∃ o vs,h.get? b=some o/\o.data = .fields vs
 cont:∀ b ∈ fp,b ∈ wr\/b ∈ cs
 csl:∀ b ∈ cs,∃ o,s'.heap.get? b=some o
 item:∀ i x,P i x->∃ v,vs[i]? = some v/\VRel s'.heap O G v x
 tup:∀ i (s:Shared) target v (Q:Unit->Shared->Prop) (E:Value->Shared->Prop),St i s.heap->Q () s->wpAny (model C.prog C.w) A (letOwnedTupleGo target (.ref I) v) Q E s
theorem ItOK.wns {C:Cx}{A:Around}{s s':Shared}{O:Addr->Prop}{G:Gh}{vs:List AV}{I:Addr}{fp wr cs:List Addr}{P:Nat->Value->Prop}{St:Nat->Heap->Prop}(ok:ItOK C A s s' O G vs I fp wr cs P St) :
  ∀ i h,St i h->∀ b ∈ wr,∀ o,h.get? b=some o->∀ xs n,o.data ≠ .seq xs n:=fun i h st b hb o e=>by
 obtain⟨o',vs,e',hd⟩:=ok.wl i h st b hb
 rw[e']at e;cases e;intro xs n q;rw[hd]at q;cases q
noncomputable def Kf (h:Heap) (H:AH) (G:Gh) (O:Addr->Prop) (b:Addr):Prop:=(¬ O b/\∃ o xs n,h.get? b=some o/\o.data = .seq xs n)\/∃ a o,H a=some (.f o)/\o.lk=true/\(b=a\/b ∈ G a)
inductive PostI (C:Cx) (A:Around) (s:Shared) (O:Addr->Prop) (G:Gh) (vs:List AV) (Cond:Heap->Addr->Prop) (it:Value) (s2:Shared):Prop
 | mk (k:Kp s s2) (hz:vs.length<=lim) (I:Addr) (fp wr cs:List Addr) (P:Nat->Value->Prop) (St:Nat->Heap->Prop) (e:it = .ref I) (ok:ItOK C A s s2 O G vs I fp wr cs P St) (hcs:∀ b ∈ cs,Cond s2.heap b)
noncomputable def IterE (C:Cx) (k:Nat) (sc:Sc) (e:Expr) (fs:LF):Prop :=
 ∀ (A:Around) (env:Env) (s:Shared) (ρ:Rho) (H:AH) (G:Gh) (O:Addr->Prop) (vs:List AV),AOk k A->WF C A sc env ρ G O s.heap->Rel C H G O s.heap->fs ρ H=some vs ->
  wpAny (model C.prog C.w) A (eval e env) (fun x s1=>wpAny (model C.prog C.w) A (pyIter x) (PostI C A s O G vs fun h b=>∃ v,Kf h H G O b\/(H b ≠ none/\v=AV.ref b)\/∃ a i,H a ≠ none/\(G a)[i]? = some b/\v=AV.row a i) (fun z0 z0=>False) s1) (fun z0 z0=>False) s
noncomputable def IterS (C:Cx) (k:Nat) (sc:Sc) (e:Expr) (fs:LF):Prop :=
 ∀ (A:Around) (env:Env) (s:Shared) (ρ:Rho) (H:AH) (G:Gh) (O:Addr->Prop) (vs:List AV),AOk k A->WF C A sc env ρ G O s.heap->Rel C H G O s.heap->fs ρ H=some vs ->
  wpAny (model C.prog C.w) A (eval e env) (fun x s1=>wpAny (model C.prog C.w) A (pyIter x) (PostI C A s O G vs fun h b=>Kf h H G O b) (fun z0 z0=>False) s1) (fun z0 z0=>False) s
theorem Dl {s s1:Shared}(k1:Kp s s1):s.heap.get? s1.heap.objs.size=none:=by
 cases e:s.heap.get? s1.heap.objs.size with
 | none=>rfl
 | some o=>exact absurd (Heap.lt_size (k1.k _ _ e)) (Nat.lt_irrefl _)
noncomputable def tupGoNames:List String:=["enumerate","zip","dict_itemiterator","dict_reverseitemiterator","odict_iterator","itertools.zip_longest","itertools.pairwise"]
noncomputable def Sm (c:Value):Bool:=match c with
 | .type n=>!tupGoNames.contains n
 | _=>true
theorem Nm {M:Model}{A:Around}{s:Shared}{I:Addr}{o:Obj}{target:Expr}{v:Value}{Q:Unit->Shared->Prop}{E:Value->Shared->Prop}(ho:s.heap.get? I=some o)(hc:Sm o.cls=true)(hQ:Q () s):wpAny M A (letOwnedTupleGo target (.ref I) v) Q E s:=by
 obtain⟨cl,d,dt,sl⟩:=o
 have key:wpAny M A (match (Value.ref I,v) with
   | (.ref r,.ref a)=>do
    let o <- load r
    match o.cls,o.data with
    | .type n,.fields vs =>
     if ["enumerate","zip","dict_itemiterator","dict_reverseitemiterator","odict_iterator","itertools.zip_longest","itertools.pairwise"].contains n && vs[0]? == some (rawInt a) then do
      rule "for.unpacks-the-owned-tuple"
      updateField r 0 .none
     else pure ()
    | _,_=>pure ()
   | _=>pure ()) Q E s:=by
  cases v with
  | ref a =>
   refine wpAny_bind (wpAny_load ho ?_)
   dsimp only
   clear ho
   set_option tactic.hygienic true in cases cl <;> first | exact wpAny_pure hQ | skip
   ·rename_i n
    set_option tactic.hygienic true in cases dt <;> first | exact wpAny_pure hQ | skip
    rename_i vs
    dsimp only
    have hn:(["enumerate","zip","dict_itemiterator","dict_reverseitemiterator","odict_iterator","itertools.zip_longest","itertools.pairwise"].contains n)=false:=by
     cases q:tupGoNames.contains n with
     | false=>exact q
     | true=>exact nqd ((congrArg (!·) q).symm.trans hc)
    rw[hn]
    simp only [Bool.false_and,Bool.false_eq_true,if_false]
    exact wpAny_pure hQ
  | _=>exact wpAny_pure hQ
 unfold letOwnedTupleGo
 set_option tactic.hygienic true in cases target <;> first | exact wpAny_pure hQ | exact key
section
variable {C:Cx} {k:Nat} {sc:Sc} {f f':PF}
theorem Ed {A:Around}{s s1:Shared}{O:Addr->Prop}{G:Gh}{vs:List AV}{a:Addr}{n:Nat}{items:List Value}{Q:Value->Shared->Prop}(hh:A.handled=none)(k1:Kp s s1)(hg:s1.heap.get? a=some (Bt items n))(hr:VRels s1.heap O G vs items)
  (hQ:∀ s2 I fp wr P St,(∀ {b o},s1.heap.get? b=some o->s2.heap.get? b=some o)->Kp s s2->ItOK C A s s2 O G vs I fp wr [a] P St->Q (.ref I) s2):wpAny (model C.prog C.w) A (pyIter (.ref a)) Q (fun z0 z0=>False) s1:=by
 have hlt:=Heap.lt_size hg
 refine wpAny_pyIter_list (Aj hg) (hQ _ _ [s1.heap.objs.size,a] [s1.heap.objs.size] (fun i v=>items.toArray[i]? = some v) (fun i h=>h.IsListIter s1.heap.objs.size a i/\h.IsList a items.toArray) (fun e=>Heap.get?_push_of_some _ e) (k1.trans' .push) ⟨?_,?_,?_,?_,?_,?_,?_,?_⟩)
 ·have:=Walks.list (prog:=C.prog) (w:=C.w) hh s1.heap.objs.size a (Nat.ne_of_lt hlt) items.toArray
  have e:items.toArray.size=vs.length:=by rw[List.size_toArray,hr.length]
  rw[e]at this
  exact this
 ·exact⟨⟨_,Heap.get?_push_size _ rfl,rfl,rfl⟩,(Aj hg).push _⟩
 ·intro b hb;simp at hb;clear hQ hg hh hlt hr;subst hb;exact⟨Dl k1,_,Heap.get?_push_size _ rfl⟩
 ·rintro i h ⟨⟨o',e',_,hd⟩,_⟩ b hb;simp at hb;clear hQ hg hh hlt hr k1 left right;subst hb;exact⟨o',_,e',hd⟩
 ·intro b hb;simp at hb;clear hQ hg hh hlt hr k1;rcases hb with rfl | rfl <;> simp
 ·intro b hb;simp at hb;clear hQ hh hlt hr k1;subst hb;exact⟨_,Heap.get?_push_of_some _ hg⟩
 ·intro i x hx
  have hx':items[i]? = some x:=by simpa using hx
  have hi:i < items.length:=by
   rcases Nat.lt_or_ge i items.length with h | h
   ·exact h
   ·rw[List.getElem?_eq_none h]at hx';exact nqa hx'
  rw[hr.length]at hi
  obtain⟨y,hy,hry⟩:=hr.get (List.getElem?_eq_getElem hi)
  rw[hx']at hy;clear hQ hg hh hlt hr hx hx' k1;obtain rfl:=Option.some.inj hy
  exact⟨_,List.getElem?_eq_getElem hi,hry.keep fun z0 z0 e=>Heap.get?_push_of_some _ e⟩
 ·rintro i s target v Q E ⟨⟨o,ho,hc,hd⟩,_⟩ hQ
  exact Nm ho (by rw[hc];decide) hQ
theorem Md {A:Around}{s s1:Shared}{O:Addr->Prop}{G:Gh}{vs:List AV}{a:Addr}{n:Nat}{items:List Value}{Q:Value->Shared->Prop}(hh:A.handled=none)(k1:Kp s s1)(hg:s1.heap.get? a=some (Kz items n))(hr:VRels s1.heap O G vs items)
  (hQ:∀ s2 I fp wr P St,(∀ {b o},s1.heap.get? b=some o->s2.heap.get? b=some o)->Kp s s2->ItOK C A s s2 O G vs I fp wr [a] P St->Q (.ref I) s2):wpAny (model C.prog C.w) A (pyIter (.ref a)) Q (fun z0 z0=>False) s1:=by
 have hlt:=Heap.lt_size hg
 refine wpAny_pyIter_tuple (Bu hg) (hQ _ _ [s1.heap.objs.size,a] [s1.heap.objs.size] (fun i v=>items.toArray[i]? = some v) (fun i h=>h.IsTupleIter s1.heap.objs.size a i/\h.IsTuple a items.toArray) (fun e=>Heap.get?_push_of_some _ e) (k1.trans' .push) ⟨?_,?_,?_,?_,?_,?_,?_,?_⟩)
 ·have:=Walks.tuple (prog:=C.prog) (w:=C.w) hh s1.heap.objs.size a (Nat.ne_of_lt hlt) items.toArray
  have e:items.toArray.size=vs.length:=by rw[List.size_toArray,hr.length]
  rw[e]at this
  exact this
 ·exact⟨⟨_,Heap.get?_push_size _ rfl,rfl,rfl⟩,⟨_,Heap.get?_push_of_some _ hg,rfl,n,rfl⟩⟩
 ·intro b hb;simp at hb;clear hQ hg hh hlt hr;subst hb;exact⟨Dl k1,_,Heap.get?_push_size _ rfl⟩
 ·rintro i h ⟨⟨o',e',_,hd⟩,_⟩ b hb;simp at hb;clear hQ hg hh hlt hr k1 left right;subst hb;exact⟨o',_,e',hd⟩
 ·intro b hb;simp at hb;clear hQ hg hh hlt hr k1;rcases hb with rfl | rfl <;> simp
 ·intro b hb;simp at hb;clear hQ hh hlt hr k1;subst hb;exact⟨_,Heap.get?_push_of_some _ hg⟩
 ·intro i x hx
  have hx':items[i]? = some x:=by simpa using hx
  have hi:i < items.length:=by
   rcases Nat.lt_or_ge i items.length with h | h
   ·exact h
   ·rw[List.getElem?_eq_none h]at hx';exact nqa hx'
  rw[hr.length]at hi
  obtain⟨y,hy,hry⟩:=hr.get (List.getElem?_eq_getElem hi)
  rw[hx']at hy;clear hQ hg hh hlt hr hx hx' k1;obtain rfl:=Option.some.inj hy
  exact⟨_,List.getElem?_eq_getElem hi,hry.keep fun z0 z0 e=>Heap.get?_push_of_some _ e⟩
 ·rintro i s target v Q E ⟨⟨o,ho,hc,hd⟩,_⟩ hQ
  exact Nm ho (by rw[hc];decide) hQ
noncomputable def itV (H:AH):AV->Option (List AV)
 | .tup vs=>some vs
 | v=>Bf H v
noncomputable def itP (f:PF):LF:=fun ρ H=>match f ρ H with
 | some v=>itV H v
 | none=>none
noncomputable def Nd (H:AH):AV->Option (List AV)
 | .tup vs=>some vs
 | .fl vs=>some vs
 | .ref a=>match H a with
  | some (.f (.lst true vs))=>some vs
  | _=>none
 | .row a i=>match H a with
  | some (.f (.mat true M))=>M[i]?
  | _=>none
 | _=>none
theorem Yp {H:AH}{a:Addr}:Nd H (.ref a)=match H a with | some (.f (.lst true vs))=>some vs | _=>none:=rfl
theorem cU {H:AH}{a:Addr}{i:Nat}:Nd H (.row a i)=match H a with | some (.f (.mat true M))=>M[i]? | _=>none:=rfl
theorem cV {H:AH}{vs:List AV}:Nd H (.tup vs)=some vs:=rfl
noncomputable def Ix (f:PF):LF:=fun ρ H=>match f ρ H with
 | some v=>Nd H v
 | none=>none
theorem Vp {ρ:Rho}{H:AH}{r:List AV}(h:Ix f ρ H=some r):∃ v,f ρ H=some v/\Nd H v=some r:=by
 unfold Ix at h
 refine Hz h ?_;clear h;intro z1 q1 h
 exact⟨_,by assumption,h⟩
theorem Qh {A:Around}{s s1:Shared}{H:AH}{G:Gh}{O:Addr->Prop}{vs:List AV}{v:AV}{x:Value}(hA:A.handled=Option.none)(k1:Kp s s1)(R':Rel C H G O s1.heap)(rx:VRel s1.heap O G v x)(hi:Nd H v=some vs) :
  wpAny (model C.prog C.w) A (pyIter x) (PostI C A s O G vs fun h b=>Kf h H G O b) (fun z0 z0=>False) s1:=by
 cases v with
 | tup ws =>
  obtain rfl:=Option.some.inj hi
  simp only [vRp]at rx
  obtain⟨a,n,items,rfl,hg,hO,hz,hr⟩:=rx
  exact Md hA k1 hg hr fun s2 I fp wr P St k2' k2 ok=>⟨k2,hz,I,fp,wr,[a],P,St,rfl,ok,fun b hb=>by simp at hb;subst hb;exact .inl ⟨hO,_,_,_,k2' hg,rfl⟩⟩
 | fl ws =>
  obtain rfl:=Option.some.inj hi
  simp only [vRf]at rx
  obtain⟨a,n,items,rfl,hg,hO,hz,hr⟩:=rx
  exact Ed hA k1 hg hr fun s2 I fp wr P St k2' k2 ok=>⟨k2,hz,I,fp,wr,[a],P,St,rfl,ok,fun b hb=>by simp at hb;subst hb;exact .inl ⟨hO,_,_,_,k2' hg,rfl⟩⟩
 | ref a =>
  refine gV hi ?_;clear hi;intro ws hH hi
  cases hi
  simp only [vRr]at rx
  subst rx
  obtain⟨_,_,hz,n,items,hg,hr⟩:=R'.obj a _ hH
  exact Ed hA k1 hg hr fun s2 I fp wr P St k2' k2 ok=>⟨k2,hz,I,fp,wr,[a],P,St,rfl,ok,fun b hb=>by simp at hb;subst hb;exact .inr ⟨_,_,hH,rfl,.inl rfl⟩⟩
 | row a i =>
  refine gT hi ?_;clear hi;intro M hH hi
  obtain⟨a',n,items,e,hg,hr,hz⟩:=Ao R' rx ((Th hH).trans hi)
  simp only [vRw]at rx
  obtain⟨c,hc,rfl⟩:=rx
  injection e with e
  subst e
  exact Ed hA k1 hg hr fun s2 I fp wr P St k2' k2 ok=>⟨k2,hz,I,fp,wr,_,P,St,rfl,ok,fun b hb=>by simp at hb;subst hb;exact .inr ⟨_,_,hH,rfl,.inr (List.mem_of_getElem? hc)⟩⟩
 | _=>exact nqa hi
theorem IterS.val {e:Expr}(h:PureE C k sc e f):IterS C k sc e (Ix f):=by
 intro A env s ρ H G O vs hA F R hv
 obtain⟨v,hf,hi⟩:=Vp hv
 exact wpAny_mono (h A env s ρ H G O v hA F R hf) (fun x s1 h1=>Qh hA.1 h1.2 (R.keep h1.2.k) h1.1 hi) fun z0 z0 x=>x
noncomputable def Bs (a b c:Int):List Int:=(List.range (Builtin.Range.rangeSize a b c).toNat).map fun (i:Nat)=>a + (i:Int) * c
noncomputable def Dh (a b c:Int):Bool:=decide (-1000000000 < a) && decide (a < 1000000000) && decide (-1000000000 < b) && decide (b < 1000000000) && decide (-1000000 < c) && decide (c < 1000000) && decide (c ≠ 0) && decide ((Builtin.Range.rangeSize a b c).toNat<=lim)
noncomputable def bE:List AV->Option (List AV)
 | [.int b]=>if Dh 0 b 1 then some ((Bs 0 b 1).map .int) else none
 | [.int a,.int b]=>if Dh a b 1 then some ((Bs a b 1).map .int) else none
 | [.int a,.int b,.int c]=>if Dh a b c then some ((Bs a b c).map .int) else none
 | _=>none
theorem cQ {b:Int}:bE [.int b]=if Dh 0 b 1 then some ((Bs 0 b 1).map .int) else none:=rfl
theorem cO {a b:Int}:bE [.int a,.int b]=if Dh a b 1 then some ((Bs a b 1).map .int) else none:=rfl
noncomputable def Hc (fs:LF):LF:=fun ρ H=>match fs ρ H with
 | some vs=>bE vs
 | none=>none
theorem Cg {a b c:Int}(hc:c ≠ 0):0<=Builtin.Range.rangeSize a b c:=by
 unfold Builtin.Range.rangeSize
 set_option tactic.hygienic true in split
 ·set_option tactic.hygienic true in split
  ·have:0<=(b - a - 1) / c:=Int.ediv_nonneg (by exact Ar.r237 (by assumption)) (by exact Ar.r232 (by assumption))
   exact Ar.r228 this
  ·lia
 ·set_option tactic.hygienic true in split
  ·have:0<=(a - b - 1) / (-c):=Int.ediv_nonneg (by exact Ar.r238 (by assumption)) (by lia)
   exact Ar.r228 this
  ·lia
theorem Uz {a b c:Int}(h:Dh a b c=true):Builtin.Range.small a b c=true:=by
 simp only [Dh,Bool.and_eq_true,decide_eq_true_eq]at h
 have hn:=Cg (a:=a) (b:=b) (c:=c) (by exact Ar.r240 h)
 have hz:=h.2
 rw[Au]at hz
 unfold Builtin.Range.small
 simp only [Builtin.Range.rangeFitsLong,Bool.and_eq_true,Bool.or_eq_true,decide_eq_true_eq,beq_iff_eq]
 refine⟨⟨⟨⟨?_,?_⟩,?_⟩,?_⟩,.inr ?_⟩
 all_goals (try (constructor <;> omega))
 set_option tactic.hygienic true in split <;> simp only [Bool.and_eq_true,decide_eq_true_eq] <;> constructor <;> omega
theorem Me {A:Around}{s s1:Shared}{O:Addr->Prop}{G:Gh}{r:Addr}{a b c:Int}{t u v:Tok}{Q:Value->Shared->Prop}(hh:A.handled=none)(k1:Kp s s1)(hg:IsRange s1.heap r a b c t u v)(hok:Dh a b c=true)
  (hQ:∀ s2 I fp wr P St,Kp s s2->ItOK C A s s2 O G ((Bs a b c).map .int) I fp wr [] P St->Q (.ref I) s2):wpAny (model C.prog C.w) A (pyIter (.ref r)) Q (fun z0 z0=>False) s1:=by
 have hc0:c ≠ 0:=by simp only [Dh,Bool.and_eq_true,decide_eq_true_eq]at hok;exact Ar.r240 hok
 have hn:=Cg (a:=a) (b:=b) (c:=c) hc0
 refine wpAny_pyIter_range hg (Uz hok) (hQ _ _ [s1.heap.objs.size] [s1.heap.objs.size] (fun i x=>i < (Builtin.Range.rangeSize a b c).toNat/\∃ t,x = .int (a + i * c) t) (fun i h=>IsRangeIter h s1.heap.objs.size (a + (i:Nat) * c) (((Builtin.Range.rangeSize a b c).toNat:Int) - (i:Nat)) c) (k1.trans' .push) ⟨?_,?_,?_,?_,?_,?_,?_,?_⟩)
 ·have:=(Walks.range (prog:=C.prog) (w:=C.w) hh s1.heap.objs.size a c (Builtin.Range.rangeSize a b c).toNat).bound
  simpa [Bs]using this
 ·show IsRangeIter _ _ _ _ _
  have e1:a + ((0:Nat):Int) * c=a:=by simp
  have e2:((Builtin.Range.rangeSize a b c).toNat:Int) - ((0:Nat):Int)=Builtin.Range.rangeSize a b c:=by rw[Int.toNat_of_nonneg hn];simp
  rw[e1,e2]
  exact Heap.get?_push_size _ rfl
 ·intro b hb;simp at hb;subst hb;exact⟨Dl k1,_,Heap.get?_push_size _ rfl⟩
 ·intro i h st b hb;simp at hb;subst hb;have st':h.get? _=some _:=st;exact⟨_,_,st',rfl⟩
 ·intro b hb;simp at hb;subst hb;simp
 ·intro b hb;simp at hb
 ·rintro i x ⟨hi,t,rfl⟩
  exact⟨.int (a + i * c),by simp[Bs,hi],by simp[vRi]⟩
 ·rintro i s target v Q E ho hQ
  exact Nm (show s.heap.get? _=some _ from ho) (show Sm (Value.type "range_iterator")=true by decide) hQ
theorem Nk {A:Around}{s s1:Shared}{O:Addr->Prop}{G:Gh}{vs ws:List AV}{xs:List Value}{Q:Value->Shared->Prop}(hh:A.handled=none)(k1:Kp s s1)(hr:VRels s1.heap O G ws xs)(he:bE ws=some vs)
  (hQ:∀ s2 I fp wr P St,Kp s s2->vs.length<=lim->ItOK C A s s2 O G vs I fp wr [] P St->Q (.ref I) s2) :
  wpAny (model C.prog C.w) A (call (.type "range") xs) (fun x s2=>wpAny (model C.prog C.w) A (pyIter x) Q (fun z0 z0=>False) s2) (fun z0 z0=>False) s1:=by
 have lz:∀ {a b c:Int},Dh a b c=true->((Bs a b c).map AV.int).length<=lim:=fun h=>by
  simp only [Dh,Bool.and_eq_true,decide_eq_true_eq]at h;simpa [Bs]using h.2
 cases ws with
 | nil=>exact nqa he
 | cons v l =>
  set_option tactic.hygienic true in cases v <;> first | exact nqa he | skip
  rename_i i1
  cases l with
  | nil =>
   refine Bo he ?_;clear he;intro hok he
   obtain rfl:=Option.some.inj he
   simp only [vSn,vSc,vRi]at hr
   clear he;obtain⟨x,r,rfl,⟨t,rfl⟩,rfl⟩:=hr
   exact call_range_1 (Me hh (k1.trans' .pushT) (IsRange.new ..) hok fun s2 I fp wr P St k2 ok=>hQ s2 I fp wr P St k2 (lz hok) ok)
  | cons v l =>
   set_option tactic.hygienic true in cases v <;> first | exact nqa he | skip
   rename_i i2
   cases l with
   | nil =>
    refine Bo he ?_;clear he;intro hok he
    obtain rfl:=Option.some.inj he
    simp only [vSn,vSc,vRi]at hr
    clear he;obtain⟨x,r,rfl,⟨t,rfl⟩,y,r',rfl,⟨u,rfl⟩,rfl⟩:=hr
    exact call_range_2 (Me hh (k1.trans' .pushT) (IsRange.new ..) hok fun s2 I fp wr P St k2 ok=>hQ s2 I fp wr P St k2 (lz hok) ok)
   | cons v l =>
    set_option tactic.hygienic true in cases v <;> first | exact nqa he | skip
    rename_i i3
    cases l with
    | cons=>exact nqa he
    | nil =>
     refine Bo he ?_;clear he;intro hok he
     obtain rfl:=Option.some.inj he
     simp only [vSn,vSc,vRi]at hr
     clear he;obtain⟨x,r,rfl,⟨t,rfl⟩,y,r',rfl,⟨u,rfl⟩,z,r'',rfl,⟨w,rfl⟩,rfl⟩:=hr
     have hc:=hok
     simp only [Dh,Bool.and_eq_true,decide_eq_true_eq]at hc
     exact call_range_3 (by exact Ar.r240 hc) (Me hh (k1.trans' .pushT) (IsRange.new ..) hok fun s2 I fp wr P St k2 ok=>hQ s2 I fp wr P St k2 (lz hok) ok) (.inl (PyProof.noPylong_small (by omega)))
theorem Dr {M:Model}{A:Around}{E:Value->Shared->Prop}{s:Shared}{env:Env}{pos:Pos}{f:Value}{e:Expr}{rest:List Expr}{Q:Args->Shared->Prop}(hs:starEach (e :: rest) env=(false,eval e env) :: starEach rest env)
  (h:wpAny M A (spliced (backTo pos (starEach (e :: rest) env))) (fun vs s'=>Q ⟨vs,[]⟩ s') E s):wpAny M A (evalArgs f true (backTo pos (starEach (e :: rest) env)) []) Q E s:=by
 rw[hs]at h ⊢
 exact Calls.evalArgs_plain h
noncomputable def Ig (args:List Expr):Prop:=∀ env,(starEach args env).any (·.1)=false
theorem Ct {args:List Expr}(h:Ig args)(pos:Pos)(env:Env):(backTo pos (starEach args env)).any (·.1)=false:=by
 have:=h env
 unfold backTo
 rw[List.any_map]
 simpa [Function.comp_def]using this
theorem IterS.range {p pos:Pos} {x:Str} {e:Expr} {rest:List Expr} {fs:LF} (hx:x ∈ sc.globs) (hm:C.mg x=some (.type "range")\/(C.mg x=none/\C.mb x=some (.type "range"))) (h:ArgsE C k sc (e :: rest) fs)
  (hs:∀ env,starEach (e :: rest) env=(false,eval e env) :: starEach rest env:=by intro _;rfl) (hns:Ig (e :: rest):=by intro _;rfl) (hd:(x == ("__debug__":Str))=false:=by decide):IterS C k sc (.Call (.Name x p) (e :: rest) [] pos) (Hc fs):=by
 intro A env s ρ H G O vs hA F R hv
 unfold Hc at hv
 refine Oy hv ?_;clear hv;intro ws hws hv
 refine wpAny_Call_NameR (wpAny_Name (Cf F R hx hm ?_) hd)
 refine PySem.callWith_type (Ct hns pos env) (Dr (hs env) (wpAny_mono (h pos A env s ρ H G O ws hA F R hws) (fun xs s1 h1=>?_) fun z0 z0 x=>x))
 obtain⟨r,k1⟩:=h1
 exact Nk hA.1 k1 r hv fun s2 I fp wr P St k2 hz ok=>⟨k2,hz,I,fp,wr,[],P,St,rfl,ok,fun b hb=>by simp at hb⟩
theorem IterS.toE {e:Expr}{fs:LF}(h:IterS C k sc e fs):IterE C k sc e fs:=by
 intro A env s ρ H G O vs hA F R hv
 refine wpAny_mono (h A env s ρ H G O vs hA F R hv) (fun x s1 h1=>wpAny_mono h1 (fun it s2 h2=>?_) fun z0 z0 x=>x) fun z0 z0 x=>x
 obtain⟨k2,hz,I,fp,wr,cs,P,St,rfl,ok,hc⟩:=h2
 exact⟨k2,hz,I,fp,wr,cs,P,St,rfl,ok,fun b hb=>⟨.none,.inl (hc b hb)⟩⟩
end
end Mine
end
section
namespace Mine
structure FS (P:Addr->Prop) (s s':Shared):Prop where
 same:∃ h' tk,s' = { s with heap:=h',toks:=tk }
 k:∀ b o,¬ P b->s.heap.get? b=some o->s'.heap.get? b=some o
 l:∀ b o,s.heap.get? b=some o->∃ o',s'.heap.get? b=some o'
 sz:s'.heap.objs.size=s.heap.objs.size
theorem FS.refl (P:Addr->Prop)(s:Shared):FS P s s:=⟨⟨s.heap,s.toks,rfl⟩,fun z0 z0 z0 e=>e,fun z0 o e=>⟨o,e⟩,rfl⟩
theorem FS.trans {P:Addr->Prop}{s s' s'':Shared}(a:FS P s s')(b:FS P s' s''):FS P s s'':=by
 obtain⟨⟨h1,t1,rfl⟩,k1,l1,z1⟩:=a
 obtain⟨⟨h2,t2,rfl⟩,k2,l2,z2⟩:=b
 exact⟨⟨h2,t2,rfl⟩,fun b o hb e=>k2 b o hb (k1 b o hb e),fun b o e=>let ⟨o',e'⟩:=l1 b o e;l2 b o' e',z2.trans z1⟩
theorem FS.mono {P P':Addr->Prop}{s s':Shared}(a:FS P s s')(h:∀ b,P b->P' b):FS P' s s':=⟨a.same,fun b o hb e=>a.k b o (fun q=>hb (h b q)) e,a.l,a.sz⟩
noncomputable def ta (sc:Sc) (env:Env) (idx:List Nat) (b:Addr):Prop:=b=env.locals\/∃ x i,(x,i) ∈ sc.vars/\i ∈ idx/\env.cells.lookup x=some b
theorem Cq {sc:Sc}{env:Env}{idx:List Nat}{b:Addr}(h:ta sc env idx b):fr env b:=h.imp id fun ⟨x,_,_,_,e⟩=>⟨x,PySem.mem_of_lookup e⟩
theorem Xa {sc:Sc}{env:Env}{idx idx':List Nat}(hi:∀ i ∈ idx,i ∈ idx'){b:Addr}(h:ta sc env idx b):ta sc env idx' b:=h.imp id fun ⟨x,i,h1,h2,e⟩=>⟨x,i,h1,hi i h2,e⟩
section
variable {C:Cx} {sc:Sc} {env:Env} {ρ:Rho} {G:Gh} {O:Addr->Prop} {s:Shared} {M:Model} {A:Around}
theorem VRel.frm {h h':Heap}(hl:∀ o,h.get? env.locals=some o->∀ xs n,o.data ≠ .seq xs n)(hc:∀ x c,(x,c) ∈ env.cells->∀ o,h.get? c=some o->∀ xs n,o.data ≠ .seq xs n)
  (hk:∀ b o,¬ fr env b->h.get? b=some o->h'.get? b=some o):∀ b o xs n,h.get? b=some o->o.data = .seq xs n->h'.get? b=some o:=by
 intro b o xs n e hd
 refine hk b o (fun hf=>?_) e
 rcases hf with rfl | ⟨x,hx⟩
 ·exact hl o e xs n hd
 ·exact hc x b hx o e xs n hd
mutual
theorem VRel.seqs {h h':Heap}(hk:∀ b o xs n,h.get? b=some o->o.data = .seq xs n->h'.get? b=some o):∀ {v:AV} {x:Value},VRel h O G v x->VRel h' O G v x
 | .undef,_,r=>by simp[vRu]at r
 | .none,_,r=>by simpa [vRu,vRn,vRb,vRi,vRs,vRr,vRk,vRt,vRw,vRp,vRf]using r
 | .bool b,_,r=>by simpa [vRu,vRn,vRb,vRi,vRs,vRr,vRk,vRt,vRw,vRp,vRf]using r
 | .int i,_,r=>by simpa [vRu,vRn,vRb,vRi,vRs,vRr,vRk,vRt,vRw,vRp,vRf]using r
 | .str s,_,r=>by simpa [vRu,vRn,vRb,vRi,vRs,vRr,vRk,vRt,vRw,vRp,vRf]using r
 | .ref a,_,r=>by simpa [vRu,vRn,vRb,vRi,vRs,vRr,vRk,vRt,vRw,vRp,vRf]using r
 | .bi a,_,r=>by simpa [vRu,vRn,vRb,vRi,vRs,vRr,vRk,vRt,vRw,vRp,vRf]using r
 | .ty a,_,r=>by simpa [vRu,vRn,vRb,vRi,vRs,vRr,vRk,vRt,vRw,vRp,vRf]using r
 | .row a i,_,r=>by simpa [vRu,vRn,vRb,vRi,vRs,vRr,vRk,vRt,vRw,vRp,vRf]using r
 | .tup vs,x,r=>by
  simp only [vRp]at r ⊢
  refine Ac fun PP ret=>?_
  obtain⟨a,n,items,e,hg,ho,hz,hr⟩:=r
  refine ret ?_
  exact⟨a,n,items,e,hk a _ _ n hg rfl,ho,hz,VRels.seqs hk hr⟩
 | .fl vs,x,r=>by
  simp only [vRf]at r ⊢
  refine Ac fun PP ret=>?_
  obtain⟨a,n,items,e,hg,ho,hz,hr⟩:=r
  refine ret ?_
  exact⟨a,n,items,e,hk a _ _ n hg rfl,ho,hz,VRels.seqs hk hr⟩
theorem VRels.seqs {h h':Heap}(hk:∀ b o xs n,h.get? b=some o->o.data = .seq xs n->h'.get? b=some o):∀ {vs:List AV} {xs:List Value},VRels h O G vs xs->VRels h' O G vs xs
 | [],xs,r=>by simpa [vSn,vSc]using r
 | v :: vs,xs,r=>by
  simp only [vSc]at r ⊢
  refine Ac fun PP ret=>?_
  obtain⟨x,q,e,h1,h2⟩:=r
  refine ret ?_
  exact⟨x,q,e,VRel.seqs hk h1,VRels.seqs hk h2⟩
end
theorem Du {h:Heap}{a m}(hn:h.Ns a m):∀ o,h.get? a=some o->∀ xs n,o.data ≠ .seq xs n:=by
 obtain⟨o,es,ep,ho,hd,_⟩:=hn
 intro o' e xs n
 rw[ho]at e;cases e;rw[hd];intro x;cases x
theorem Dm {h:Heap}{c ov}(hc:h.IsCell c ov):∀ o,h.get? c=some o->∀ xs n,o.data ≠ .seq xs n:=by
 obtain⟨o,ho,hd⟩:=hc
 intro o' e xs n
 rw[ho]at e;cases e;rw[hd];intro x;cases x
theorem Bw:∀ {cs:List (Str × Addr)} {x:Str} {c:Addr},(x,c) ∈ cs->∃ c',cs.lookup x=some c'
 | (k,v) :: r,x,c,h=>by
  rw[List.lookup_cons]
  cases hb:x == k with
  | true=>exact⟨v,rfl⟩
  | false =>
   rcases List.mem_cons.mp h with e | h
   ·clear h;cases e;simp at hb
   ·exact Bw h
theorem Ds {x:Str}{i:Nat}{v:AV}{y:Value}{Q:Unit->Shared->Prop}{E:Value->Shared->Prop}(F:WF C A sc env ρ G O s.heap)(hx:(x,i) ∈ sc.vars)(hv:VRel s.heap O G v y)
  (hQ:∀ s',WF C A sc env (ρ.set i v) G O s'.heap->FS (ta sc env [i]) s s'->VRel s'.heap O G v y->Q () s'):wpAny M A (storeName env x y) Q E s:=by
 obtain⟨m,hm,hr⟩:=F.ns
 have hcc:=F.cli
 by_cases hl:env.kindOf x=some .local
 ·refine wpAny_storeName_local hl hm (fun h' hn hs=>?_) (by rw[F.kind];rfl)
  have hk:∀ b o,¬ fr env b->s.heap.get? b=some o->h'.get? b=some o:=fun b o hb e=>hs.extBut b o (fun q=>hb (.inl q)) e
  have hk2:∀ b o,b ≠ env.locals->s.heap.get? b=some o->h'.get? b=some o:=fun b o hb e=>hs.extBut b o hb e
  have hsq:=VRel.frm (env:=env) (h:=s.heap) (h':=h') (Du hm) (fun z c hz=>let ⟨ov,q⟩:=hcc z c hz;Dm q) hk
  have hcc':∀ z c,(z,c) ∈ env.cells->∃ ov,h'.IsCell c ov:=fun z c hz=>let ⟨ov,q⟩:=hcc z c hz;⟨ov,q.sameBut hs (F.cnl z c hz)⟩
  refine hQ _ ⟨F.kind,F.glob,F.bui,⟨_,hn,fun z j hz hlz=>?_⟩,fun z j hz hlz=>?_,F.celk,F.gl,F.apart,F.cnl,hcc',F.nol,F.noc,F.nbs,F.scnd,F.scinj,F.frs.mono (fun b o es ep e hd hb=>⟨by
    by_cases q:b=env.locals
    ·clear F e hQ hb hcc hcc' hd hk hk2 hl hm hr hs hsq hv hx;subst q;obtain⟨o',es',ep',e',hd',_⟩:=hn;exact⟨o',es',ep',e',hd'⟩
    ·exact⟨o,es,ep,hk2 b o q e,hd⟩,hb⟩),F.top⟩ ⟨⟨h',_,rfl⟩,fun b o hb e=>hk2 b o (fun q=>hb (.inl q)) e,fun b o e=>?_,hs.1⟩ (hv.seqs hsq)
  ·by_cases e:z=x
   ·clear hQ hcc hcc' hk hk2 hl hlz hm hn hr hs;subst e
    have:=F.scnd z i j hx hz
    clear F hx hz;subst this
    right
    exact⟨y,by simp,by rw[Rho.set_self];exact hv.seqs hsq⟩
   ·have hij:j ≠ i:=fun q=>e (F.scinj z x i (q ▸ hz) hx)
    rw[Rho.set_ne hij]
    refine(hr z j hz hlz).imp id fun ⟨w,e1,e2⟩=>⟨w,by simp[e,e1],e2.seqs hsq⟩
  ·refine Ac fun PP ret=>?_
   obtain⟨hkz,c,ov,hc,hcell,hrz⟩:=F.cells z j hz hlz
   have hij:j ≠ i:=fun q=>by
    have:=F.scinj z x i (q ▸ hz) hx
    clear F hQ hc hcc hcc' hcell hk hk2 hkz hm hn hr hrz hs hsq hv hx hz q ret;subst this;exact hlz hl
   refine ret ?_
   refine⟨hkz,c,ov,hc,hcell.sameBut hs (F.cnl z c (PySem.mem_of_lookup hc)),?_⟩
   rw[Rho.set_ne hij]
   exact hrz.imp id fun ⟨w,e1,e2⟩=>⟨w,e1,e2.seqs hsq⟩
  ·by_cases hb:b=env.locals
   ·clear F e hQ hcc hcc' hk hk2 hl hm hr hs hsq hv hx;subst hb;obtain⟨o',_,_,e',_⟩:=hn;exact⟨o',e'⟩
   ·exact⟨o,hk2 _ _ hb e⟩
 ·refine Ac fun PP ret=>?_
  obtain⟨hkx,c,ov,hc,hcell,hrx⟩:=F.cells x i hx hl
  have hmem:=PySem.mem_of_lookup hc
  have hcl:=F.cnl x c hmem
  have fin:∀ h',h'.IsCell c (some y)->Heap.SameBut c s.heap h'->Q () { s with heap:=h' }:=by
   intro h' hcell' hs
   have hk:∀ b o,¬ fr env b->s.heap.get? b=some o->h'.get? b=some o:=fun b o hb e=>hs.extBut b o (fun q=>hb (.inr ⟨x,q ▸ hmem⟩)) e
   have hsq:=VRel.frm (env:=env) (h:=s.heap) (h':=h') (Du hm) (fun z c hz=>let ⟨ov,q⟩:=hcc z c hz;Dm q) hk
   have hcc':∀ z d,(z,d) ∈ env.cells->∃ ov,h'.IsCell d ov:=fun z d hz=>by
    by_cases q:d=c
    ·clear F hQ hc hcc hcell hcl hk hkx hl hm hmem hr hrx hs hsq hv hx hz ret;subst q;exact⟨_,hcell'⟩
    ·obtain⟨ov,q'⟩:=hcc z d hz;exact⟨ov,q'.sameBut hs q⟩
   refine hQ _ ⟨F.kind,F.glob,F.bui,⟨m,hm.sameBut hs (Ne.symm hcl),fun z j hz hlz=>?_⟩,fun z j hz hlz=>?_,F.celk,F.gl,F.apart,F.cnl,hcc',F.nol,F.noc,F.nbs,F.scnd,F.scinj,F.frs.mono (fun b o es ep e hd hb=>⟨⟨o,es,ep,hs.extBut b o (fun q=>by
     subst q;obtain⟨o',e',hd'⟩:=hcell;rw[e']at e;cases e;rw[hd']at hd;cases hd) e,hd⟩,hb⟩),F.top⟩ ⟨⟨h',s.toks,rfl⟩,fun b o hb e=>hs.extBut b o (fun q=>hb (.inr ⟨x,i,hx,by simp,q ▸ hc⟩)) e,fun b o e=>?_,hs.1⟩ (hv.seqs hsq)
   ·have hij:j ≠ i:=fun q=>by
     have:=F.scinj z x i (q ▸ hz) hx
     clear F hQ hc hcc hcc' hcell hcell' hcl hk hkx hm hmem hr hrx hs hsq hv hx hz q ret;subst this;exact hl hlz
    rw[Rho.set_ne hij]
    exact(hr z j hz hlz).imp id fun ⟨w,e1,e2⟩=>⟨w,e1,e2.seqs hsq⟩
   ·obtain⟨hkz,d,ov',hd,hcd,hrz⟩:=F.cells z j hz hlz
    by_cases e:z=x
    ·clear hQ hcc hcc' hcd hcell hcl hk hkx hl hlz hm hmem hr hrx hrz hs ret;subst e
     have:=F.scnd z i j hx hz
     clear F hx hz;subst this
     rw[hc]at hd;obtain rfl:=Option.some.inj hd
     exact⟨hkz,c,_,hc,hcell',.inr ⟨y,rfl,by rw[Rho.set_self];exact hv.seqs hsq⟩⟩
    ·have hij:j ≠ i:=fun q=>e (F.scinj z x i (q ▸ hz) hx)
     have hdc:d ≠ c:=fun q=>e (name_of_addr F.apart (PySem.mem_of_lookup hd) (q ▸ hmem))
     refine⟨hkz,d,ov',hd,hcd.sameBut hs hdc,?_⟩
     rw[Rho.set_ne hij]
     exact hrz.imp id fun ⟨w,e1,e2⟩=>⟨w,e1,e2.seqs hsq⟩
   ·by_cases hb:b=c
    ·clear F e hQ hc hcc hcc' hcell hcl hk hkx hl hm hmem hr hrx hs hsq hv hx ret;subst hb;obtain⟨o',e',_⟩:=hcell';exact⟨o',e'⟩
    ·exact⟨o,hs.extBut _ _ hb e⟩
  refine ret ?_
  rcases hkx with hkx | hkx
  ·exact wpAny_storeName_cell F.kind hkx hc hcell fin
  ·unfold storeName
   rw[hkx,F.kind]
   exact wpAny_bind (wpAny_cellOf hc (wpAny_cellSet hcell fin))
inductive Tgt where
 | one (i:Nat)
 | many (is:List Nat)
noncomputable def Tgt.idx:Tgt->List Nat
 | .one i=>[i]
 | .many is=>is
noncomputable def setMany (ρ:Rho):List Nat->List AV->Rho
 | i :: is,v :: vs=>setMany (ρ.set i v) is vs
 | _,_=>ρ
noncomputable def dJ (H:AH):AV->Option (List AV)
 | .tup vs=>some vs
 | v=>Bf H v
noncomputable def Tgt.put (H:AH):Tgt->AV->Rho->Option Rho
 | .one i,v,ρ=>some (ρ.set i v)
 | .many is,v,ρ=>match dJ H v with
  | some vs=>if vs.length=is.length then some (setMany ρ is vs) else none
  | none=>none
noncomputable def AssignR (C:Cx) (sc:Sc) (t:Expr) (tg:Tgt):Prop :=
 ∀ (k:Nat) (A:Around) (env:Env) (s:Shared) (ρ ρ':Rho) (H:AH) (G:Gh) (O:Addr->Prop) (v:AV) (y:Value) (Q:Unit->Shared->Prop),AOk k A->WF C A sc env ρ G O s.heap->Rel C H G O s.heap->VRel s.heap O G v y->tg.put H v ρ=some ρ' ->
  (∀ s1 s',Kp s s1->FS (ta sc env tg.idx) s1 s'->WF C A sc env ρ' G O s'.heap->Q () s')->wpAny (model C.prog C.w) A (assign t env y) Q (fun z0 z0=>False) s
theorem AssignR.name {x:Str}{p:Pos}{i:Nat}(hx:(x,i) ∈ sc.vars):AssignR C sc (.Name x p) (.one i):=by
 intro k A env s ρ ρ' H G O v y Q hA F R hv hp hQ
 obtain rfl:=Option.some.inj hp
 exact wpAny_assign_Name (Ds F hx hv fun s' F' fs z0=>hQ s s' (.refl' s) fs F')
theorem Oe {prog:Program}{w:World}{A:Around}{I:Addr}{fp wr:List Addr}{n:Nat}{P:Nat->Value->Prop}{St:Nat->Heap->Prop}(W:Walks prog w A I fp wr n P St){E:Value->Shared->Prop} :
  ∀ (m i:Nat) (s:Shared) (Q:List Value->Shared->Prop),St i s.heap->i + m<=n ->
   (∀ vs h' tk,vs.length=m->(∀ j v,vs[j]? = some v->P (i + j) v)->St (i + m) h'->(∀ b o,b ∉ wr->s.heap.get? b=some o->h'.get? b=some o)->Q vs { s with heap:=h',toks:=tk })->wpAny (model prog w) A (draw (.ref I) m) Q E s
 | 0,i,s,Q,hst,_,hQ=>by
  refine(?_:wpAny _ _ (pure []) Q E s)
  exact wpAny_pure (hQ [] s.heap s.toks rfl (fun j v h=>by simp at h) hst fun z0 z0 z0 e=>e)
 | m + 1,i,s,Q,hst,hle,hQ=>by
  refine(?_:wpAny _ _ (pyNext (.ref I) >>= _) Q E s)
  refine wpAny_bind (W.item i s _ _ (by exact Ar.r58 hle) hst fun v h1 tk hP hst1 hk1=>?_)
  refine wpAny_bind (wpAny_holding (Oe W m (i + 1) _ _ hst1 (by exact Ar.r56 hle) fun vs h2 tk2 hl hPs hst2 hk2=>wpAny_pure ?_))
  refine hQ (v :: vs) h2 tk2 (by simp[hl]) (fun j u hj=>?_) (by rw[show i + (m + 1)=i + 1 + m by exact Ar.r4];exact hst2) fun b o hb e=>hk2 b o hb (hk1 b o hb e)
  cases j with
  | zero=>simp at hj;subst hj;exact hP
  | succ j=>have:=hPs j u (by simpa using hj);rwa [show i + (j + 1)=i + 1 + j by exact Ar.r4]
theorem VRels.of_get {h:Heap}:∀ {vs:List AV} {xs:List Value},xs.length=vs.length->(∀ (j:Nat) (x:Value),xs[j]? = some x->∃ v,vs[j]? = some v/\VRel h O G v x)->VRels h O G vs xs
 | [],xs,hl,_=>by simp at hl;subst hl;simp[vSn]
 | v :: vs,[],hl,_=>by simp at hl
 | v :: vs,x :: xs,hl,hg=>by
  obtain⟨v',e,r⟩:=hg 0 x (by simp)
  simp at e;subst e
  refine .cons r (VRels.of_get (by simpa using hl) fun j y hy=>?_)
  simpa using hg (j + 1) y (by simpa using hy)
theorem Lr {k:Nat}{A:Around}{H:AH}{v:AV}{y:Value}{vs:List AV}{Q:List Value->Shared->Prop}(hA:AOk k A)(R:Rel C H G O s.heap)(hv:VRel s.heap O G v y)(hu:dJ H v=some vs)
  (hQ:∀ xs s',VRels s'.heap O G vs xs->Kp s s'->Q xs s'):wpAny (model C.prog C.w) A (unpackItems y vs.length none) Q (fun z0 z0=>False) s:=by
 have core:∀ (a:Addr) (T:String) (id:String),y = .ref a->s.TypeIs (.ref a) T->typeLookup (.type T) "__iter__" = pure (some (.builtin id)) ->
   (∀ Q',(∀ s2 I fp wr P St,(∀ {b o},s.heap.get? b=some o->s2.heap.get? b=some o)->Kp s s2->ItOK C A s s2 O G vs I fp wr [a] P St->Q' (.ref I) s2)->wpAny (model C.prog C.w) A (pyIter (.ref a)) Q' (fun z0 z0=>False) s) ->
   wpAny (model C.prog C.w) A (unpackItems y vs.length none) Q (fun z0 z0=>False) s:=by
  intro a T id hy hT hl hit
  clear R hA hv;subst hy
  unfold unpackItems
  refine wpAny_bind ?_
  unfold notIterableAtAll
  refine wpAny_bind (wpAny_specialOf hT hl ?_)
  refine wpAny_pure ?_
  simp only [Bool.false_eq_true,if_false]
  refine wpAny_bind (wpAny_holding (hit _ fun s2 I fp wr P St z0 k2 ok=>?_))
  refine wpAny_bind (wpAny_holding (Oe ok.W vs.length 0 s2 _ ok.st (by exact Ar.r201) fun xs h' tk hlen hP hst hk=>?_))
  rw[if_neg (by exact Ar.r40 hlen)]
  refine wpAny_bind (wpAny_holding (ok.W.done _ _ _ (by simpa using hst) fun h2 tk2 hk2=>?_))
  simp only [Option.isSome_none,Bool.false_eq_true,if_false]
  have kk:∀ b o,s.heap.get? b=some o->h2.get? b=some o:=fun b o e=>by
   have hb:b ∉ wr:=fun hb=>by rw[(ok.new b hb).1]at e;exact nqa e
   exact hk2 b o hb (hk b o hb (k2.k b o e))
  refine wpAny_pure (hQ xs _ ?_ ?_)
  ·refine VRels.of_get (by simp[hlen]) fun j x hx=>?_
   obtain⟨u,hu,hr⟩:=ok.item _ x (hP j x hx)
   refine⟨u,by simpa using hu,hr.seqs fun b o ys n e hd=>?_⟩
   have hb:b ∉ wr:=fun hb=>ok.wns 0 _ ok.st b hb o e ys n hd
   exact hk2 b o hb (hk b o hb e)
  ·clear hP hQ hT hit hk hk2 hl hlen hst hu ok z0;obtain⟨⟨h0,t0,rfl⟩,_⟩:=k2
   exact⟨⟨h2,tk2,rfl⟩,kk⟩
 cases v with
 | tup ws =>
  refine Ac fun PP ret=>?_
  clear R hQ;obtain rfl:=Option.some.inj hu
  simp only [vRp]at hv
  clear hu;obtain⟨a,n,items,rfl,hg,hO,hz,hr⟩:=hv
  refine ret ?_
  exact core a "tuple" _ rfl ⟨_,hg,rfl⟩ PySem.F.slot_tuple_iter.lookup fun Q' hQ'=>Md hA.1 (.refl' s) hg hr hQ'
 | fl ws =>
  refine Ac fun PP ret=>?_
  clear hQ;obtain⟨a,n,items,rfl,hg,hr,hz⟩:=Ao R hv hu
  refine ret ?_
  exact core a "list" _ rfl ⟨_,hg,rfl⟩ slot_list_iter.lookup fun Q' hQ'=>Ed hA.1 (.refl' s) hg hr hQ'
 | ref a =>
  refine Ac fun PP ret=>?_
  clear hQ;obtain⟨a,n,items,rfl,hg,hr,hz⟩:=Ao R hv hu
  refine ret ?_
  exact core a "list" _ rfl ⟨_,hg,rfl⟩ slot_list_iter.lookup fun Q' hQ'=>Ed hA.1 (.refl' s) hg hr hQ'
 | row a i =>
  refine Ac fun PP ret=>?_
  clear hQ;obtain⟨a,n,items,rfl,hg,hr,hz⟩:=Ao R hv hu
  refine ret ?_
  exact core a "list" _ rfl ⟨_,hg,rfl⟩ slot_list_iter.lookup fun Q' hQ'=>Ed hA.1 (.refl' s) hg hr hQ'
 | _=>exact nqa hu
theorem Rel.fs {H:AH}{s':Shared}(R:Rel C H G O s.heap)(F:WF C A sc env ρ G O s.heap)(fs:FS (fr env) s s'):Rel C H G O s'.heap:=by
 have hfr:∀ b,fr env b->¬ O b:=by
  clear R fs;rintro b (rfl | ⟨x,hx⟩)
  ·exact F.nol
  ·exact F.noc x b hx
 have hsq:=VRel.frm (env:=env) (h:=s.heap) (h':=s'.heap) (by obtain⟨m,hm,_⟩:=F.ns;exact Du hm) (fun z c hz=>let ⟨ov,q⟩:=F.cli z c hz;Dm q) fs.k
 refine⟨R.sub,fun a o ha=>(R.obj a o ha).mono (fun b ob xs n e hd hb=>⟨hsq b ob xs n e hd,hb⟩) fun b ob hb e=>fs.k b ob (fun q=>hfr b q (R.sub b ⟨a,by rw[ha];simp,hb⟩)) e,R.nd,R.dj,fun b o e=>?_,fun b hb=>?_⟩
 ·have:=R.base b o e
  exact⟨fs.k b o (fun q=>by rw[F.nbs b q]at e;exact nqa e) this.1,this.2⟩
 ·obtain⟨o,e⟩:=R.live b hb
  exact fs.l b o e
theorem VRels.fs {s':Shared}{v:List AV}{x:List Value}(r:VRels s.heap O G v x)(F:WF C A sc env ρ G O s.heap)(fs:FS (fr env) s s'):VRels s'.heap O G v x :=
 r.seqs (VRel.frm (env:=env) (h:=s.heap) (h':=s'.heap) (by obtain⟨m,hm,_⟩:=F.ns;exact Du hm) (fun z c hz=>let ⟨ov,q⟩:=F.cli z c hz;Dm q) fs.k)
inductive NamesR (sc:Sc):List Expr->List Nat->Prop
 | nil:NamesR sc [] []
 | cons {x p es i is}:(x,i) ∈ sc.vars->NamesR sc es is->NamesR sc (.Name x p :: es) (i :: is)
theorem NamesR.plain {elts:List Expr}{is:List Nat}(env:Env)(h:NamesR sc elts is):(assignEach elts env).length=is.length/\(assignEach elts env).findIdx? (·.1)=none:=by
 induction h with
 | nil=>exact⟨rfl,rfl⟩
 | @cons x p es i is hx hr ih =>
  have e:assignEach (.Name x p :: es) env=(false,assign (.Name x p) env) :: assignEach es env:=rfl
  rw[e]
  refine⟨by simp[ih.1],?_⟩
  rw[List.findIdx?_cons];simp[ih.2]
theorem Su {k:Nat}{A:Around}(hA:AOk k A){elts:List Expr}{is:List Nat}(hn:NamesR sc elts is):∀ {vs:List AV} {xs:List Value} {ρ:Rho} {s:Shared} {Q:Unit->Shared->Prop},vs.length=is.length->WF C A sc env ρ G O s.heap->VRels s.heap O G vs xs ->
  (∀ s',FS (ta sc env is) s s'->WF C A sc env (setMany ρ is vs) G O s'.heap->Q () s')->wpAny (model C.prog C.w) A (assignInOrder ((assignEach elts env).map (·.2)) xs) Q (fun z0 z0=>False) s:=by
 induction hn with
 | nil =>
  intro vs xs ρ s Q hl F r hQ
  have:vs=[]:=List.eq_nil_of_length_eq_zero (by simpa using hl)
  clear hA hl;subst this
  simp only [vSn]at r;subst r
  exact wpAny_pure (hQ s (.refl _ s) F)
 | @cons x p es i is hx hr ih =>
  intro vs xs ρ s Q hl F r hQ
  clear hA hr;cases vs with
  | nil=>simp at hl
  | cons v vs =>
   simp only [vSc]at r
   obtain⟨y,ys,rfl,r1,r2⟩:=r
   have e:assignEach (.Name x p :: es) env=(false,assign (.Name x p) env) :: assignEach es env:=rfl
   rw[e,List.map_cons]
   refine(?_:wpAny _ _ (do holding ys (assign (.Name x p) env y);assignInOrder ((assignEach es env).map (·.2)) ys) _ _ _)
   refine wpAny_bind (wpAny_holding (wpAny_assign_Name (Ds F hx r1 fun s1 F1 fs1 z0=>?_)))
   exact ih (by simpa using hl) F1 (r2.fs F (fs1.mono fun z0=>Cq)) fun s2 fs2 F2=>hQ s2 ((fs1.mono fun z0=>Xa (by simp)).trans (fs2.mono fun z0=>Xa (by simp +contextual))) F2
theorem AssignR.tuple {elts:List Expr}{i:Nat}{p:Pos}{is:List Nat}(hn:NamesR sc elts is):AssignR C sc (.Tuple elts i p) (.many is):=by
 intro k A env s ρ ρ' H G O v y Q hA F R hv hp hQ
 simp only [Tgt.put]at hp
 set_option tactic.hygienic true in split at hp
 ·rename_i vs hu
  refine Bo hp ?_;clear hp;intro hl hp
  obtain rfl:=Option.some.inj hp
  obtain⟨h1,h2⟩:=hn.plain env
  rw[arm_assign_Tuple]
  refine wpAny_bind (wpAny_standAt ?_)
  unfold unpack
  rw[h1,h2,<- hl]
  refine wpAny_bind (wpAny_holding (Lr hA R hv hu fun xs s1 r k1=>?_))
  exact Su hA hn hl (F.keep k1.k) r fun s2 fs F2=>hQ s1 s2 k1 fs F2
 ·exact nqa hp
end
end Mine
end
section
namespace Mine
section
variable {h h':Heap} {O O':Addr->Prop} {G:Gh}
mutual
theorem VRel.wide (hk:∀ b o xs n,h.get? b=some o->o.data = .seq xs n->¬ O b->h'.get? b=some o/\¬ O' b):∀ {v:AV} {x:Value},VRel h O G v x->VRel h' O' G v x
 | .undef,_,r=>by simp[vRu]at r
 | .none,_,r=>by simpa [vRu,vRn,vRb,vRi,vRs,vRr,vRk,vRt,vRw,vRp,vRf]using r
 | .bool b,_,r=>by simpa [vRu,vRn,vRb,vRi,vRs,vRr,vRk,vRt,vRw,vRp,vRf]using r
 | .int i,_,r=>by simpa [vRu,vRn,vRb,vRi,vRs,vRr,vRk,vRt,vRw,vRp,vRf]using r
 | .str s,_,r=>by simpa [vRu,vRn,vRb,vRi,vRs,vRr,vRk,vRt,vRw,vRp,vRf]using r
 | .ref a,_,r=>by simpa [vRu,vRn,vRb,vRi,vRs,vRr,vRk,vRt,vRw,vRp,vRf]using r
 | .bi a,_,r=>by simpa [vRu,vRn,vRb,vRi,vRs,vRr,vRk,vRt,vRw,vRp,vRf]using r
 | .ty a,_,r=>by simpa [vRu,vRn,vRb,vRi,vRs,vRr,vRk,vRt,vRw,vRp,vRf]using r
 | .row a i,_,r=>by simpa [vRu,vRn,vRb,vRi,vRs,vRr,vRk,vRt,vRw,vRp,vRf]using r
 | .tup vs,x,r=>by
  simp only [vRp]at r ⊢
  refine Ac fun PP ret=>?_
  obtain⟨a,n,items,e,hg,ho,hz,hr⟩:=r
  refine ret ?_
  exact⟨a,n,items,e,(hk a _ _ n hg rfl ho).1,(hk a _ _ n hg rfl ho).2,hz,VRels.wide hk hr⟩
 | .fl vs,x,r=>by
  simp only [vRf]at r ⊢
  refine Ac fun PP ret=>?_
  obtain⟨a,n,items,e,hg,ho,hz,hr⟩:=r
  refine ret ?_
  exact⟨a,n,items,e,(hk a _ _ n hg rfl ho).1,(hk a _ _ n hg rfl ho).2,hz,VRels.wide hk hr⟩
theorem VRels.wide (hk:∀ b o xs n,h.get? b=some o->o.data = .seq xs n->¬ O b->h'.get? b=some o/\¬ O' b):∀ {vs:List AV} {xs:List Value},VRels h O G vs xs->VRels h' O' G vs xs
 | [],xs,r=>by simpa [vSn,vSc]using r
 | v :: vs,xs,r=>by
  simp only [vSc]at r ⊢
  refine Ac fun PP ret=>?_
  obtain⟨x,q,e,h1,h2⟩:=r
  refine ret ?_
  exact⟨x,q,e,VRel.wide hk h1,VRels.wide hk h2⟩
end
structure Shift (C:Cx) (Y:Addr->Prop) (O O':Addr->Prop) (h h':Heap):Prop where
 up:∀ b,O b->O' b
 k:∀ b o,¬ Y b->h.get? b=some o->h'.get? b=some o/\(O' b->O b)
 base:∀ b,Y b->C.h0.get? b=none
 seq:∀ b o xs n,Y b->h.get? b=some o->o.data = .seq xs n->O b
 live:∀ b,O' b->∃ o,h'.get? b=some o
variable {C:Cx} {Y:Addr->Prop} {H:AH} {sc:Sc} {env:Env} {ρ:Rho}
theorem Shift.val (S:Shift C Y O O' h h'){v:AV}{x:Value}(r:VRel h O G v x):VRel h' O' G v x :=
 r.wide fun b o xs n e hd hb=>by
  have hy:¬ Y b:=fun q=>hb (S.seq b o xs n q e hd)
  exact⟨(S.k b o hy e).1,fun q=>hb ((S.k b o hy e).2 q)⟩
theorem Shift.objF (S:Shift C Y O O' h h'){o:FObj}{a:Addr}{g:List Addr}(r:ORelF C h O G o a g)(hy:∀ b,b=a\/b ∈ g->¬ Y b):ORelF C h' O' G o a g :=
 r.mono (fun b o xs n e hd hb=>by
  have hy:¬ Y b:=fun q=>hb (S.seq b o xs n q e hd)
  exact⟨(S.k b o hy e).1,fun q=>hb ((S.k b o hy e).2 q)⟩) fun b ob hb e=>(S.k b ob (hy b hb) e).1
theorem Shift.rel (S:Shift C Y O O' h h')(R:Rel C H G O h)(hy:∀ b,Y b->¬ own H G b):Rel C H G O' h' where
 sub:=fun b hb=>S.up b (R.sub b hb)
 obj:=fun a o ha=>(R.obj a o ha).mono (fun b o xs n e hd hb=>by
  have hy:¬ Y b:=fun q=>hb (S.seq b o xs n q e hd)
  exact⟨(S.k b o hy e).1,fun q=>hb ((S.k b o hy e).2 q)⟩) fun b ob hb e=>(S.k b ob (fun q=>hy b q ⟨a,by rw[ha];simp,hb⟩) e).1
 nd:=R.nd
 dj:=R.dj
 base:=fun b o e=>by
  have hy:¬ Y b:=fun q=>by rw[S.base b q]at e;exact nqa e
  obtain⟨h1,h2⟩:=R.base b o e
  exact⟨(S.k b o hy h1).1,fun q=>h2 ((S.k b o hy h1).2 q)⟩
 live:=S.live
theorem Shift.wf (S:Shift C Y O O' h h')(F:WF C A sc env ρ G O h)(hy:∀ b,Y b->¬ fr env b)(hyf:∀ b,Y b->¬ frA A b):WF C A sc env ρ G O' h' where
 kind:=F.kind
 glob:=F.glob
 bui:=F.bui
 ns:=by
  obtain⟨m,hm,hv⟩:=F.ns
  refine⟨m,hm.at' fun o e=>(S.k _ o (fun q=>hy _ q (.inl rfl)) e).1,fun x i hx hl=>(hv x i hx hl).imp id fun ⟨v,e,r⟩=>⟨v,e,S.val r⟩⟩
 cells:=fun x i hx hl=>by
  refine Ac fun PP ret=>?_
  obtain⟨k,c,ov,e,⟨o,ho,hd⟩,hv⟩:=F.cells x i hx hl
  refine ret ?_
  exact⟨k,c,ov,e,⟨o,(S.k _ o (fun q=>hy _ q (.inr ⟨x,PySem.mem_of_lookup e⟩)) ho).1,hd⟩,hv.imp id fun ⟨v,e,r⟩=>⟨v,e,S.val r⟩⟩
 celk:=F.celk
 gl:=F.gl
 apart:=F.apart
 cnl:=F.cnl
 cli:=fun x c hx=>let ⟨ov,o,ho,hd⟩:=F.cli x c hx;⟨ov,o,(S.k _ o (fun q=>hy _ q (.inr ⟨x,hx⟩)) ho).1,hd⟩
 nol:=fun x=>by obtain⟨m,⟨o,_,_,ho,_⟩,_⟩:=F.ns;exact F.nol ((S.k _ o (fun q=>hy _ q (.inl rfl)) ho).2 x)
 noc:=fun x c hx y=>by obtain⟨ov,o,ho,_⟩:=F.cli x c hx;exact F.noc x c hx ((S.k _ o (fun q=>hy _ q (.inr ⟨x,hx⟩)) ho).2 y)
 nbs:=F.nbs
 scnd:=F.scnd
 scinj:=F.scinj
 frs:=F.frs.mono' fun b hb o es ep e hd hO=>⟨⟨o,es,ep,(S.k b o (fun q=>hyf b q hb) e).1,hd⟩,fun q=>hO ((S.k b o (fun q=>hyf b q hb) e).2 q)⟩
 top:=F.top
end
inductive PostL (C:Cx) (s:Shared) (G:Gh) (O:Addr->Prop) (D:Addr) (g:List Addr) (o':FObj) (x:Value) (s':Shared):Prop
 | mk (g':List Addr) (ob:ORelF C s'.heap (fun b=>O b\/b ∈ g') G o' D g') (nd:(D :: g').Nodup) (new:∀ b ∈ g',b ∈ g\/s.heap.get? b=none) (old:∀ b ∈ g,b ∈ g') (live:∀ b,b=D\/b ∈ g'->∃ ob,s'.heap.get? b=some ob)
   (same:∃ h' tk,s' = { s with heap:=h',toks:=tk }) (kk:∀ b ob,b ≠ D->s.heap.get? b=some ob->s'.heap.get? b=some ob)
noncomputable def EltR (C:Cx) (k:Nat) (sc:Sc) (elt:Expr) (e:Rho->AH->FObj->Option FObj):Prop :=
 ∀ (A:Around) (env:Env) (s:Shared) (ρ:Rho) (H:AH) (G:Gh) (O:Addr->Prop) (D:Addr) (g:List Addr) (o o':FObj),AOk k A->WF C A sc env ρ G O s.heap->Rel C H G O s.heap->¬ own H G D->O D->(∀ b ∈ g,O b/\¬ own H G b)->C.h0.get? D=none->ORelF C s.heap O G o D g->(D :: g).Nodup->e ρ H o=some o' ->
  wpAny (model C.prog C.w) A (eval elt env) (fun x s1=>wpAny (model C.prog C.w) A (call (.builtin "list.append") [.ref D,x]) (PostL C s G O D g o') (fun z0 z0=>False) s1) (fun z0 z0=>False) s
noncomputable def Fx (f:PF):Rho->AH->FObj->Option FObj:=fun ρ H o=>match o,f ρ H with
 | .lst _ ws,some w=>if w.sto=true/\ws.length < lim then some (.lst false (ws++[w])) else none
 | _,_=>none
theorem Kw {prog:Program}{w:World}{A:Around}{E:Value->Shared->Prop}{s:Shared}{l:Addr}{items:List Value}{n:Nat}{x:Value}{Q:Value->Shared->Prop}(hl:s.heap.get? l=some (Bt items n))
  (hz:items.length<=sizeLine)
  (hQ:∀ h' n',h'.get? l=some (Bt (items++[x]) n')->Heap.SameBut l s.heap h'->Q .none { s with heap:=h' }) :
  wpAny (model prog w) A (call (.builtin "list.append") [.ref l,x]) Q E s:=by
 refine wpAny_call_entry slot_list_append (Aj hl).typeIs entry_list_append ?_ (args_list_append _ _)
 refine(?_:wpAny _ _ (updateSeq l (·.push x) >>= fun z0=>ret .none) _ _ s)
 refine wpAny_bind ?_
 refine wpAny_updateSeq hl rfl (wpAny_pure ⟨.none,rfl,hQ _ (n + 1) ?_ (Heap.SameBut.update ..)⟩)
 rw[Heap.get?_update_self _ hl (Obj.isFreed_of_seq (o:=(Bt items n).mapSeq (·.push x)) rfl)]
 simp[Bt,Obj.mapSeq]
section
variable {C:Cx} {k:Nat} {sc:Sc} {f f':PF}
theorem EltR.pure {elt:Expr}(h:PureE C k sc elt f):EltR C k sc elt (Fx f):=by
 intro A env s ρ H G O D g o o' hA F R hDo hD hg hb ho hnd he
 unfold Fx at he
 refine iLX he ?_;clear he;rintro lk ws w rfl hw he
 refine Bo he ?_;clear he;intro hs he
 obtain rfl:=Option.some.inj he
 refine wpAny_mono (h A env s ρ H G O w hA F R hw) (fun x s1 h1=>?_) fun z0 z0 x=>x
 refine Ac fun PP ret=>?_
 obtain⟨rx,⟨h1',t1,rfl⟩,hk⟩:=h1
 obtain⟨rfl,hst,hz,n,items,hl,hr⟩:=ho
 have hlen:=hr.length
 refine ret ?_
 refine Kw (hk _ _ hl) (by have:=Cj;exact Ar.r95 hz hlen this) fun h2 n2 hl2 hs2=>⟨[],?_,by simp,by simp,by simp,fun b hb=>⟨_,by simp at hb;subst hb;exact hl2⟩,⟨_,_,rfl⟩,fun b ob hbD e=>hs2.extBut b ob hbD (hk b ob e)⟩
 have sh:∀ b o xs n,h1'.get? b=some o->o.data = .seq xs n->¬ O b->h2.get? b=some o/\¬ (O b\/b ∈ ([]:List Addr)):=fun b o xs n e hd hOb=>⟨hs2.extBut b o (fun q=>hOb (q ▸ hD)) e,by simpa using hOb⟩
 refine⟨rfl,by rw[stos_iff]at hst ⊢;intro v hv;rcases List.mem_append.mp hv with q | q;exact hst v q;simp at q;subst q;exact hs.1,by simp;lia,n2,_,hl2,?_⟩
 exact((hr.keep hk).wide sh).append (.one (rx.wide sh))
end
end Mine
end
section
namespace Mine
theorem Be:∀ (names:List (Str × NameKind)) (n:Nat) (acc:List (Str × Addr)),cellsFrom n names acc=cellsFrom n names []++acc
 | [],n,acc=>rfl
 | (x,k) :: r,n,acc=>by
  unfold cellsFrom
  set_option tactic.hygienic true in split
  ·rw[Be r (n + 1) ((x,n) :: acc),Be r (n + 1) [(x,n)]];simp
  ·exact Be r n acc
theorem Cl:∀ (names:List (Str × NameKind)) (n:Nat) {x:Str} {c:Addr},(x,c) ∈ cellsFrom n names []->(x,NameKind.cell) ∈ names
 | [],n,x,c,h=>by simp[cellsFrom]at h
 | (y,k) :: r,n,x,c,h=>by
  unfold cellsFrom at h
  set_option tactic.hygienic true in split at h
  ·rename_i hk
   rw[Be]at h
   rcases List.mem_append.mp h with h | h
   ·exact List.mem_cons_of_mem _ (Cl r _ h)
   ·simp at h;obtain⟨rfl,rfl⟩:=h
    have:k = .cell:=by simpa using hk
    clear h hk;subst this;simp
  ·exact List.mem_cons_of_mem _ (Cl r _ h)
theorem Dd:∀ (names:List (Str × NameKind)) (n:Nat) {x:Str},(x,NameKind.cell) ∈ names->∃ c,(x,c) ∈ cellsFrom n names []
 | [],n,x,h=>by simp at h
 | (y,k) :: r,n,x,h=>by
  unfold cellsFrom
  set_option tactic.hygienic true in split
  ·rename_i hk
   rw[Be]
   rcases List.mem_cons.mp h with e | h
   ·clear h hk;cases e;exact⟨n,by simp⟩
   ·obtain⟨c,hc⟩:=Dd r (n + 1) h;exact⟨c,by simp[hc]⟩
  ·rename_i hk
   rcases List.mem_cons.mp h with e | h
   ·clear h;cases e;simp at hk
   ·exact Dd r n h
noncomputable def Ca (env:Env):List (Str × NameKind)->List (Str × Addr)->List (Str × Addr)
 | [],acc=>acc
 | (x,k) :: r,acc=>if k == .free then match env.cells.lookup x with
   | some c=>Ca env r ((x,c) :: acc)
   | none=>Ca env r acc
  else Ca env r acc
theorem Zo {env:Env}{acc:List (Str × Addr)}:Ca env [] acc=acc:=rfl
theorem Oh {env:Env}{x:Str}{k:NameKind}{r:List (Str × NameKind)}{acc:List (Str × Addr)}:Ca env ((x,k) :: r) acc=if k == .free then match env.cells.lookup x with
   | some c=>Ca env r ((x,c) :: acc)
   | none=>Ca env r acc
  else Ca env r acc:=rfl
theorem Cv (env:Env):∀ (names:List (Str × NameKind)) (acc:List (Str × Addr)),Ca env names acc=Ca env names []++acc
 | [],acc=>rfl
 | (x,k) :: r,acc=>by
  rw[Oh,Oh]
  set_option tactic.hygienic true in split
  ·set_option tactic.hygienic true in split
   ·rename_i c _;rw[Cv env r ((x,c) :: acc),Cv env r [(x,c)]];simp
   ·exact Cv env r acc
  ·exact Cv env r acc
theorem Bp (env:Env):∀ (names:List (Str × NameKind)) {x:Str} {c:Addr},(x,c) ∈ Ca env names []->(x,NameKind.free) ∈ names/\env.cells.lookup x=some c
 | [],x,c,h=>by simp[Zo]at h
 | (y,k) :: r,x,c,h=>by
  rw[Oh]at h
  set_option tactic.hygienic true in split at h
  ·rename_i hk
   have:k = .free:=by simpa using hk
   clear hk;subst this
   set_option tactic.hygienic true in split at h
   ·rename_i d hd
    rw[Cv]at h
    rcases List.mem_append.mp h with h | h
    ·exact⟨List.mem_cons_of_mem _ (Bp env r h).1,(Bp env r h).2⟩
    ·simp at h;obtain⟨rfl,rfl⟩:=h;exact⟨by simp,hd⟩
   ·exact⟨List.mem_cons_of_mem _ (Bp env r h).1,(Bp env r h).2⟩
  ·exact⟨List.mem_cons_of_mem _ (Bp env r h).1,(Bp env r h).2⟩
theorem Qu (env:Env):∀ (names:List (Str × NameKind)) {x:Str} {c:Addr},(x,NameKind.free) ∈ names->env.cells.lookup x=some c->(x,c) ∈ Ca env names []
 | [],x,c,h,_=>by simp at h
 | (y,k) :: r,x,c,h,hc=>by
  rw[Oh]
  rcases List.mem_cons.mp h with e | h
  ·clear h;cases e
   simp only [beq_self_eq_true,if_true,hc]
   rw[Cv];simp
  ·have ih:=Qu env r h hc
   set_option tactic.hygienic true in split
   ·set_option tactic.hygienic true in split
    ·rw[Cv];simp[ih]
    ·exact ih
   ·exact ih
theorem Nj {env:Env}{scope:Scope}(hf:∀ x,(x,NameKind.free) ∈ scope.names->∃ c,env.cells.lookup x=some c):closureFor scope env=pure (Ca env scope.names []):=by
 unfold closureFor
 have:∀ (names:List (Str × NameKind)) (acc:List (Str × Addr)),(∀ x,(x,NameKind.free) ∈ names->∃ c,env.cells.lookup x=some c) ->
   (forIn names acc fun (x:Str × NameKind) (r:List (Str × Addr))=>(match x with
    | (name,kind)=>if (kind == NameKind.free)=true then do let a <- cellOf env name;pure (ForInStep.yield ((name,a) :: r)) else pure (ForInStep.yield r):Sem (ForInStep (List (Str × Addr)))))=(pure (Ca env names acc):Sem _):=by
  intro names
  induction names with
  | nil=>intro acc _;simp[Zo]
  | cons p r ih =>
   obtain⟨x,k⟩:=p
   intro acc hf
   rw[List.forIn_cons]
   rw[Oh]
   have ih':=fun acc=>ih acc fun y hy=>hf y (List.mem_cons_of_mem _ hy)
   by_cases hk:(k == NameKind.free)=true
   ·have:k = .free:=by simpa using hk
    clear hk ih;subst this
    obtain⟨c,hc⟩:=hf x (by simp)
    have e:cellOf env x=pure c:=by unfold cellOf;rw[hc]
    simp only [beq_self_eq_true,if_true,hc,e]
    exact ih' _
   ·simp only [hk,if_false]
    exact ih' _
 have h2:=this scope.names [] hf
 simp only [bind_pure_comp]at h2 ⊢
 first
  | (rw[<- h2];rfl)
  | (refine Eq.trans ?_ h2;simp;done)
  | (refine Eq.trans ?_ h2;rfl)
theorem Lw {scope:Scope}{env:Env}(x:Str):(relabel scope env).names.lookup x=(scope.names.lookup x).map fun k=>if (k == .free && env.scope.kind == .function && env.kindOf x == some .cell) then NameKind.cell else k:=by
 unfold relabel
 dsimp only
 generalize scope.names=names
 induction names with
 | nil=>rfl
 | cons p r ih =>
  obtain⟨n,k⟩:=p
  refine(?_:List.lookup x ((if (k == NameKind.free && env.scope.kind == .function && env.kindOf n == some .cell)=true then (n,NameKind.cell) else (n,k)) :: _)=_)
  cases hx:x == n with
  | true =>
   have:x=n:=by simpa using hx
   subst this
   by_cases hc:(k == NameKind.free && env.scope.kind == .function && env.kindOf x == some .cell)=true
   ·rw[if_pos hc];simp only [List.lookup_cons,hx,Option.map_some];rw[if_pos hc]
   ·rw[if_neg hc];simp only [List.lookup_cons,hx,Option.map_some];rw[if_neg hc]
  | false =>
   by_cases hc:(k == NameKind.free && env.scope.kind == .function && env.kindOf n == some .cell)=true
   ·rw[if_pos hc];simp only [List.lookup_cons,hx];exact ih
   ·rw[if_neg hc];simp only [List.lookup_cons,hx];exact ih
theorem Fc {names:List (Str × NameKind)}(hnd:(names.map (·.1)).Nodup){x:Str}{k:NameKind}(h:(x,k) ∈ names):names.lookup x=some k:=by
 induction names with
 | nil=>simp at h
 | cons p r ih =>
  obtain⟨y,j⟩:=p
  simp only [List.map_cons,List.nodup_cons]at hnd
  rw[List.lookup_cons]
  rcases List.mem_cons.mp h with e | h2
  ·clear h hnd ih;cases e;simp
  ·have:(x == y)=false:=by
    simp only [beq_eq_false_iff_ne,ne_eq];clear h ih;rintro rfl
    exact hnd.1 (List.mem_map.mpr ⟨(x,k),h2,rfl⟩)
   rw[this];exact ih hnd.2 h2
theorem Hx {α:Type}(x:Str):∀ (a b:List (Str × α)),(a++b).lookup x=(a.lookup x).or (b.lookup x)
 | [],b=>by simp
 | (y,v) :: r,b=>by
  rw[List.cons_append,List.lookup_cons,List.lookup_cons]
  cases x == y with
  | true=>simp
  | false=>exact Hx x r b
structure CompSc (sc:Sc) (scope:Scope) (sc':Sc) (idx:List Nat):Prop where
 kind:scope.kind = .function
 nd:(scope.names.map (·.1)).Nodup
 vars:∀ x i,(x,i) ∈ sc'.vars->((scope.names.lookup x=some .local\/scope.names.lookup x=some .cell)/\i ∈ idx)\/(scope.names.lookup x=some .free/\(x,i) ∈ sc.vars/\x ∈ sc.cel/\i ∉ idx)
 cel:∀ x,x ∈ sc'.cel->scope.names.lookup x=some .cell\/scope.names.lookup x=some .free
 free:∀ x,(x,NameKind.free) ∈ scope.names->x ∈ sc.cel/\∃ i,(x,i) ∈ sc.vars
 gl:∀ x,x ∈ sc'.globs->scope.names.lookup x=some .globalImplicit
 scnd:∀ x i j,(x,i) ∈ sc'.vars->(x,j) ∈ sc'.vars->i=j
 scinj:∀ x y i,(x,i) ∈ sc'.vars->(y,i) ∈ sc'.vars->x=y
 top:sc'.top=false
noncomputable def Fb {α:Type} [BEq α]:List α->Bool
 | []=>true
 | x :: r=>!r.contains x && Fb r
theorem eD {α:Type}[BEq α]{x:α}{r:List α}:Fb (x :: r)=(!r.contains x && Fb r):=rfl
theorem Dk {α:Type}[BEq α][LawfulBEq α]:∀ {l:List α},Fb l=true->l.Nodup
 | [],_=>by simp
 | x :: r,h=>by
  simp only [eD,Bool.and_eq_true,Bool.not_eq_true',List.contains_eq_mem]at h
  rw[List.nodup_cons]
  exact⟨by simpa using h.1,Dk h.2⟩
noncomputable def scB (sc:Sc):Bool:=Fb (sc.vars.map (·.1)) && Fb (sc.vars.map (·.2))
theorem Pz {α β:Type}{l:List (α × β)}(h:(l.map (·.1)).Nodup){x:α}{i j:β}(hi:(x,i) ∈ l)(hj:(x,j) ∈ l):i=j:=by
 induction l with
 | nil=>simp at hi
 | cons p r ih =>
  simp only [List.map_cons,List.nodup_cons]at h
  rcases List.mem_cons.mp hi with e | hi <;> rcases List.mem_cons.mp hj with e' | hj
  ·rw[<- e]at e';clear e h hi hj ih;cases e';rfl
  ·exact absurd (List.mem_map.mpr ⟨_,hj,by rw[<- e]⟩) h.1
  ·exact absurd (List.mem_map.mpr ⟨_,hi,by rw[<- e']⟩) h.1
  ·exact ih h.2 hi hj
theorem Vf {α β:Type}{l:List (α × β)}(h:(l.map (·.2)).Nodup){x y:α}{i:β}(hi:(x,i) ∈ l)(hj:(y,i) ∈ l):x=y:=by
 induction l with
 | nil=>simp at hi
 | cons p r ih =>
  simp only [List.map_cons,List.nodup_cons]at h
  rcases List.mem_cons.mp hi with e | hi <;> rcases List.mem_cons.mp hj with e' | hj
  ·rw[<- e]at e';clear e h hi hj ih;cases e';rfl
  ·exact absurd (List.mem_map.mpr ⟨_,hj,by rw[<- e]⟩) h.1
  ·exact absurd (List.mem_map.mpr ⟨_,hi,by rw[<- e']⟩) h.1
  ·exact ih h.2 hi hj
theorem Op {sc:Sc}(h:scB sc=true):(∀ x i j,(x,i) ∈ sc.vars->(x,j) ∈ sc.vars->i=j)/\∀ x y i,(x,i) ∈ sc.vars->(y,i) ∈ sc.vars->x=y:=by
 simp only [scB,Bool.and_eq_true]at h
 exact⟨fun x i j=>Pz (Dk h.1),fun x y i=>Vf (Dk h.2)⟩
noncomputable def Ue (sc:Sc) (scope:Scope) (sc':Sc) (idx:List Nat):Bool :=
 Fb (scope.names.map (·.1)) && (sc'.vars.all fun p=>(scope.names.lookup p.1 == some .local || scope.names.lookup p.1 == some .cell) && idx.contains p.2 || scope.names.lookup p.1 == some .free && (sc.vars.contains p && sc.cel.contains p.1 && !idx.contains p.2)) && (sc'.cel.all fun x=>scope.names.lookup x == some .cell || scope.names.lookup x == some .free) && (scope.names.all fun p=>!(p.2 == .free) || sc.cel.contains p.1 && sc.vars.any (·.1 == p.1)) && (sc'.globs.all fun x=>scope.names.lookup x == some .globalImplicit) && scB sc' && !sc'.top
theorem CompSc.of {sc:Sc}{scope:Scope}{sc':Sc}{idx:List Nat}(hk:scope.kind = .function)(h:Ue sc scope sc' idx=true):CompSc sc scope sc' idx:=by
 refine Ac fun PP ret=>?_
 simp only [Ue,Bool.and_eq_true,List.all_eq_true]at h
 obtain⟨⟨⟨⟨⟨⟨h1,h2⟩,h3⟩,h4⟩,h5⟩,h6⟩,h7⟩:=h
 refine ret ?_
 refine⟨hk,Dk h1,fun x i hx=>?_,fun x hx=>?_,fun x hx=>?_,fun x hx=>?_,(Op h6).1,(Op h6).2,by simpa using h7⟩
 ·have:=h2 (x,i) hx
  simp at this
  rcases this with ⟨e,h⟩ | ⟨e,h,q⟩
  ·exact .inl ⟨e,h⟩
  ·exact .inr ⟨e,h.1,h.2,q⟩
 ·have:=h3 x hx
  simpa using this
 ·have:=h4 (x,.free) hx
  simp at this
  exact⟨this.1,this.2⟩
 ·have:=h5 x hx
  simpa using this
noncomputable def Gv (scope:Scope) (env:Env) (L:Addr):Env :=
 { scope:=relabel scope env,locals:=L,globals:=env.globals,cells:=cellsFrom (L + 1) scope.names (Ca env scope.names []),qual:=env.qual,func:=none,code:=env.code,frame:=env.frame,builtins:=env.builtins }
theorem WF.celof {C:Cx}{sc:Sc}{env:Env}{ρ:Rho}{G:Gh}{O:Addr->Prop}{h:Heap}(F:WF C A sc env ρ G O h){x:Str}{i:Nat}(hx:x ∈ sc.cel)(hi:(x,i) ∈ sc.vars):∃ c,env.cells.lookup x=some c:=by
 obtain⟨_,c,_,e,_⟩:=F.cells x i hi (F.celk x hx)
 exact⟨c,e⟩
theorem cE {C:Cx}{sc sc':Sc}{idx:List Nat}{scope:Scope}{env:Env}{ρ:Rho}{G:Gh}{O:Addr->Prop}{h h':Heap}(F:WF C A sc env ρ G O h)(hsc:CompSc sc scope sc' idx)(hO:∀ b,O b->b < h.objs.size)
  (hb:∀ b o,C.h0.get? b=some o->b < h.objs.size)
  (hk:∀ b o,h.get? b=some o->h'.get? b=some o) (hL:h'.Ns h.objs.size fun z0=>none) (hc:CellsOk h' (h.objs.size + 1) (cellsFrom (h.objs.size + 1) scope.names [])) :
  WF C A sc' (Gv scope env h.objs.size) (fun j=>if j ∈ idx then .undef else ρ j) G O h':=by
 have hcl:∀ x c,(x,c) ∈ Ca env scope.names []->∃ i ov,(x,i) ∈ sc.vars/\x ∈ sc.cel/\env.cells.lookup x=some c/\h.IsCell c ov:=by
  intro x c hx
  obtain⟨h1,h2⟩:=Bp env _ hx
  obtain⟨h3,i,hi⟩:=hsc.free x h1
  obtain⟨_,c',ov,e,hcell,_⟩:=F.cells x i hi (F.celk x h3)
  rw[h2]at e;clear F h1 hL hO hb hc hk hsc hx left right;obtain rfl:=Option.some.inj e
  exact⟨i,ov,hi,h3,h2,hcell⟩
 have hce:(Gv scope env h.objs.size).cells=cellsFrom (h.objs.size + 1) scope.names []++Ca env scope.names []:=Be _ _ _
 have hko:∀ x,(Gv scope env h.objs.size).kindOf x=(scope.names.lookup x).map fun k=>if (k == .free && env.scope.kind == .function && env.kindOf x == some .cell) then NameKind.cell else k:=fun x=>Lw x
 have hlt:∀ x c,(x,c) ∈ Ca env scope.names []->c < h.objs.size:=fun x c hx=>let ⟨_,ov,_,_,_,hcell⟩:=hcl x c hx;hcell.lt
 have apartC:(Ca env scope.names []).Pairwise fun x y=>x.2 ≠ y.2:=by
  have hnd:=hsc.nd
  have:∀ names:List (Str × NameKind),(∀ p ∈ names,p ∈ scope.names)->(names.map (·.1)).Nodup->(Ca env names []).Pairwise fun x y=>x.2 ≠ y.2:=by
   intro names
   induction names with
   | nil=>intro _ _;simp[Zo]
   | cons p r ih =>
    obtain⟨x,k⟩:=p
    intro hsub hn
    simp only [List.map_cons,List.nodup_cons]at hn
    have ih':=ih (fun q hq=>hsub q (List.mem_cons_of_mem _ hq)) hn.2
    rw[Oh]
    set_option tactic.hygienic true in split
    ·rename_i hkk
     set_option tactic.hygienic true in split
     ·rename_i c hcx
      rw[Cv,List.pairwise_append]
      refine⟨ih',by simp,fun q hq z hz=>?_⟩
      simp at hz;clear hL hO hb hc hce hcl hk hkk hko hlt hnd hsc hsub ih ih';subst hz
      obtain⟨y,d⟩:=q
      dsimp only
      rintro rfl
      obtain⟨q1,q2⟩:=Bp env _ hq
      have:=name_of_addr F.apart (PySem.mem_of_lookup q2) (PySem.mem_of_lookup hcx)
      subst this
      exact hn.1 (List.mem_map.mpr ⟨_,q1,rfl⟩)
     ·exact ih'
    ·exact ih'
  exact this scope.names (fun z0 x=>x) hnd
 have hcl1:∀ x c,(x,c) ∈ (Gv scope env h.objs.size).cells->(h'.IsCell c none/\h.objs.size + 1<=c/\(x,NameKind.cell) ∈ scope.names)\/((x,c) ∈ Ca env scope.names []):=fun x c hx=>by
  rw[hce]at hx
  rcases List.mem_append.mp hx with q | q
  ·exact .inl ⟨(hc.empty x c q).1,(hc.empty x c q).2,Cl _ _ q⟩
  ·exact .inr q
 refine⟨hsc.kind,F.glob,F.bui,⟨_,hL,fun x i hx hl=>?_⟩,fun x i hx hl=>?_,fun x hx=>?_,fun x hx=>?_,?_,fun x c hx=>?_,fun x c hx=>?_,fun q=>Nat.lt_irrefl _ (hO _ q),fun x c hx q=>?_,fun b hb'=>?_,hsc.scnd,hsc.scinj,F.frs.keep hk,fun q=>by rw[hsc.top]at q;exact nqd q⟩
 ·rcases hsc.vars x i hx with ⟨_,hi⟩ | ⟨hf,_,hcx,_⟩
  ·left;simp[hi]
  ·exfalso
   rw[hko,hf]at hl
   simp only [Option.map_some]at hl
   set_option tactic.hygienic true in split at hl <;> cases hl
 ·rcases hsc.vars x i hx with ⟨hkx,hi⟩ | ⟨hf,hi,hcx,hni⟩
  ·have:scope.names.lookup x=some .cell:=by
    rcases hkx with q | q
    ·exfalso;apply hl;rw[hko,q];rfl
    ·exact q
   obtain⟨c,hcm⟩:=Dd scope.names (h.objs.size + 1) (PySem.mem_of_lookup this)
   obtain⟨c',hc'⟩:=Bw hcm
   refine⟨.inl (by rw[hko,this];rfl),c',none,?_,(hc.empty x c' (PySem.mem_of_lookup hc')).1,.inl (by simp[hi])⟩
   rw[hce,Hx,hc'];rfl
  ·refine Ac fun PP ret=>?_
   obtain⟨hk',c,ov,e,hcell,hv⟩:=F.cells x i hi (F.celk x hcx)
   refine ret ?_
   refine⟨?_,c,ov,?_,hcell.keeps hk,?_⟩
   ·rw[hko,hf]
    simp only [Option.map_some]
    set_option tactic.hygienic true in split
    ·exact .inl rfl
    ·exact .inr rfl
   ·rw[hce,Hx]
    have h1:(cellsFrom (h.objs.size + 1) scope.names []).lookup x=none:=by
     clear F apartC e hL hO hb hc hce hcell hcl hcl1 hcx hi hk hk' hko hl hlt hni hv hx ret;cases q:(cellsFrom (h.objs.size + 1) scope.names []).lookup x with
     | none=>rfl
     | some d =>
      have:=Fc hsc.nd (Cl _ _ (PySem.mem_of_lookup q))
      rw[hf]at this;cases this
    rw[h1]
    obtain⟨d,hd⟩:=Bw (Qu env scope.names (PySem.mem_of_lookup hf) e)
    rw[hd]
    obtain⟨_,hd'⟩:=Bp env _ (PySem.mem_of_lookup hd)
    rw[e]at hd';clear F apartC e h1 hL hO hb hc hce hcell hcl hcl1 hcx hd hf hi hk hk' hko hl hlt hni hsc hv hx left ret;obtain rfl:=Option.some.inj hd';rfl
   ·simp only [hni,if_false]
    exact hv.imp id fun ⟨v,e1,r⟩=>⟨v,e1,r.keep hk⟩
 ·rw[hko]
  rcases hsc.cel x hx with q | q
  ·rw[q];simp only [Option.map_some];intro e;set_option tactic.hygienic true in split at e <;> cases e
  ·rw[q];simp only [Option.map_some];intro e;set_option tactic.hygienic true in split at e <;> cases e
 ·rw[hko,hsc.gl x hx];rfl
 ·rw[hce,List.pairwise_append]
  refine⟨hc.apart,apartC,fun p hp q hq=>?_⟩
  have h1:=(hc.empty p.1 p.2 hp).2
  have h2:=hlt q.1 q.2 hq
  intro e;rw[e]at h1;exact absurd h2 (Nat.not_lt.mpr (Nat.le_of_succ_le h1))
 ·rcases hcl1 x c hx with q | q
  ·intro e;have e':c=h.objs.size:=e;have:=q.2.1;rw[e']at this;exact Nat.not_succ_le_self _ this
  ·intro e;have e':c=h.objs.size:=e;have:=hlt x c q;rw[e']at this;exact Nat.lt_irrefl _ this
 ·rcases hcl1 x c hx with q | q
  ·exact⟨none,q.1⟩
  ·refine Ac fun PP ret=>?_
   obtain⟨_,ov,_,_,_,hcell⟩:=hcl x c q
   refine ret ?_
   exact⟨ov,hcell.keeps hk⟩
 ·rcases hcl1 x c hx with q' | q'
  ·exact absurd (hO c q) (Nat.not_lt.mpr (Nat.le_of_succ_le q'.2.1))
  ·refine Ac fun PP ret=>?_
   obtain⟨_,ov,_,_,e,hcell⟩:=hcl x c q'
   refine ret ?_
   exact F.noc x c (PySem.mem_of_lookup e) q
 ·clear apartC hL hO hc hce hk hko hlt hsc;cases e:C.h0.get? b with
  | none=>rfl
  | some o =>
   exfalso
   have hlt':=hb b o e
   rcases hb' with rfl | ⟨x,hx⟩
   ·exact Nat.lt_irrefl _ hlt'
   ·rcases hcl1 x b hx with q | q
    ·exact absurd hlt' (Nat.not_lt.mpr (Nat.le_of_succ_le q.2.1))
    ·refine Ac fun PP ret=>?_
     obtain⟨_,ov,_,_,e',_⟩:=hcl x b q
     refine ret ?_
     rw[F.nbs b (.inr ⟨x,PySem.mem_of_lookup e'⟩)]at e;exact nqa e
end Mine
end
section
namespace Mine
noncomputable def TestsE (C:Cx) (k:Nat) (sc:Sc) (ifs:List Expr) (c:CF):Prop :=
 ∀ (A:Around) (env:Env) (s:Shared) (ρ:Rho) (H:AH) (G:Gh) (O:Addr->Prop) (b:Bool),AOk k A->WF C A sc env ρ G O s.heap->Rel C H G O s.heap->c ρ H=some b ->
  wpAny (model C.prog C.w) A (forIn ifs true fun c r=>if r=true then do let ok <- isTrue c env (eval c env);pure (ForInStep.yield ok) else pure (ForInStep.yield r)) (fun ok s'=>ok=b/\Kp s s') (fun z0 z0=>False) s
noncomputable def ttC:CF:=fun z0 z0=>some true
section
variable {C:Cx} {k:Nat} {sc:Sc} {f f':PF}
theorem TestsE.nil:TestsE C k sc [] ttC:=by
 intro A env s ρ H G O b hA F R h;obtain rfl:=Option.some.inj h
 exact wpAny_tests_nil ⟨rfl,.refl' s⟩
theorem TestsE.one {e:Expr}{c:CF}(h:TestE C k sc e c):TestsE C k sc [e] c:=by
 intro A env s ρ H G O b hA F R hb
 exact wpAny_tests_one (h A env s ρ H G O b hA F R hb)
end
noncomputable abbrev EF:=Rho->AH->FObj->Option FObj
noncomputable def Bx (tg:Tgt) (c:CF) (e:EF) (ρ:Rho) (H:AH):FObj->List AV->Option FObj
 | o,[]=>some o
 | o,v :: r=>match tg.put H v ρ with
  | some ρ'=>match c ρ' H with
   | some true=>match e ρ' H o with
    | some o'=>Bx tg c e ρ H o' r
    | none=>none
   | some false=>Bx tg c e ρ H o r
   | none=>none
  | none=>none
theorem iF {tg:Tgt}{c:CF}{e:EF}{ρ:Rho}{H:AH}{o:FObj}:Bx tg c e ρ H o []=some o:=rfl
theorem fN {tg:Tgt}{c:CF}{e:EF}{ρ:Rho}{H:AH}{o:FObj}{v:AV}{r:List AV}:Bx tg c e ρ H o (v :: r)=match tg.put H v ρ with
  | some ρ'=>match c ρ' H with
   | some true=>match e ρ' H o with
    | some o'=>Bx tg c e ρ H o' r
    | none=>none
   | some false=>Bx tg c e ρ H o r
   | none=>none
  | none=>none:=rfl
noncomputable def Fr (fs:LF) (tg:Tgt) (c:CF) (e:EF) (init:FObj):Rho->AH->Option FObj:=fun ρ H=>match fs ρ H with
 | some vs=>Bx tg c e ρ H init vs
 | none=>none
theorem Hj:∀ (is:List Nat) (vs:List AV) (ρ ρ1:Rho),vs.length=is.length->(∀ j,j ∉ is->ρ1 j=ρ j)->setMany ρ1 is vs=setMany ρ is vs
 | [],[],ρ,ρ1,_,h=>by funext j;exact h j (by simp)
 | [],_ :: _,_,_,h,_=>by simp at h
 | _ :: _,[],_,_,h,_=>by simp at h
 | i :: is,v :: vs,ρ,ρ1,hl,h=>by
  refine Hj is vs _ _ (by simpa using hl) fun j hj=>?_
  by_cases e:j=i
  ·clear h hj hl;subst e;simp
  ·rw[Rho.set_ne e,Rho.set_ne e];exact h j (by simp[e,hj])
theorem Tgt.put_agree {H:AH}{tg:Tgt}{v:AV}{ρ ρ1 ρ':Rho}(h:∀ j,j ∉ tg.idx->ρ1 j=ρ j)(hp:tg.put H v ρ=some ρ'):tg.put H v ρ1=some ρ':=by
 cases tg with
 | one i =>
  simp only [Tgt.put,Option.some.injEq]at hp ⊢
  subst hp
  funext j
  by_cases e:j=i
  ·clear h;subst e;simp
  ·rw[Rho.set_ne e,Rho.set_ne e];exact h j (by simp[Tgt.idx,e])
 | many is =>
  simp only [Tgt.put]at hp ⊢
  set_option tactic.hygienic true in split at hp
  ·rename_i vs hu
   refine Bo hp ?_;clear hp;intro hl hp
   clear hu;obtain rfl:=Option.some.inj hp
   simp only [hl,if_true,Option.some.injEq]
   exact Hj is vs ρ ρ1 hl h
  ·exact nqa hp
theorem Kj:∀ (is:List Nat) (vs:List AV) (ρ:Rho) (j:Nat),j ∉ is->setMany ρ is vs j=ρ j
 | [],vs,ρ,j,_=>by cases vs <;> rfl
 | i :: is,[],ρ,j,_=>rfl
 | i :: is,v :: vs,ρ,j,h=>by
  exact(Kj is vs _ j (by simp at h;exact h.2)).trans (Rho.set_ne (by simp at h;exact h.1))
theorem Tgt.put_off {H:AH}{tg:Tgt}{v:AV}{ρ ρ':Rho}(hp:tg.put H v ρ=some ρ')(j:Nat)(hj:j ∉ tg.idx):ρ' j=ρ j:=by
 cases tg with
 | one i=>simp only [Tgt.put,Option.some.injEq]at hp;subst hp;exact Rho.set_ne (by simpa [Tgt.idx]using hj)
 | many is =>
  simp only [Tgt.put]at hp
  set_option tactic.hygienic true in split at hp
  ·refine Bo hp ?_;clear hp;intro q1 hp
   obtain rfl:=Option.some.inj hp;exact Kj _ _ _ _ hj
  ·exact nqa hp
structure Made (C:Cx) (O:Addr->Prop) (G:Gh) (o:FObj) (s:Shared) (D:Addr) (g:List Addr) (s':Shared):Prop where
 obj:ORelF C s'.heap (fun b=>O b\/b=D\/b ∈ g) G o D g
 nd:(D :: g).Nodup
 new:∀ b,b=D\/b ∈ g->s.heap.get? b=none/\∃ ob,s'.heap.get? b=some ob
 kp:Kp s s'
section
variable {C:Cx} {k:Nat} {sc sc':Sc}
theorem Ob {P Q:Prop}(h:P):if true=true then P else Q:=h
theorem Oc {P Q:Prop}(h:Q):if false=true then P else Q:=h
theorem Fd {tg:Tgt}{c:CF}{e:EF}{H:AH}{ρ ρ1:Rho}(h:∀ j,j ∉ tg.idx->ρ1 j=ρ j):∀ {vs:List AV} {o o':FObj},Bx tg c e ρ H o vs=some o'->Bx tg c e ρ1 H o vs=some o'
 | [],o,o',q=>q
 | v :: vs,o,o',q=>by
  rw[fN]at q ⊢
  cases p:tg.put H v ρ with
  | none=>rw[p]at q;exact nqa q
  | some ρ' =>
   rw[p]at q
   rw[Tgt.put_agree h p]
   dsimp only at q ⊢
   cases hc:c ρ' H with
   | none=>rw[hc]at q;exact nqa q
   | some b =>
    rw[hc]at q
    cases b with
    | true =>
     dsimp only at q ⊢
     cases he:e ρ' H o with
     | none=>rw[he]at q;exact nqa q
     | some o2=>rw[he]at q;exact Fd h q
    | false=>exact Fd h q
end
end Mine
end
section
namespace Mine
noncomputable def Sx (e0:Expr) (d:Nat) (target:Expr) (ifs:List Expr) (p:Pos) (tail:Value->Env->Sem Unit):Prop:=∀ it acc env,compTurn e0 d it acc env=(do
   standAt p
   match <- pyNext it with
   | none=>pure (.done .next)
   | some v =>
    letOwnedTupleGo target it v
    assign target env v
    let mut ok:=true
    for c in ifs do
     if ok then ok <- isTrue c env (eval c env)
    if ok then tail acc env
    again (.compLoop e0 d it acc env))
theorem Mo {prog:Program}{w:World}{A:Around}{s:Shared}{R:Result->Shared->Prop}{elt:Expr}{gens:List Comprehension}{scope:Scope}{pos:Pos}{target:Expr}{d:Nat}{ifs:List Expr}{p:Pos}{tail:Value->Env->Sem Unit}{it acc:Value}{env:Env}(tn:Sx (.ListComp elt gens scope pos) d target ifs p tail)(I:Nat->Shared->Prop)
  (turn:∀ n s,I n s->wpAny (model prog w) A (pyNext it) (fun r s₁=>match r with
   | none=>R (.ok .next) s₁
   | some v=>wpAny (model prog w) A (letOwnedTupleGo target it v) (fun z0 s₁'=>wpAny (model prog w) A (assign target env v) (fun z0 s₂ =>
     wpAny (model prog w) A (forIn ifs true fun c r=>if r=true then do let ok <- isTrue c env (eval c env);pure (ForInStep.yield ok) else pure (ForInStep.yield r)) (fun ok s₃ =>
      if ok=true then wpAny (model prog w) A (tail acc env) (fun z0 s₅=>∃ m,m < n/\I m s₅) (fun z0 z0=>False) s₃
      else ∃ m,m < n/\I m s₃) (fun z0 z0=>False) s₂) (fun z0 z0=>False) s₁') (fun z0 z0=>False) s₁) (fun z0 z0=>False) s)
  (n:Nat) (h:I n s):codeAny (model prog w) A (.compLoop (.ListComp elt gens scope pos) d it acc env) R s:=by
 refine codeAny_loop rfl I (fun n s hI=>?_) n h
 refine(?_:wpAny _ A ((compTurn (.ListComp elt gens scope pos) d it acc env).onRaise (fun x=>do noteFrame x env;theTreesLotGoes x)) _ _ s)
 refine wpAny_noted ?_
 rw[tn it acc env]
 refine wpAny_bind (wpAny_standAt (wpAny_bind (wpAny_mono (turn n s hI) (fun r s₁ h₁=>?_) fun z0 z0 h'=>h'.elim)))
 cases r with
 | none=>exact wpAny_pure h₁
 | some v =>
  refine wpAny_bind (wpAny_mono h₁ (fun z0 s₁' h₁'=>?_) fun z0 z0 h'=>h'.elim)
  refine wpAny_bind (wpAny_mono h₁' (fun z0 s₂ h₂=>wpAny_bind (wpAny_mono h₂ (fun ok s₃ h₃=>?_) fun z0 z0 h'=>h'.elim)) fun z0 z0 h'=>h'.elim)
  cases ok with
  | false=>exact wpAny_pure ⟨rfl,h₃⟩
  | true=>exact wpAny_bind (wpAny_mono h₃ (fun z0 s₅ h₅=>wpAny_pure ⟨rfl,h₅⟩) fun z0 z0 h'=>h'.elim)
section
variable {C:Cx} {A:Around} {sc:Sc} {env:Env} {ρ:Rho} {G:Gh}
theorem WF.noseq {O:Addr->Prop}{h:Heap}(F:WF C A sc env ρ G O h){b:Addr}{o:Obj}{xs n}(e:h.get? b=some o)(hd:o.data = .seq xs n):¬ fr env b:=by
 rintro(rfl | ⟨x,hx⟩)
 ·obtain⟨m,hm,_⟩:=F.ns;exact Du hm o e xs n hd
 ·obtain⟨ov,hc⟩:=F.cli x b hx;exact Dm hc o e xs n hd
theorem WF.frlive {O:Addr->Prop}{h:Heap}(F:WF C A sc env ρ G O h){b:Addr}(hb:fr env b):∃ o,h.get? b=some o:=by
 rcases hb with rfl | ⟨x,hx⟩
 ·obtain⟨m,⟨o,_,_,e,_⟩,_⟩:=F.ns;exact⟨o,e⟩
 ·obtain⟨ov,o,e,_⟩:=F.cli x b hx;exact⟨o,e⟩
end
section
variable (C:Cx) (k:Nat) (sc':Sc)
noncomputable abbrev Og (O:Addr->Prop) (g:List Addr):Addr->Prop:=fun b=>O b\/b ∈ g
inductive PostT (A:Around) (env:Env) (s:Shared) (ρ:Rho) (H:AH) (G:Gh) (O:Addr->Prop) (D:Addr) (g:List Addr) (is:List Nat) (o':FObj) (s':Shared):Prop
 | mk (g':List Addr) (F:WF C A sc' env ρ G (Og O g') s'.heap) (R:Rel C H G (Og O g') s'.heap) (ob:ORelF C s'.heap (Og O g') G o' D g') (nd:(D :: g').Nodup) (new:∀ b ∈ g',b ∈ g\/s.heap.get? b=none) (old:∀ b ∈ g,b ∈ g')
   (same:∃ h' tk,s' = { s with heap:=h',toks:=tk }) (kk:∀ b ob,b ≠ D->¬ ta sc' env is b->s.heap.get? b=some ob->s'.heap.get? b=some ob)
noncomputable def TailR (tail:Value->Env->Sem Unit) (is:List Nat) (e:EF):Prop :=
 ∀ (A:Around) (env:Env) (s:Shared) (ρ:Rho) (H:AH) (G:Gh) (O:Addr->Prop) (D:Addr) (g:List Addr) (o o':FObj),AOk k A->WF C A sc' env ρ G O s.heap->Rel C H G O s.heap->¬ own H G D->O D->(∀ b ∈ g,O b/\¬ own H G b)->C.h0.get? D=none->¬ frA A D->ORelF C s.heap O G o D g->(D :: g).Nodup->(∀ j ∈ is,ρ j = .undef)->e ρ H o=some o' ->
  wpAny (model C.prog C.w) A (tail (.ref D) env) (fun z0 s'=>PostT C sc' A env s ρ H G O D g is o' s') (fun z0 z0=>False) s
end
section
variable {C:Cx} {k:Nat} {sc sc':Sc}
theorem TailR.elt {elt:Expr}{e:EF}(he:EltR C k sc' elt e):TailR C k sc' (fun acc env=>do let z0 <- call (.builtin "list.append") [acc,<- eval elt env]) [] e:=by
 intro A env s ρ H G O D g o o' hA F R hDo hDO hg hDb hDA ho hnd hun heo
 refine wpAny_bind (wpAny_mono (he A env s ρ H G O D g o o' hA F R hDo hDO hg hDb ho hnd heo) (fun x s4 h4=>wpAny_bind (wpAny_mono h4 (fun z0 s5 h5=>wpAny_pure ?_) fun z0 z0 x=>x)) fun z0 z0 x=>x)
 obtain⟨g',hob,hnd',hnew,hold,hlive,hsame,hkk⟩:=h5
 have hnf:¬ fr env D:=fun q=>by
  rcases q with rfl | ⟨x,hx⟩
  ·exact F.nol hDO
  ·exact F.noc x D hx hDO
 have S:Shift C (· = D) O (Og O g') s.heap s5.heap:=by
  refine⟨fun b hb=>.inl hb,fun b ob hb e=>⟨hkk b ob hb e,fun hq=>?_⟩,fun b hb=>hb ▸ hDb,fun b ob xs n hb e hd=>hb ▸ hDO,fun b hb=>?_⟩
  ·rcases hq with q | q
   ·exact q
   ·rcases hnew b q with q' | q'
    ·exact(hg b q').1
    ·rw[q']at e;exact nqa e
  ·by_cases hbD:b=D
   ·exact hlive b (.inl hbD)
   ·rcases hb with q | q
    ·obtain⟨ob,e⟩:=R.live b q;exact⟨ob,hkk b ob hbD e⟩
    ·exact hlive b (.inr q)
 exact⟨g',S.wf F (fun b hb=>hb ▸ hnf) (fun b hb=>hb ▸ hDA),S.rel R (fun b hb=>hb ▸ hDo),hob,hnd',hnew,hold,hsame,fun b ob hb z0 e=>hkk b ob hb e⟩
inductive CK (C:Cx) (A:Around) (sc':Sc) (cenv:Env) (ti all:List Nat) (ρ:Rho) (H:AH) (G:Gh) (O:Addr->Prop) (D:Addr) (sB:Shared) (g0 wr:List Addr) (oi:FObj) (t:Shared):Prop
 | mk (ρi:Rho) (g:List Addr) (same:∃ h' tk,t={ sB with heap:=h',toks:=tk }) (kp:∀ b ob,b ∉ wr->b ≠ D->¬ ta sc' cenv all b->sB.heap.get? b=some ob->t.heap.get? b=some ob) (F:WF C A sc' cenv ρi G (Og O g) t.heap) (ag:∀ j,j ∉ ti->ρi j=ρ j)
   (R:Rel C H G (Og O g) t.heap) (ob:ORelF C t.heap (Og O g) G oi D g) (nd:(D :: g).Nodup) (hg:∀ b ∈ g,b ∈ g0\/sB.heap.get? b=none) (old:∀ b ∈ g0,b ∈ g)
structure Wk (C:Cx) (A:Around) (cenv:Env) (sB:Shared) (O:Addr->Prop) (G:Gh) (D:Addr) (vs:List AV) (I:Addr) (fp wr:List Addr) (P:Nat->Value->Prop) (St:Nat->Heap->Prop):Prop where
 W:Walks C.prog C.w A I fp wr vs.length P St
 st:St 0 sB.heap
 wl:∀ i h,St i h->∀ b ∈ wr,∃ o vs,h.get? b=some o/\o.data = .fields vs
 item:∀ i x,P i x->∃ v,vs[i]? = some v/\VRel sB.heap O G v x
 tup:∀ i (s:Shared) target v (Q:Unit->Shared->Prop) (E:Value->Shared->Prop),St i s.heap->Q () s->wpAny (model C.prog C.w) A (letOwnedTupleGo target (.ref I) v) Q E s
 wrO:∀ b ∈ wr,¬ O b
 wrf:∀ b ∈ wr,¬ fr cenv b
 wrA:∀ b ∈ wr,¬ frA A b
 wrb:∀ b ∈ wr,C.h0.get? b=none
 fpt:∀ b ∈ fp,¬ fr cenv b/\b ≠ D
theorem Wb {elt:Expr}{gens:List Comprehension}{scope:Scope}{pos:Pos}{target:Expr}{d:Nat}{ifs:List Expr}{p:Pos}{tail:Value->Env->Sem Unit}{tg:Tgt}{is all:List Nat}{c:CF}{e:EF}(tn:Sx (.ListComp elt gens scope pos) d target ifs p tail)(ht:AssignR C sc' target tg)(hc:TestsE C k sc' ifs c)(hT:TailR C k sc' tail is e)(hdj:∀ j ∈ is,j ∉ tg.idx)
  (ha1:∀ b env,ta sc' env tg.idx b->ta sc' env all b) (ha2:∀ b env,ta sc' env is b->ta sc' env all b)
  {A:Around} {cenv:Env} {sB:Shared} {ρ:Rho} {H:AH} {G:Gh} {O:Addr->Prop} {D I:Addr} {g0 fp wr:List Addr} {vs:List AV} {P:Nat->Value->Prop} {St:Nat->Heap->Prop} {oi0 o:FObj} {R:Result->Shared->Prop}
  (hA:AOk k A) (K:Wk C A cenv sB O G D vs I fp wr P St) (F0:WF C A sc' cenv ρ G O sB.heap) (R0:Rel C H G O sB.heap) (hDO:O D) (hDo:¬ own H G D) (hDb:C.h0.get? D=none) (hDA:¬ frA A D)
  (hg0:∀ b ∈ g0,O b/\¬ own H G b) (ob0:ORelF C sB.heap O G oi0 D g0) (nd0:(D :: g0).Nodup) (hun:∀ j ∈ is,ρ j = .undef) (hgo0:Bx tg c e ρ H oi0 vs=some o)
  (hR:∀ t,CK C A sc' cenv tg.idx all ρ H G O D sB g0 wr o t->R (.ok .next) t):codeAny (model C.prog C.w) A (.compLoop (.ListComp elt gens scope pos) d (.ref I) (.ref D) cenv) R sB:=by
 have eOg:∀ g,(∀ b ∈ g,O b)->Og O g=O:=fun g hg=>by
  funext b;apply propext;exact⟨fun q=>q.elim id (hg b),.inl⟩
 have wns:∀ i h,St i h->∀ b ∈ wr,∀ o,h.get? b=some o->∀ xs n,o.data ≠ .seq xs n:=fun i h st b hb o e xs n q=>by
  obtain⟨o',vs,e',hd⟩:=K.wl i h st b hb
  rw[e']at e;obtain rfl:=Option.some.inj e;rw[hd]at q;cases q
 have wrB:∀ b ∈ wr,sB.heap.get? b ≠ none:=fun b hb q=>by
  obtain⟨o',vs,e',hd⟩:=K.wl 0 _ K.st b hb
  rw[q]at e';exact nqa e'
 have ownB:∀ b,own H G b->sB.heap.get? b ≠ none:=fun b hb q=>by
  obtain⟨ob,e⟩:=R0.live b (R0.sub b hb)
  rw[q]at e;exact nqa e
 have gO:∀ g:List Addr,(∀ b ∈ g,b ∈ g0\/sB.heap.get? b=none)->∀ b ∈ g,b ∉ wr/\¬ own H G b:=fun g hg b hb=>by
  rcases hg b hb with q | q
  ·exact⟨fun z=>K.wrO b z (hg0 b q).1,(hg0 b q).2⟩
  ·exact⟨fun z=>wrB b z q,fun z=>ownB b z q⟩
 have hshift:∀ i (g:List Addr) (t:Shared) h',St i t.heap->(∀ b ∈ g,b ∈ g0\/sB.heap.get? b=none)->Rel C H G (Og O g) t.heap->(∀ b ob,b ∉ wr->t.heap.get? b=some ob->h'.get? b=some ob)->Shift C (· ∈ wr) (Og O g) (Og O g) t.heap h':=by
  intro i g t h' st hg Rt hk
  refine⟨fun z0 x=>x,fun b ob hb e=>⟨hk b ob hb e,fun x=>x⟩,fun b hb=>K.wrb b hb,fun b ob xs n hb e hd=>absurd hd (wns i _ st b hb ob e xs n),fun b hb=>?_⟩
  obtain⟨ob,e⟩:=Rt.live b hb
  exact⟨ob,hk b ob (fun q=>hb.elim (K.wrO b q) fun z=>(gO g hg b z).1 q) e⟩
 have hwrown:∀ b,b ∈ wr->¬ own H G b:=fun b hb q=>K.wrO b hb (R0.sub b q)
 have hwrD:∀ g:List Addr,(∀ b ∈ g,b ∈ g0\/sB.heap.get? b=none)->∀ b,b=D\/b ∈ g->b ∉ wr:=fun g hg b hb q=>hb.elim (fun z=>K.wrO b q (z ▸ hDO)) fun z=>(gO g hg b z).1 q
 refine Mo tn (fun n t=>∃ i oi,n=vs.length - i/\i<=vs.length/\CK C A sc' cenv tg.idx all ρ H G O D sB g0 wr oi t/\St i t.heap/\Bx tg c e ρ H oi (vs.drop i)=some o) (fun n t hI=>?_) vs.length ⟨0,oi0,by simp,by simp,⟨ρ,g0,⟨_,_,rfl⟩,fun b ob z0 z0 z0 e=>e,by rw[eOg g0 fun b hb=>(hg0 b hb).1];exact F0,fun z0 z0=>rfl,by rw[eOg g0 fun b hb=>(hg0 b hb).1];exact R0,by rw[eOg g0 fun b hb=>(hg0 b hb).1];exact ob0,nd0,fun b hb=>.inl hb,fun b hb=>hb⟩,K.st,by simpa using hgo0⟩
 refine Ac fun PP ret=>?_
 obtain⟨i,oi,rfl,hi,⟨ρi,g,⟨h',tk,rfl⟩,hkp,Fi,hag,Ri,hoi,hnd,hg,hold⟩,st,hgo⟩:=hI
 rcases Nat.lt_or_ge i vs.length with hlt | hge
 ·refine ret (K.W.item i _ _ _ hlt st fun v h5 tk5 hP st5 hk5=>?_)
  dsimp only at hk5 ⊢
  refine Ac fun PP ret=>?_
  have S5:=hshift i g { sB with heap:=h',toks:=tk } h5 st hg Ri hk5
  have F5:=S5.wf Fi K.wrf K.wrA
  have R5:=S5.rel Ri hwrown
  have ho5:=S5.objF hoi (hwrD g hg)
  obtain⟨u,hu,hru⟩:=K.item i v hP
  have hdrop:vs.drop i=u :: vs.drop (i + 1):=by
   obtain⟨hlt',e⟩:=List.getElem?_eq_some_iff.mp hu
   rw[List.drop_eq_getElem_cons hlt',e]
  rw[hdrop]at hgo
  replace hgo:(match tg.put H u ρ with
   | some ρ'=>match c ρ' H with
    | some true=>match e ρ' H oi with
     | some o'=>Bx tg c e ρ H o' (vs.drop (i + 1))
     | none=>none
    | some false=>Bx tg c e ρ H oi (vs.drop (i + 1))
    | none=>none
   | none=>none)=some o:=hgo
  have ru5:VRel h5 (Og O g) G u v:=hru.wide fun b o' xs n e hd hb=>by
   have hbw:b ∉ wr:=fun q=>wns 0 _ K.st b q o' e xs n hd
   refine⟨hk5 b o' hbw (hkp b o' hbw (fun q=>hb (q ▸ hDO)) (fun q=>F0.noseq e hd (Cq q)) e),fun q=>q.elim hb fun z=>?_⟩
   rcases hg b z with q | q
   ·exact hb (hg0 b q).1
   ·rw[q]at e;exact nqa e
  refine ret (K.tup (i + 1) _ _ _ _ _ st5 ?_)
  refine Ac fun PP ret=>?_
  refine eQ hgo ?_;clear hgo;intro ρ' hput hgo
  have hput':=Tgt.put_agree (ρ1:=ρi) hag hput
  refine ret (ht k A cenv { sB with heap:=h5,toks:=tk5 } ρi ρ' H G (Og O g) u v _ hA F5 R5 ru5 hput' fun s6 s7 k6 fs7 F7=>?_)
  refine Ac fun PP ret=>?_
  have F6:=F5.keep k6.k
  have R6:=R5.keep k6.k
  have fs7':FS (fr cenv) s6 s7:=fs7.mono fun z0=>Cq
  have R7:=R6.fs F6 fs7'
  have k57:∀ b ob,¬ ta sc' cenv all b->h5.get? b=some ob->s7.heap.get? b=some ob:=fun b ob hb e=>fs7.k b ob (fun q=>hb (ha1 b cenv q)) (k6.k b ob e)
  have noframe:∀ b,b=D\/b ∈ g->¬ fr cenv b:=by
   intro b hb q
   have hO:Og O g b:=hb.elim (fun x=>.inl (x ▸ hDO)) .inr
   rcases q with rfl | ⟨x,hx⟩
   ·exact F6.nol hO
   ·exact F6.noc x b hx hO
  have ho7:ORelF C s7.heap (Og O g) G oi D g:=by
   have hsq:=VRel.frm (env:=cenv) (h:=s6.heap) (h':=s7.heap) (by obtain⟨m,hm,_⟩:=F6.ns;exact Du hm) (fun z d hz=>let ⟨ov,q⟩:=F6.cli z d hz;Dm q) fs7'.k
   have ho6:ORelF C s6.heap (Og O g) G oi D g:=ho5.mono (fun b ob xs n e z0 hb=>⟨k6.k b ob e,hb⟩) fun b ob z0 e=>k6.k b ob e
   exact ho6.mono (fun b ob xs n e hd hb=>⟨hsq b ob xs n e hd,hb⟩) fun b ob hb e=>fs7'.k b ob (noframe b hb) e
  have st7:St (i + 1) s7.heap:=K.W.frame _ _ _ st5 fun b hb ob e=>k57 b ob (fun q=>(K.fpt b hb).1 (Cq q)) e
  have hkp7:∀ b ob,b ∉ wr->b ≠ D->¬ ta sc' cenv all b->sB.heap.get? b=some ob->s7.heap.get? b=some ob:=fun b ob hb hb2 hb3 e=>k57 b ob hb3 (hk5 b ob hb (hkp b ob hb hb2 hb3 e))
  have same7:∃ h' tk,s7={ sB with heap:=h',toks:=tk }:=Bb (Bb ⟨h5,tk5,rfl⟩ k6.same) fs7.same
  have hag7:∀ j,j ∉ tg.idx->ρ' j=ρ j:=fun j hj=>Tgt.put_off hput j hj
  set_option tactic.hygienic true in split at hgo
  ·rename_i hcv
   refine ret (wpAny_mono (hc A cenv s7 ρ' H G (Og O g) true hA F7 R7 hcv) (fun okb s8 h8=>?_) fun z0 z0 x=>x)
   obtain⟨rfl,k8⟩:=h8
   refine Ob ?_
   refine Ac fun PP ret=>?_
   refine eS hgo ?_;clear hgo;intro o' heo hgo
   have F8:=F7.keep k8.k
   have R8:=R7.keep k8.k
   have ho8:ORelF C s8.heap (Og O g) G oi D g:=ho7.mono (fun b ob xs n e z0 hb=>⟨k8.k b ob e,hb⟩) fun b ob z0 e=>k8.k b ob e
   refine ret (wpAny_mono (hT A cenv s8 ρ' H G (Og O g) D g oi o' hA F8 R8 hDo (.inl hDO) (fun b hb=>⟨.inr hb,(gO g hg b hb).2⟩) hDb hDA ho8 hnd (fun j hj=>(hag7 j (hdj j hj)).trans (hun j hj)) heo) (fun z0 s10 h10=>?_) fun z0 z0 x=>x)
   refine Ac fun PP ret=>?_
   obtain⟨g',F10,R10,hob,hnd',hnew,hold',hsame,hkk⟩:=h10
   have eO:Og (Og O g) g' = Og O g':=by
    funext b;apply propext
    exact⟨fun q=>q.elim (fun q=>q.elim .inl fun z=>.inr (hold' b z)) .inr,fun q=>q.elim (fun z=>.inl (.inl z)) .inr⟩
   rw[eO]at F10 R10 hob
   refine ret ⟨vs.length - (i + 1),by exact Ar.r193 hlt,i + 1,o',rfl,hlt,⟨ρ',g',Bb (Bb same7 k8.same) hsame,fun b ob hb hb2 hb3 e=>hkk b ob hb2 (fun q=>hb3 (ha2 b cenv q)) (k8.k b ob (hkp7 b ob hb hb2 hb3 e)),F10,hag7,R10,hob,hnd',fun b hb=>?_,fun b hb=>hold' b (hold b hb)⟩,K.W.frame _ _ _ st7 fun b hb ob e=>hkk b ob (K.fpt b hb).2 (fun q=>(K.fpt b hb).1 (Cq q)) (k8.k b ob e),hgo⟩
   rcases hnew b hb with q | q
   ·exact hg b q
   ·by_cases hw:b ∈ wr
    ·obtain⟨ob,_,e,_⟩:=K.wl _ _ st7 b hw
     rw[k8.k b ob e]at q;exact nqb q
    ·cases e:sB.heap.get? b with
     | none=>exact .inr rfl
     | some ob =>
      exfalso
      by_cases hd:b=D
      ·obtain⟨ob',e'⟩:=R8.live D (.inl hDO)
       rw[hd,e']at q;exact nqb q
      ·by_cases hta:ta sc' cenv all b
       ·obtain⟨ob',e'⟩:=F8.frlive (Cq hta)
        rw[e']at q;exact nqb q
       ·rw[k8.k b ob (hkp7 b ob hw hd hta e)]at q;exact nqb q
  ·rename_i hcv
   refine ret (wpAny_mono (hc A cenv s7 ρ' H G (Og O g) false hA F7 R7 hcv) (fun okb s8 h8=>?_) fun z0 z0 x=>x)
   obtain⟨rfl,k8⟩:=h8
   refine Oc ?_
   exact⟨vs.length - (i + 1),by exact Ar.r193 hlt,i + 1,oi,rfl,hlt,⟨ρ',g,Bb same7 k8.same,fun b ob hb hb2 hb3 e=>k8.k b ob (hkp7 b ob hb hb2 hb3 e),F7.keep k8.k,hag7,R7.keep k8.k,ho7.mono (fun b ob xs n e z0 hb=>⟨k8.k b ob e,hb⟩) fun b ob z0 e=>k8.k b ob e,hnd,hg,hold⟩,K.W.frame _ _ _ st7 fun b hb ob e=>k8.k b ob e,hgo⟩
  ·exact nqa hgo
 ·have:i=vs.length:=Nat.le_antisymm hi hge
  rw[this,List.drop_length]at hgo
  rw[this]at st
  rw[Option.some.inj hgo]at hoi
  refine ret (this ▸ K.W.done _ _ _ st fun h5 tk5 hk5=>?_)
  have S5:=hshift _ g { sB with heap:=h',toks:=tk } h5 st hg Ri hk5
  exact hR _ ⟨ρi,g,⟨_,_,rfl⟩,fun b ob hb hb2 hb3 e=>hk5 b ob hb (hkp b ob hb hb2 hb3 e),S5.wf Fi K.wrf K.wrA,hag,S5.rel Ri hwrown,S5.objF hoi (hwrD g hg),hnd,hg,hold⟩
end
end Mine
end
section
namespace Mine
noncomputable def und (is:List Nat) (ρ:Rho):Rho:=fun j=>if j ∈ is then .undef else ρ j
noncomputable def CompR (C:Cx) (k:Nat) (sc:Sc) (E:Expr) (scope:Scope) (iter:Expr) (f:Rho->AH->Option FObj):Prop :=
 ∀ (p2:Pos) (A:Around) (env:Env) (s:Shared) (ρ:Rho) (H:AH) (G:Gh) (O:Addr->Prop) (o:FObj),AOk k A->WF C A sc env ρ G O s.heap->Rel C H G O s.heap->f ρ H=some o->∀ (use:Option (Value->Sem Unit)) (Q:Value->Shared->Prop),
  (∀ D g L m s',Made C O G o s D g s'->s'.heap.Ns L m->s.heap.get? L=none->L ≠ D->L ∉ g->compPost (model C.prog C.w) A (fun z0 z0=>False) use Q (.ref D) L (.ok .next) s') ->
  wpAny (model C.prog C.w) A (comprehension E scope env p2 (newList []) false (eval iter env) use) Q (fun z0 z0=>False) s
section
variable {C:Cx} {k:Nat} {sc sc':Sc}
structure CSet (C:Cx) (A:Around) (sc':Sc) (cenv:Env) (s sB:Shared) (ρ:Rho) (H:AH) (G:Gh) (O:Addr->Prop) (D L I:Addr) (is:List Nat) (vs:List AV) (fp wr cs:List Addr) (P:Nat->Value->Prop) (St:Nat->Heap->Prop) (Z:Heap->Addr->Prop):Prop where
 K:Wk C A cenv sB (fun b=>O b\/b=D) G D vs I fp wr P St
 F:WF C A sc' cenv (und is ρ) G (fun b=>O b\/b=D) sB.heap
 R:Rel C H G (fun b=>O b\/b=D) sB.heap
 k:Kp s sB
 hD:sB.heap.get? D=some (Bt [] 0)
 nD:s.heap.get? D=none
 nL:s.heap.get? L=none
 LD:L ≠ D
 lo:cenv.locals=L
 nta:∀ b,ta sc' cenv is b->s.heap.get? b=none
 nwr:∀ b ∈ wr,s.heap.get? b=none
 hDo:¬ own H G D
 hDb:C.h0.get? D=none
 hDA:¬ frA A D
 cont:∀ b ∈ fp,b ∈ wr\/b ∈ cs
 hcs:∀ b ∈ cs,∃ h2:Heap,(∀ x ob,h2.get? x=some ob->sB.heap.get? x=some ob)/\Z h2 b
theorem Qt {elt target iter:Expr}{ifs:List Expr}{gs:List Comprehension}{scope:Scope}{pos p2:Pos}{is:List Nat}{A:Around}{env:Env}{s:Shared}{ρ:Rho}{H:AH}{G:Gh}{O:Addr->Prop}{vs:List AV}{Z:Heap->Addr->Prop}{use:Option (Value->Sem Unit)}{Q:Value->Shared->Prop}(F:WF C A sc env ρ G O s.heap)(R:Rel C H G O s.heap)
  (hit:wpAny (model C.prog C.w) A (eval iter env) (fun x s1=>wpAny (model C.prog C.w) A (pyIter x) (PostI C A s O G vs Z) (fun z0 z0=>False) s1) (fun z0 z0=>False) s) (hZ:∀ h b,Z h b->∃ v,Kf h H G O b\/(H b ≠ none/\v=AV.ref b)\/∃ a i,H a ≠ none/\(G a)[i]? = some b/\v=AV.row a i)
  (hsc:CompSc sc scope sc' is) (hsi:∀ env x,foldedSetIterable iter env x=pure x)
  (h:∀ D L I cenv sB fp wr cs P St,CSet C A sc' cenv s sB ρ H G O D L I is vs fp wr cs P St Z->codeAny (model C.prog C.w) A (.compLoop (.ListComp elt (⟨target,iter,ifs,0⟩ :: gs) scope pos) 0 (.ref I) (.ref D) cenv) (compPost (model C.prog C.w) A (fun z0 z0=>False) use Q (.ref D) L) sB) :
  wpAny (model C.prog C.w) A (comprehension (.ListComp elt (⟨target,iter,ifs,0⟩ :: gs) scope pos) scope env p2 (newList []) false (eval iter env) use) Q (fun z0 z0=>False) s:=by
 have hclo:closureFor scope env=pure (Ca env scope.names []):=Nj fun x hx=>by
  obtain⟨h1,i,h2⟩:=hsc.free x hx
  exact F.celof h1 h2
 refine wpAny_comprehension_free (g:=⟨target,iter,ifs,0⟩) (gs:=gs) rfl (hsi env) hclo hsc.kind (fun x hx hl=>by rw[<- hl];exact Fc hsc.nd hx) ?_
 refine wpAny_mono hit (fun xv s1 h1=>?_) fun z0 z0 x=>x
 refine wpAny_mono h1 (fun it s2 h2=>?_) fun z0 z0 x=>x
 obtain⟨k2,hz,I,fp,wr,cs,P,St,rfl,ok,hcs⟩:=h2
 have F2:=F.keep k2.k
 have R2:=R.keep k2.k
 refine wpAny_newObj_type ?_
 generalize hD:s2.heap.objs.size=D
 have hh3:∃ h3:Heap,h3=s2.heap.push { cls:=.type "list",dict:=none,data:=.seq ([]:List Value).toArray }:=⟨_,rfl⟩
 obtain⟨h3,hh3⟩:=hh3
 rw[<- hh3]
 have hsz3:h3.objs.size=D + 1:=by rw[hh3,Heap.size_push,hD]
 have k3:∀ b ob,s2.heap.get? b=some ob->h3.get? b=some ob:=fun b ob e=>by rw[hh3];exact Heap.get?_push_of_some _ e
 have hD3:h3.get? D=some (Bt [] 0):=by rw[hh3,<- hD];exact Heap.get?_push_size _ rfl
 have none2:∀ b,D<=b->s2.heap.get? b=none:=fun b hb=>by
  cases e:s2.heap.get? b with
  | none=>rfl
  | some o'=>exact absurd (Heap.lt_size e) (Nat.not_lt.mpr (hD ▸ hb))
 have none1:∀ b,s2.heap.get? b=none->s.heap.get? b=none:=fun b hb=>by
  cases e:s.heap.get? b with
  | none=>rfl
  | some o'=>rw[k2.k b o' e]at hb;exact nqb hb
 simp only [newFunctionEnv,Option.isSome_some,if_true]
 refine wpAny_bind (wpAny_alloc ?_)
 refine wpAny_bind (wpAny_layCells _ (fun name kind cells=>by cases hkc:kind == NameKind.cell <;> simp[hkc]) _ _ _ _ ?_)
 rw[List.forIn_nil]
 refine wpAny_bind (wpAny_pure (wpAny_pure ?_))
 have okc:=cellsFrom_ok scope.names (h3.push { cls:=.type "dict",data:=.dict #[] }) (h3.objs.size + 1) [] ⟨fun z0 z0 hm=>(nomatch hm),List.Pairwise.nil⟩ (by rw[Heap.size_push];exact Nat.le_refl _)
 rw[Heap.size_push]at okc
 dsimp only
 rw[Heap.size_push]
 generalize hL:h3.objs.size=L at okc ⊢
 have hLD:L=D + 1:=by rw[<- hL];exact hsz3
 generalize hh4:pushCells (h3.push { cls:=.type "dict",data:=.dict #[] }) scope.names=h4 at okc ⊢
 have k4:∀ b ob,h3.get? b=some ob->h4.get? b=some ob:=fun b ob e=>by rw[<- hh4];exact pushCells_keeps _ _ b ob (Heap.get?_push_of_some _ e)
 have k24:∀ b ob,s2.heap.get? b=some ob->h4.get? b=some ob:=fun b ob e=>k4 b ob (k3 b ob e)
 have nsL:h4.Ns L fun z0=>none:=by
  rw[<- hh4,<- hL];exact(Heap.Ns.new h3 (.type "dict")).keeps (pushCells_keeps _ _)
 refine(?_:codeAny _ _ (.compStart _ 0 _ _ (Gv scope env L)) _ _)
 generalize hcenv:Gv scope env L=cenv
 have hcl:cenv.locals=L:=by rw[<- hcenv];rfl
 let O1:Addr->Prop:=fun b=>O b\/b=D
 have hOlt:∀ b,O b->∃ ob,s2.heap.get? b=some ob:=fun b hb=>let ⟨ob,e⟩:=R2.live b hb;⟨ob,e⟩
 have O1n:∀ b ob,s2.heap.get? b=some ob->O1 b->O b:=by
  intro b ob e hb
  rcases hb with q | q
  ·exact q
  ·rw[q,none2 D (Nat.le_refl _)]at e;exact nqa e
 have F4:WF C A sc' cenv (und (is) ρ) G O1 h4:=by
  have F3:WF C A sc env ρ G O1 h3:=F2.keepO (fun x i hx v r=>r.wide fun b o' xs n e hd hb=>⟨k3 b o' e,fun q=>hb (O1n b o' e q)⟩) k3 fun b ob e hb=>O1n b ob e hb
  rw[<- hcenv]
  rw[<- hL]at nsL okc ⊢
  refine cE F3 hsc (fun b hb=>?_) (fun b ob e=>?_) k4 nsL okc
  ·rcases hb with q | q
   ·obtain⟨ob,e⟩:=hOlt b q;exact Heap.lt_size (k3 b ob e)
   ·exact Heap.lt_size (q ▸ hD3)
  ·exact Heap.lt_size (k3 b ob (R2.base b ob e).1)
 have R4:Rel C H G O1 h4:=R2.keepO k24 (fun b hb=>.inl hb) (fun b ob e hb=>O1n b ob e hb) fun b hb=>by
  rcases hb with q | q
  ·obtain⟨ob,e⟩:=hOlt b q;exact⟨ob,k24 b ob e⟩
  ·exact⟨_,k4 _ _ (q ▸ hD3)⟩
 have hfr:∀ b,fr cenv b->s2.heap.get? b=none\/fr env b:=by
  intro b hb
  rcases hb with rfl | ⟨x,hx⟩
  ·left;exact none2 _ (by rw[hcl,hLD];exact Nat.le_succ _)
  ·rw[<- hcenv]at hx
   have hx':(x,b) ∈ cellsFrom (L + 1) scope.names (Ca env scope.names []):=hx
   rw[Be]at hx'
   rcases List.mem_append.mp hx' with q | q
   ·left;refine none2 _ (Nat.le_trans ?_ (okc.empty x b q).2);rw[hLD];exact Ar.r203
   ·exact .inr (.inr ⟨x,PySem.mem_of_lookup (Bp env _ q).2⟩)
 have hta:∀ b,ta sc' cenv (is) b->s2.heap.get? b=none:=by
  intro b hb
  rcases hb with rfl | ⟨x,i,hx,hi,e⟩
  ·exact none2 _ (by rw[hcl,hLD];exact Nat.le_succ _)
  ·rw[<- hcenv]at e
   have e':(cellsFrom (L + 1) scope.names (Ca env scope.names [])).lookup x=some b:=e
   rw[Be]at e'
   have hm:=PySem.mem_of_lookup e'
   rcases List.mem_append.mp hm with q | q
   ·refine none2 _ (Nat.le_trans ?_ (okc.empty x b q).2);rw[hLD];exact Ar.r203
   ·exfalso
    have hf:=Fc hsc.nd (Bp env _ q).1
    rcases hsc.vars x i hx with ⟨h1,_⟩ | ⟨_,_,_,h1⟩
    ·rcases h1 with h1 | h1 <;> (rw[hf]at h1;cases h1)
    ·exact h1 hi
 have hwr2:∀ b ∈ wr,s2.heap.get? b ≠ none:=fun b hb q=>by
  obtain⟨ob,e⟩:=(ok.new b hb).2
  rw[q]at e;exact nqa e
 have hfp2:∀ b ∈ fp,s2.heap.get? b ≠ none:=fun b hb q=>by
  rcases ok.cont b hb with h' | h'
  ·exact hwr2 b h' q
  ·obtain⟨ob,e⟩:=ok.csl b h';rw[q]at e;exact nqa e
 have hDo:¬ own H G D:=fun q=>by
  obtain⟨ob,e⟩:=hOlt D (R2.sub D q)
  rw[none2 D (Nat.le_refl _)]at e;exact nqa e
 have hbase:∀ b,s.heap.get? b=none->C.h0.get? b=none:=fun b hb=>by
  cases e:C.h0.get? b with
  | none=>rfl
  | some ob=>rw[(R.base b ob e).1]at hb;exact nqb hb
 have hDA:¬ frA A D:=fun q=>by
  obtain⟨_,o,_,_,e,_⟩:=F.frs.live q
  rw[none1 D (none2 D (Nat.le_refl _))]at e;exact nqa e
 have own':∀ b,own H G b->¬ fr env b:=fun b q z=>by
  have hO:=R2.sub b q
  rcases z with rfl | ⟨x,hx⟩
  ·exact F2.nol hO
  ·exact F2.noc x b hx hO
 have K:Wk C A cenv { s2 with heap:=h4 } O1 G D vs I fp wr P St:=by
  refine⟨ok.W,ok.W.frame 0 _ _ ok.st fun b hb ob e=>k24 b ob e,ok.wl,fun i x hP=>?_,ok.tup,fun b hb q=>?_,fun b hb q=>?_,fun b hb q=>?_,fun b hb=>hbase b (ok.new b hb).1,fun b hb=>⟨fun q=>?_,fun q=>hfp2 b hb (q ▸ none2 D (Nat.le_refl _))⟩⟩
  ·obtain⟨v,hv,r⟩:=ok.item i x hP
   exact⟨v,hv,r.wide fun b o' xs n e hd hb=>⟨k24 b o' e,fun q=>hb (O1n b o' e q)⟩⟩
  ·rcases q with q | q
   ·obtain⟨ob,e⟩:=R.live b q;rw[(ok.new b hb).1]at e;exact nqa e
   ·exact hwr2 b hb (q ▸ none2 D (Nat.le_refl _))
  ·rcases hfr b q with h' | h'
   ·exact hwr2 b hb h'
   ·obtain⟨ob,e⟩:=F.frlive h';rw[(ok.new b hb).1]at e;exact nqa e
  ·obtain⟨_,o,_,_,e,_⟩:=F.frs.live q
   rw[(ok.new b hb).1]at e;exact nqa e
  ·rcases hfr b q with h' | h'
   ·exact hfp2 b hb h'
   ·rcases ok.cont b hb with z | z
    ·obtain⟨ob,e⟩:=F.frlive h';rw[(ok.new b z).1]at e;exact nqa e
    ·obtain⟨v,hv⟩:=hZ _ _ (hcs b z)
     rcases hv with (⟨hnO,o1,xs,n,e1,hd⟩ | ⟨a,o1,ha,hl,hba⟩) | ⟨hne,_⟩ | ⟨a,i,hne,hi,_⟩
     ·exact F2.noseq e1 hd h'
     ·exact own' b ⟨a,by rw[ha];exact nofun,hba⟩ h'
     ·exact own' b ⟨b,hne,.inl rfl⟩ h'
     ·exact own' b ⟨a,hne,.inr (List.mem_of_getElem? hi)⟩ h'
 have CS:CSet C A sc' cenv s { s2 with heap:=h4 } ρ H G O D L I is vs fp wr cs P St Z:=⟨K,F4,R4,k2.trans' ⟨⟨_,_,rfl⟩,k24⟩,k4 _ _ hD3,none1 D (none2 D (Nat.le_refl _)),none1 L (none2 L (by rw[hLD];exact Nat.le_succ _)),by rw[hLD];exact Nat.succ_ne_self D,hcl,fun b hb=>none1 b (hta b hb),fun b hb=>(ok.new b hb).1,hDo,hbase D (none1 D (none2 D (Nat.le_refl _))),hDA,ok.cont,fun b hb=>⟨s2.heap,k24,hcs b hb⟩⟩
 exact codeAny_compStart_list (h D L I cenv _ fp wr cs P St CS) (ok.W.self 0 _ _ _ (ok.W.frame 0 _ _ ok.st fun b hb ob e=>k24 b ob e) (h D L I cenv _ fp wr cs P St CS))
theorem CompR.gen {elt target iter:Expr}{ifs:List Expr}{gs:List Comprehension}{scope:Scope}{pos:Pos}{fs:LF}{tg:Tgt}{is2:List Nat}{c:CF}{e:EF}{init:FObj}{tail:Value->Env->Sem Unit}(tn:Sx (.ListComp elt (⟨target,iter,ifs,0⟩ :: gs) scope pos) 0 target ifs iter.pos tail)(hit:IterE C k sc iter fs)(hsc:CompSc sc scope sc' (tg.idx++is2))(hsi:∀ env x,foldedSetIterable iter env x=pure x)
  (ht:AssignR C sc' target tg) (hc:TestsE C k sc' ifs c) (hT:TailR C k sc' tail is2 e) (hdj:∀ j ∈ is2,j ∉ tg.idx) (hinit:init = .lst false []\/init = .mat false []) :
  CompR C k sc (.ListComp elt (⟨target,iter,ifs,0⟩ :: gs) scope pos) scope iter fun ρ H=>(fs ρ H).bind fun vs=>Bx tg c e (und (tg.idx++is2) ρ) H init vs:=by
 intro p2 A env s ρ H G O o hA F R ho use Q hQ
 obtain⟨vs,hvs,ho⟩:=Option.bind_eq_some_iff.mp ho
 refine Qt F R (hit A env s ρ H G O vs hA F R hvs) (fun h b z=>z) hsc hsi fun D L I cenv sB fp wr cs P St CS=>?_
 have ob0:ORelF C sB.heap (fun b=>O b\/b=D) G init D []:=by
  rcases hinit with rfl | rfl
  ·exact⟨rfl,rfl,Nat.zero_le _,0,[],CS.hD,.nil⟩
  ·exact⟨⟨0,CS.hD⟩,rfl,Nat.zero_le _,fun i vs b h=>by simp at h⟩
 have tam:∀ (is js:List Nat),(∀ j ∈ is,j ∈ js)->∀ b env,ta sc' env is b->ta sc' env js b:=fun is js h b env q=>q.imp id fun ⟨x,i,hx,hi,e⟩=>⟨x,i,hx,h i hi,e⟩
 refine Wb (p:=iter.pos) (all:=tg.idx++is2) (is:=is2) tn ht hc hT hdj (tam _ _ fun j hj=>List.mem_append_left _ hj) (tam _ _ fun j hj=>List.mem_append_right _ hj) hA CS.K CS.F CS.R (.inr rfl) CS.hDo CS.hDb CS.hDA (fun b hb=>absurd hb List.not_mem_nil) ob0 (by simp) (fun j hj=>if_pos (List.mem_append_right _ hj)) ho fun t ht=>?_
 obtain⟨ρi,g,same,kp,Fi,ag,Ri,ob,nd,hg,old⟩:=ht
 have eO:Og (fun b=>O b\/b=D) g=fun b=>O b\/b=D\/b ∈ g:=by
  funext b;apply propext;exact or_assoc
 have hg2:∀ b ∈ g,s.heap.get? b=none:=fun b hb=>by
  rcases hg b hb with q | q
  ·exact absurd q List.not_mem_nil
  ·cases e:s.heap.get? b with
   | none=>rfl
   | some ob=>rw[CS.k.k b ob e]at q;exact nqb q
 obtain⟨m,hm,_⟩:=Fi.ns
 rw[CS.lo]at hm
 refine hQ D g L m _ ⟨eO ▸ ob,nd,fun b hb=>⟨?_,Ri.live b ?_⟩,⟨Bb CS.k.same same,fun b ob e=>kp b ob (fun q=>?_) (fun q=>?_) (fun q=>?_) (CS.k.k b ob e)⟩⟩ hm CS.nL CS.LD ?_
 ·rcases hb with q | q
  ·exact q ▸ CS.nD
  ·exact hg2 b q
 ·exact hb.elim (fun x=>.inl (.inr x)) .inr
 ·rw[CS.nwr b q]at e;exact nqa e
 ·rw[q,CS.nD]at e;exact nqa e
 ·rw[CS.nta b q]at e;exact nqa e
 ·intro q
  have:=Fi.nol
  rw[CS.lo]at this
  exact this (.inr q)
theorem Made.off {O:Addr->Prop}{G:Gh}{o:FObj}{s s':Shared}{D L:Addr}{g:List Addr}{m:Str->Option Value}(M:Made C O G o s D g s')(hm:s'.heap.Ns L m)(hL:s.heap.get? L=none)(hD:L ≠ D)(hg:L ∉ g){h':Heap}(hs:Heap.SameBut L s'.heap h'):Made C O G o s D g { s' with heap:=h' }:=by
 obtain⟨h1,h2,h3,h4⟩:=M
 refine⟨h1.mono (fun b ob xs n e hd hb=>⟨hs.extBut b ob (fun q=>?_) e,hb⟩) fun b ob hb e=>hs.extBut b ob (fun q=>?_) e,h2,fun b hb=>⟨(h3 b hb).1,?_⟩,⟨?_,fun b ob e=>?_⟩⟩
 ·clear h1 h2 h3 h4 hD hL hb hg hs;subst q;exact Du hm ob e xs n hd
 ·clear e h1 h2 h3 h4 hL hm hs;subst q;rcases hb with q | q
  ·exact hD q
  ·exact hg q
 ·obtain⟨ob,e⟩:=(h3 b hb).2
  refine⟨ob,hs.extBut b ob (fun q=>?_) e⟩
  clear e h1 h2 h3 h4 hL hm hs;subst q;rcases hb with q | q
  ·exact hD q
  ·exact hg q
 ·clear h1 h2 h3 hD hL hg hm hs;obtain⟨⟨h5,t5,rfl⟩,_⟩:=h4;exact⟨_,_,rfl⟩
 ·refine hs.extBut b ob (fun q=>?_) (h4.k b ob e)
  clear h1 h2 h3 h4 hD hg hm hs;subst q;rw[hL]at e;exact nqa e
theorem MakeE.ofCompR {elt target iter:Expr}{ifs:List Expr}{gs:List Comprehension}{scope:Scope}{pos:Pos}{f:Rho->AH->Option FObj}(h:CompR C k sc (.ListComp elt (⟨target,iter,ifs,0⟩ :: gs) scope pos) scope iter f):MakeE C k sc (.ListComp elt (⟨target,iter,ifs,0⟩ :: gs) scope pos) f:=by
 intro A env s ρ H G O o hA F R ho
 rw[eval_ListComp]
 refine h _ A env s ρ H G O o hA F R ho none _ fun D g L m s' M hm hL hLD hLg=>⟨m,hm,fun h' hs=>?_⟩
 have M':=M.off hm hL hLD hLg hs
 exact⟨D,g,rfl,M'.obj,M'.nd,M'.new,M'.kp⟩
theorem CompR.one {elt target iter:Expr}{ifs:List Expr}{scope:Scope}{pos:Pos}{fs:LF}{tg:Tgt}{c:CF}{e:EF}{init:FObj}(hit:IterE C k sc iter fs)(hsc:CompSc sc scope sc' tg.idx)(hsi:∀ env x,foldedSetIterable iter env x=pure x)
  (ht:AssignR C sc' target tg) (hc:TestsE C k sc' ifs c) (he:EltR C k sc' elt e) (hinit:init = .lst false []\/init = .mat false []):CompR C k sc (.ListComp elt [⟨target,iter,ifs,0⟩] scope pos) scope iter (Fr fs tg c e init):=by
 intro p2 A env s ρ H G O o hA F R ho
 refine CompR.gen (is2:=[]) (fun it acc env=>rfl) hit (by rw[List.append_nil];exact hsc) hsi ht hc (TailR.elt he) (fun j hj=>absurd hj List.not_mem_nil) hinit p2 A env s ρ H G O o hA F R ?_
 unfold Fr at ho
 cases hvs:fs ρ H with
 | none=>rw[hvs]at ho;exact nqa ho
 | some vs =>
  rw[hvs]at ho
  exact Option.bind_eq_some_iff.mpr ⟨vs,hvs,Fd (fun j hj=>if_neg (by rw[List.append_nil];exact hj)) ho⟩
theorem MakeE.comp {elt target iter:Expr}{ifs:List Expr}{scope:Scope}{pos:Pos}{fs:LF}{tg:Tgt}{c:CF}{e:EF}{init:FObj}(hit:IterE C k sc iter fs)(hsc:CompSc sc scope sc' tg.idx)
  (ht:AssignR C sc' target tg) (hc:TestsE C k sc' ifs c) (he:EltR C k sc' elt e) (hinit:init = .lst false []\/init = .mat false []) (hsi:∀ env x,foldedSetIterable iter env x=pure x:=by intro _ _;rfl) :
  MakeE C k sc (.ListComp elt [⟨target,iter,ifs,0⟩] scope pos) (Fr fs tg c e init):=.ofCompR (.one hit hsc hsi ht hc he hinit)
end
end Mine
end
section
namespace Mine
section
variable {C:Cx} {k:Nat} {sc:Sc} {env:Env} {ρ:Rho} {H H':AH} {G G':Gh} {s s':Shared} {P:Addr->Prop}
theorem Step.hk (S:Step (fun z0=>False) H G s H' G' s'):∀ b o,s.heap.get? b=some o->(∀ es ep,o.data ≠ .dict es ep)->¬ own H G b->s'.heap.get? b=some o/\¬ own H' G' b:=fun b o e hd hb =>
 ⟨let ⟨o',e',q⟩:=S.keep b o hb (fun x=>x) e;by rw[e',q.eq hd],fun q=>(S.fresh b q).elim hb fun n=>by rw[n]at e;exact nqa e⟩
theorem Step.hk' (S:Step P H G s H' G' s'):∀ b o,s.heap.get? b=some o->¬ own H G b->¬ P b->(∃ o',s'.heap.get? b=some o'/\Slo o o')/\¬ own H' G' b:=fun b o e hb hP =>
 ⟨S.keep b o hb hP e,fun q=>(S.fresh b q).elim hb fun n=>by rw[n]at e;exact nqa e⟩
theorem Step.frs {A:Around}(S:Step (fun z0=>False) H G s H' G' s')(F:FrsA C A (own H G) s.heap):FrsA C A (own H' G') s'.heap :=
 F.mono fun b o es ep e hd hb=>let ⟨⟨o',e',q⟩,h2⟩:=S.hk' b o e hb (fun x=>x);⟨⟨o',es,ep,e',by rw[q.data,hd]⟩,h2⟩
theorem Ch {o:Obj}{xs n}(h:o.data = .seq xs n):∀ es ep,o.data ≠ .dict es ep:=fun es ep q=>by rw[h]at q;cases q
theorem Slo.ns {h h':Heap}{a:Addr}{m:Str->Option Value}(hn:h.Ns a m)(hk:∀ o,h.get? a=some o->∃ o',h'.get? a=some o'/\Slo o o'):h'.Ns a m:=by
 refine Ac fun PP ret=>?_
 obtain⟨o,es,ep,ho,hd,r⟩:=hn
 obtain⟨o',e',q⟩:=hk o ho
 refine ret ?_
 exact⟨o',es,ep,e',by rw[q.data,hd],r⟩
theorem Step.val (S:Step (fun z0=>False) H G s H' G' s'){v:AV}{x:Value}(hs:v.sto=true)(r:VRel s.heap (own H G) G v x):VRel s'.heap (own H' G') G' v x :=
 r.mono (fun b o z0 z0 e hd hb=>S.hk b o e (Ch hd) hb) hs
theorem Step.vals (S:Step (fun z0=>False) H G s H' G' s'){v:List AV}{x:List Value}(hs:AV.stos v=true)(r:VRels s.heap (own H G) G v x):VRels s'.heap (own H' G') G' v x :=
 r.mono (fun b o z0 z0 e hd hb=>S.hk b o e (Ch hd) hb) hs
theorem Step.wf (S:Step (fun z0=>False) H G s H' G' s')(F:WF C A sc env ρ G (own H G) s.heap)(hs:stoR sc ρ):WF C A sc env ρ G' (own H' G') s'.heap where
 kind:=F.kind
 glob:=F.glob
 bui:=F.bui
 ns:=by
  obtain⟨m,hm,hv⟩:=F.ns
  refine⟨m,Slo.ns hm fun o e=>(S.hk' _ o e F.nol (fun x=>x)).1,fun x i hx hl=>(hv x i hx hl).imp id fun ⟨v,e,r⟩=>⟨v,e,S.val (hs x i hx) r⟩⟩
 cells:=fun x i hx hl=>by
  refine Ac fun PP ret=>?_
  obtain⟨k,c,ov,e,⟨o,ho,hd⟩,hv⟩:=F.cells x i hx hl
  refine ret ?_
  exact⟨k,c,ov,e,⟨o,(S.hk _ o ho (fun es ep q=>by rw[hd]at q;cases q) (F.noc x c (PySem.mem_of_lookup e))).1,hd⟩,hv.imp id fun ⟨v,e,r⟩=>⟨v,e,S.val (hs x i hx) r⟩⟩
 celk:=F.celk
 gl:=F.gl
 apart:=F.apart
 cnl:=F.cnl
 cli:=fun x c hx=>let ⟨ov,o,ho,hd⟩:=F.cli x c hx;⟨ov,o,(S.hk _ o ho (fun es ep q=>by rw[hd]at q;cases q) (F.noc x c hx)).1,hd⟩
 nol:=fun x=>by obtain⟨m,⟨o,_,_,ho,_⟩,_⟩:=F.ns;exact(S.hk' _ o ho F.nol (fun x=>x)).2 x
 noc:=fun x c hx y=>by obtain⟨ov,o,ho,_⟩:=F.cli x c hx;exact(S.hk' _ o ho (F.noc x c hx) (fun x=>x)).2 y
 nbs:=F.nbs
 scnd:=F.scnd
 scinj:=F.scinj
 frs:=S.frs F.frs
 top:=F.top
theorem Step.wide {P P':Addr->Prop}(S:Step P H G s H' G' s')(h:∀ b,P b->P' b)(hl:∀ b o,P' b->¬ P b->s.heap.get? b=some o->¬ own H G b):Step P' H G s H' G' s' :=
 ⟨S.same,fun b o h1 h2 e=>S.keep b o h1 (fun q=>h2 (h b q)) e,fun b o p e=>by
  by_cases q:P b
  ·exact S.pl b o q e
  ·exact let ⟨o',e',_⟩:=S.keep b o (hl b o p q e) q e;⟨o',e'⟩,S.fresh,S.lock⟩
theorem Step.frm (S:Step (fun z0=>False) H G s H' G' s')(F:WF C A sc env ρ G (own H G) s.heap):Step (fr env) H G s H' G' s' :=
 S.wide (fun z0 x=>x.elim) fun b o p z0 e=>by
  rcases p with rfl | ⟨x,hx⟩
  ·exact F.nol
  ·exact F.noc x b hx
theorem Step.kp (R:Rel C H G (own H G) s.heap)(k:Kp s s'):Step P H G s H G s':=.ofKp k R.live
theorem Step.fs (F:WF C A sc env ρ G (own H G) s.heap)(R:Rel C H G (own H G) s.heap)(fs:FS (fr env) s s'):Step (fr env) H G s H G s':=by
 refine⟨fs.same,fun b o h1 h2 e=>⟨o,fs.k b o h2 e,.refl o⟩,fun b o z0 e=>fs.l b o e,fun z0 x=>.inl x,fun a o e z0=>⟨e,rfl,fun b hb=>?_⟩⟩
 have hO:own H G b:=⟨a,by rw[e];simp,hb⟩
 have hf:¬ fr env b:=by
  clear R e fs hb z0;rintro(rfl | ⟨x,hx⟩)
  ·exact F.nol hO
  ·exact F.noc x b hx hO
 obtain⟨o',q⟩:=R.live b hO
 rw[q];exact fs.k b o' hf q
theorem Made.step {o:FObj}{D:Addr}{g:List Addr}(R:Rel C H G (own H G) s.heap)(M:Made C (own H G) G o s D g s') :
  H D=none/\Rel C (upd H D (.f o)) (Cd G D g) (own (upd H D (.f o)) (Cd G D g)) s'.heap/\Step (fun z0=>False) H G s (upd H D (.f o)) (Cd G D g) s':=by
 have hn:H D=none:=R.none_of (M.new D (.inl rfl)).1
 refine⟨hn,R.alloc M.kp.k M.new M.nd M.obj,M.kp.same,fun b ob z0 z0 e=>⟨ob,M.kp.k b ob e,.refl ob⟩,fun z0 z0 x=>x.elim,fun b hb=>?_,fun a oa e hl=>?_⟩
 ·rw[Ot hn]at hb
  exact hb.imp id fun q=>(M.new b q).1
 ·have hne:a ≠ D:=fun qq=>by first | (rw[<- qq,hn]at e;exact nqa e) | (rw[qq,hn]at e;exact nqa e)
  refine⟨by rw[Aa hne];exact e,by simp[Cd,hne],fun b hb=>?_⟩
  obtain⟨ob,q⟩:=R.live b ⟨a,by rw[e];simp,hb⟩
  rw[q];exact M.kp.k b ob q
end
section
variable {C:Cx} {k:Nat} {sc:Sc} {f f':PF}
noncomputable def Am (f:PF):Wp AV:=fun Q ρ H=>∃ v,f ρ H=some v/\v.sto=true/\Q v ρ H
theorem ImpE.ofPure {e:Expr}(h:PureE C k sc e f):ImpE C k sc e (Am f):=by
 rintro A env s ρ H G Q hA F hs R ⟨v,hv,hsv,hQ⟩
 refine wpAny_mono (h A env s ρ H G _ v hA F R hv) (fun x s1 h1=>?_) fun z0 z0 x=>x
 exact⟨v,ρ,H,G,hQ,h1.1,hsv,F.keep h1.2.k,hs,R.keep h1.2.k,.kp R h1.2⟩
noncomputable def Eh (m:Rho->AH->Option FObj):Wp AV:=fun Q ρ H=>∃ o,m ρ H=some o/\∀ a,H a=none->Q (.ref a) ρ (upd H a (.f o))
theorem ImpE.ofMake {e:Expr}{m:Rho->AH->Option FObj}(h:MakeE C k sc e m):ImpE C k sc e (Eh m):=by
 rintro A env s ρ H G Q hA F hs R ⟨o,ho,hQ⟩
 refine wpAny_mono (h A env s ρ H G _ o hA F R ho) (fun x s1 h1=>?_) fun z0 z0 x=>x
 obtain⟨a,g,rfl,h2,h3,h4,h5⟩:=h1
 obtain⟨hn,R1,S1⟩:=Made.step R ⟨h2,h3,h4,h5⟩
 exact⟨.ref a,ρ,_,_,hQ a hn,by simp[vRr],rfl,S1.wf F hs,hs,R1,S1.frm F⟩
noncomputable def Az (c:CF):Wp Bool:=fun Q ρ H=>∃ b,c ρ H=some b/\Q b ρ H
theorem ImpC.ofTest {e:Expr}{c:CF}(h:TestE C k sc e c):ImpC C k sc e (Az c):=by
 rintro A env s ρ H G Q hA F hs R ⟨b,hb,hQ⟩
 refine wpAny_mono (h A env s ρ H G _ b hA F R hb) (fun x s1 h1=>?_) fun z0 z0 x=>x
 clear h hA hb;obtain⟨rfl,k1⟩:=h1
 exact⟨ρ,H,G,hQ,F.keep k1.k,hs,R.keep k1.k,.kp R k1⟩
noncomputable def Ab (T T':Wp AFlow):Wp AFlow:=fun Q=>T fun f ρ H=>match f with
 | .next=>T' Q ρ H
 | f=>Q f ρ H
noncomputable def Ag:Wp AFlow:=fun Q ρ H=>Q .next ρ H
theorem StmtsR.nil:StmtsR C k sc [] Ag:=by
 intro A env s ρ H G Q hA F hs R hT
 exact wpAny_execs_nil ⟨.next,ρ,H,G,hT,trivial,F,hs,R,.refl s⟩
theorem StmtsR.cons {st:Stmt}{rest:List Stmt}{T T':Wp AFlow}(h:StmtR C k sc st T)(h':StmtsR C k sc rest T'):StmtsR C k sc (st :: rest) (Ab T T'):=by
 intro A env s ρ H G Q hA F hs R hT
 refine wpAny_execs_cons (wpAny_mono (h A env s ρ H G _ hA F hs R hT) (fun fl s1 h1=>?_) fun z0 z0 x=>x)
 obtain⟨af,ρ1,H1,G1,hq,hf,F1,hs1,R1,S1⟩:=h1
 cases af with
 | next =>
  cases hf.nextE
  exact wpAny_mono (h' A env s1 ρ1 H1 G1 Q hA F1 hs1 R1 hq) (fun fl s2 h2=>by
   obtain⟨af,ρ2,H2,G2,hq,hf,F2,hs2,R2,S2⟩:=h2
   exact⟨af,ρ2,H2,G2,hq,hf,F2,hs2,R2,S1.trans S2⟩) fun z0 z0 x=>x
 | brk=>cases hf.brkE;exact⟨.brk,ρ1,H1,G1,hq,trivial,F1,hs1,R1,S1⟩
 | cont=>cases hf.contE;exact⟨.cont,ρ1,H1,G1,hq,trivial,F1,hs1,R1,S1⟩
 | ret v=>obtain⟨x,rfl,hf⟩:=hf.retE;exact⟨.ret v,ρ1,H1,G1,hq,hf,F1,hs1,R1,S1⟩
noncomputable def Hd (W:Wp AV):Wp AFlow:=fun Q=>W fun v=>Q (.ret v)
theorem StmtR.ret {e:Expr}{pos:Pos}{W:Wp AV}(h:ImpE C k sc e W):StmtR C k sc (.Return (some e) pos) (Hd W):=by
 intro A env s ρ H G Q hA F hs R hT
 refine wpAny_Return_some (wpAny_mono (h A env s ρ H G _ hA F hs R hT) (fun x s1 h1=>?_) fun z0 z0 x=>x)
 obtain⟨v,ρ1,H1,G1,hq,hv,hsv,F1,hs1,R1,S1⟩:=h1
 exact⟨.ret v,ρ1,H1,G1,hq,⟨hv,hsv⟩,F1,hs1,R1,S1⟩
noncomputable def Av (W:Wp AV):Wp AFlow:=fun Q=>W fun z0=>Q .next
theorem StmtR.expr {e:Expr}{pos:Pos}{W:Wp AV}(h:ImpE C k sc e W)(hsw:∀ env,swapsWith e none pos.line env=pure false:=by intro _;rfl):StmtR C k sc (.Expr e pos) (Av W):=by
 intro A env s ρ H G Q hA F hs R hT
 refine wpAny_Expr_any (wpAny_mono (h A env s ρ H G _ hA F hs R hT) (fun x s1 h1=>?_) fun z0 z0 x=>x) (by simp[interactive,F.kind]) (hsw env)
 obtain⟨v,ρ1,H1,G1,hq,hv,hsv,F1,hs1,R1,S1⟩:=h1
 exact⟨.next,ρ1,H1,G1,hq,trivial,F1,hs1,R1,S1⟩
noncomputable def Qw:Wp AFlow:=fun Q ρ H=>Q .brk ρ H
noncomputable def Zk:Wp AFlow:=fun Q ρ H=>Q .cont ρ H
theorem StmtR.brk {pos:Pos}:StmtR C k sc (.Break pos) Qw:=by
 intro A env s ρ H G Q hA F hs R hT
 exact wpAny_Break ⟨.brk,ρ,H,G,hT,trivial,F,hs,R,.refl s⟩
theorem StmtR.cont {pos:Pos}:StmtR C k sc (.Continue pos) Zk:=by
 intro A env s ρ H G Q hA F hs R hT
 exact wpAny_Continue ⟨.cont,ρ,H,G,hT,trivial,F,hs,R,.refl s⟩
noncomputable def noT:Wp AFlow:=fun z0 z0 z0=>False
theorem StmtsR.no {st:List Stmt}:StmtsR C k sc st noT:=by
 intro A env s ρ H G Q hA F hs R hT;exact hT.elim
noncomputable def ifT (W:Wp Bool) (T T':Wp AFlow):Wp AFlow:=fun Q=>W fun b ρ H=>if b=true then T Q ρ H else T' Q ρ H
theorem StmtR.ite {e:Expr}{b o:List Stmt}{pos:Pos}{W:Wp Bool}{T T':Wp AFlow}(he:ImpC C k sc e W)(hb:StmtsR C k sc b T)(ho:StmtsR C k sc o T'):StmtR C k sc (.If e b o pos) (ifT W T T'):=by
 intro A env s ρ H G Q hA F hs R hT
 refine wpAny_If (wpAny_mono (he A env s ρ H G _ hA F hs R hT) (fun c s1 h1=>?_) fun z0 z0 x=>x)
 obtain⟨ρ1,H1,G1,hq,F1,hs1,R1,S1⟩:=h1
 cases c with
 | true =>
  simp only [if_true]at hq ⊢
  exact wpAny_mono (hb A env s1 ρ1 H1 G1 Q hA F1 hs1 R1 hq) (fun fl s2 h2=>by
   obtain⟨af,ρ2,H2,G2,hq,hf,F2,hs2,R2,S2⟩:=h2
   exact⟨af,ρ2,H2,G2,hq,hf,F2,hs2,R2,S1.trans S2⟩) fun z0 z0 x=>x
 | false =>
  simp only [Bool.false_eq_true,if_false]at hq ⊢
  exact wpAny_mono (ho A env s1 ρ1 H1 G1 Q hA F1 hs1 R1 hq) (fun fl s2 h2=>by
   obtain⟨af,ρ2,H2,G2,hq,hf,F2,hs2,R2,S2⟩:=h2
   exact⟨af,ρ2,H2,G2,hq,hf,F2,hs2,R2,S1.trans S2⟩) fun z0 z0 x=>x
theorem stoR.set {ρ:Rho}(hs:stoR sc ρ){i:Nat}{v:AV}(hv:v.sto=true):stoR sc (ρ.set i v):=by
 intro x j hx
 by_cases e:j=i
 ·subst e;simpa using hv
 ·rw[Rho.set_ne e];exact hs x j hx
noncomputable def Bj (i:Nat) (W:Wp AV):Wp AFlow:=fun Q=>W fun v ρ H=>Q .next (ρ.set i v) H
theorem StmtR.let {x:Str}{i:Nat}{e:Expr}{p pos:Pos}{W:Wp AV}(hx:(x,i) ∈ sc.vars)(h:ImpE C k sc e W)(hsw:∀ env,swapsWith e (some (.Name x p)) pos.line env=pure false:=by intro _;rfl):StmtR C k sc (.Assign [.Name x p] e pos) (Bj i W):=by
 intro A env s ρ H G Q hA F hs R hT
 refine wpAny_Assign_Name (wpAny_mono (h A env s ρ H G _ hA F hs R hT) (fun y s1 h1=>?_) fun z0 z0 x=>x) (hsw env)
 obtain⟨v,ρ1,H1,G1,hq,hv,hsv,F1,hs1,R1,S1⟩:=h1
 refine Ds F1 hx hv fun s2 F2 fs hv2=>?_
 have fs':=fs.mono fun z0=>Cq
 exact⟨.next,_,H1,G1,hq,trivial,F2,hs1.set hsv,R1.fs F1 fs',S1.trans (.fs F1 R1 fs')⟩
noncomputable def Dy (W:Wp Bool) (T T':Wp AFlow):Wp AFlow:=fun Q ρ H=>∃ (I:Nat->Rho->AH->Prop) (n:Nat),I n ρ H/\∀ n ρ H,I n ρ H->W (fun b ρ1 H1=>if b=true then T (fun f ρ2 H2=>match f with
  | .next=>∃ m,m < n/\I m ρ2 H2
  | .cont=>∃ m,m < n/\I m ρ2 H2
  | .brk=>Q .next ρ2 H2
  | .ret v=>Q (.ret v) ρ2 H2) ρ1 H1 else T' Q ρ1 H1) ρ H
theorem StmtR.while {e:Expr}{b o:List Stmt}{pos:Pos}{W:Wp Bool}{T T':Wp AFlow}(he:ImpC C k sc e W)(hb:StmtsR C k sc b T)(ho:StmtsR C k sc o T'):StmtR C k sc (.While e b o pos) (Dy W T T'):=by
 rintro A env s ρ H G Q hA F hs R ⟨I,n,hI,hturn⟩
 refine wpAny_While (codeAny_whileLoop (fun n t=>PostC C A sc env s H G (fun z0=>I n) true t) (fun n t ht=>?_) n ⟨ρ,H,G,hI,F,hs,R,.refl s⟩)
 obtain⟨ρ1,H1,G1,hI1,F1,hs1,R1,S1⟩:=ht
 refine wpAny_mono (he A env t ρ1 H1 G1 _ hA F1 hs1 R1 (hturn n ρ1 H1 hI1)) (fun c s2 h2=>?_) fun z0 z0 x=>x.elim
 obtain⟨ρ2,H2,G2,hq,F2,hs2,R2,S2⟩:=h2
 cases c with
 | true =>
  simp only [if_true]at hq ⊢
  refine wpAny_mono (hb A env s2 ρ2 H2 G2 _ hA F2 hs2 R2 hq) (fun fl s3 h3=>?_) fun z0 z0 x=>x.elim
  obtain⟨af,ρ3,H3,G3,hq3,hf,F3,hs3,R3,S3⟩:=h3
  have S:=(S1.trans S2).trans S3
  cases af with
  | next=>cases hf.nextE;obtain⟨m,hm,hI3⟩:=hq3;exact⟨m,hm,ρ3,H3,G3,hI3,F3,hs3,R3,S⟩
  | cont=>cases hf.contE;obtain⟨m,hm,hI3⟩:=hq3;exact⟨m,hm,ρ3,H3,G3,hI3,F3,hs3,R3,S⟩
  | brk=>cases hf.brkE;exact⟨.next,ρ3,H3,G3,hq3,trivial,F3,hs3,R3,S⟩
  | ret v=>obtain⟨x,rfl,hf⟩:=hf.retE;exact⟨.ret v,ρ3,H3,G3,hq3,hf,F3,hs3,R3,S⟩
 | false =>
  simp only [Bool.false_eq_true,if_false]at hq ⊢
  refine wpAny_mono (ho A env s2 ρ2 H2 G2 _ hA F2 hs2 R2 hq) (fun fl s3 h3=>?_) fun z0 z0 x=>x.elim
  obtain⟨af,ρ3,H3,G3,hq3,hf,F3,hs3,R3,S3⟩:=h3
  exact⟨af,ρ3,H3,G3,hq3,hf,F3,hs3,R3,(S1.trans S2).trans S3⟩
end
end Mine
end
section
namespace Mine
theorem Qo {prog:Program}{w:World}{A:Around}{s:Shared}{R:Result->Shared->Prop}{target:Expr}{it:Value}{body:List Stmt}{env:Env}(I:Nat->Shared->Prop)
  (turn:∀ n s,I n s->wpAny (model prog w) A (pyNext it) (fun r s₁=>match r with
   | none=>R (.ok .next) s₁
   | some v=>wpAny (model prog w) A (letOwnedTupleGo target it v) (fun z0 s₁'=>wpAny (model prog w) A (assign target env v) (fun z0 s₂=>wpAny (model prog w) A (execs body env) (fun f s₃=>match f with
     | .next | .cont=>∃ m,m < n/\I m s₃
     | .brk=>R (.ok .next) s₃
     | .ret v=>R (.ok (.ret v)) s₃) (fun z0 z0=>False) s₂) (fun z0 z0=>False) s₁') (fun z0 z0=>False) s₁) (fun z0 z0=>False) s)
  (n:Nat) (h:I n s):codeAny (model prog w) A (.forLoop target it body [] env) R s:=by
 refine codeAny_loop' rfl I (fun n s hI=>?_) n h
 refine(?_:wpAny _ _ ((forTurn target it body [] env).onRaise (fun x=>do noteFrame x env;theTreesLotGoes x)) _ _ s)
 refine wpAny_noted ?_
 simp only [forTurn]
 refine wpAny_bind (wpAny_standAt (wpAny_bind (wpAny_onRaise (wpAny_mono (turn n s hI) (fun r s₁ h₁=>?_) fun z0 z0 h'=>h'.elim))))
 cases r with
 | none=>exact wpAny_pure (.inr ⟨rfl,codeAny_block (wpAny_execs_nil h₁)⟩)
 | some v =>
  refine wpAny_bind (wpAny_mono h₁ (fun z0 s₁' h₁'=>?_) fun z0 z0 h'=>h'.elim)
  refine wpAny_bind (wpAny_mono h₁' (fun z0 s₂ h₂=>wpAny_bind (wpAny_mono h₂ (fun f s₃ h₃=>?_) fun z0 z0 h'=>h'.elim)) fun z0 z0 h'=>h'.elim)
  cases f with
  | next=>exact wpAny_pure (.inl ⟨rfl,h₃⟩)
  | cont=>exact wpAny_pure (.inl ⟨rfl,h₃⟩)
  | brk=>exact wpAny_pure h₃
  | ret v=>exact wpAny_pure h₃
noncomputable def Di (tg:Tgt) (T:Wp AFlow) (Q:AFlow->Rho->AH->Prop):List AV->Rho->AH->Prop
 | [],ρ,H=>Q .next ρ H
 | v :: r,ρ,H=>∃ ρ',tg.put H v ρ=some ρ'/\T (fun f ρ2 H2=>match f with
  | .next=>Di tg T Q r ρ2 H2
  | .cont=>Di tg T Q r ρ2 H2
  | .brk=>Q .next ρ2 H2
  | .ret v=>Q (.ret v) ρ2 H2) ρ' H
noncomputable def Ib (fs:LF) (tg:Tgt) (T:Wp AFlow):Wp AFlow:=fun Q ρ H=>∃ vs,fs ρ H=some vs/\AV.stos vs=true/\Di tg T Q vs ρ H
section
variable {C:Cx} {k:Nat} {sc:Sc} {env:Env} {ρ:Rho} {H H':AH} {G G':Gh} {s s':Shared}
theorem Wt (R:Rel C H G (own H G) s.heap){v:AV}{vs:List AV}(hs:v.sto=true)(h:dJ H v=some vs):AV.stos vs=true:=by
 cases v with
 | tup ws=>obtain rfl:=Option.some.inj h;simpa [AV.sto]using hs
 | fl ws=>obtain rfl:=Option.some.inj h;simpa [AV.sto]using hs
 | ref a =>
  refine bW h ?_;clear h;intro lk ws hH h
  obtain rfl:=Option.some.inj h
  exact(R.obj a _ hH).2.1
 | row a i=>simp[AV.sto]at hs
 | _=>exact nqa h
theorem stoR.setMany:∀ (is:List Nat) (vs:List AV) {ρ:Rho},stoR sc ρ->AV.stos vs=true->stoR sc (setMany ρ is vs)
 | [],vs,ρ,h,_=>by cases vs <;> exact h
 | i :: is,[],ρ,h,_=>h
 | i :: is,v :: vs,ρ,h,hv=>by
  simp only [AV.stos,Bool.and_eq_true]at hv
  exact stoR.setMany is vs (h.set hv.1) hv.2
theorem Tgt.put_sto (R:Rel C H G (own H G) s.heap){tg:Tgt}{v:AV}{ρ':Rho}(hs:stoR sc ρ)(hv:v.sto=true)(hp:tg.put H v ρ=some ρ'):stoR sc ρ':=by
 cases tg with
 | one i=>simp only [Tgt.put,Option.some.injEq]at hp;subst hp;exact hs.set hv
 | many is =>
  simp only [Tgt.put]at hp
  set_option tactic.hygienic true in split at hp
  ·rename_i vs hu
   refine Bo hp ?_;clear hp;intro q1 hp
   obtain rfl:=Option.some.inj hp;exact hs.setMany is vs (Wt R hv hu)
  ·exact nqa hp
inductive FJ (C:Cx) (A:Around) (sc:Sc) (env:Env) (H:AH) (G:Gh) (s2:Shared) (PP:Addr->Prop) (St:Nat->Heap->Prop) (i:Nat) (ρ':Rho) (H':AH) (G':Gh) (t:Shared):Prop
 | mk (F:WF C A sc env ρ' G' (own H' G') t.heap) (hs:stoR sc ρ') (R:Rel C H' G' (own H' G') t.heap) (S:Step PP H G s2 H' G' t) (st:St i t.heap) (lk:∀ a o,H a=some (.f o)->o.lk=true->H' a=some (.f o)/\G' a=G a)
theorem Qn {target:Expr}{body:List Stmt}{tg:Tgt}{T:Wp AFlow}(ht:AssignR C sc target tg)(hb:StmtsR C k sc body T){A:Around}{env:Env}{s:Shared}{ρ:Rho}{H:AH}{G:Gh}{Q:AFlow->Rho->AH->Prop}{vs:List AV}{it:Value}{s2:Shared}{PQ:Flow->Shared->Prop}
  (hA:AOk k A) (F:WF C A sc env ρ G (own H G) s.heap) (hs:stoR sc ρ) (R:Rel C H G (own H G) s.heap) (hst:AV.stos vs=true) (hgo:Di tg T Q vs ρ H) (h2:PostI C A s (own H G) G vs (fun h b=>Kf h H G (own H G) b) it s2) (hPQ:∀ f t,PostS C A sc env s H G Q f t->PQ f t) :
  codeAny (model C.prog C.w) A (.forLoop target it body [] env) (fun r s'=>match r with | .ok f=>PQ f s' | .error e=>cameBackBy (model C.prog C.w) A env (fun z0 z0=>False) e s') s2:=by
 obtain⟨k2,hz,I,fp,wr,cs,P,St,rfl,ok,hcs⟩:=h2
 refine Ac fun PZ ret=>?_
 have F2:=F.keep k2.k
 have R2:=R.keep k2.k
 have hwr2:∀ b ∈ wr,s2.heap.get? b ≠ none:=fun b hb q=>by
  obtain⟨ob,e⟩:=(ok.new b hb).2
  rw[q]at e;exact nqa e
 have hwrO:∀ b ∈ wr,¬ own H G b:=fun b hb q=>by
  obtain⟨ob,e⟩:=R.live b q
  rw[(ok.new b hb).1]at e;exact nqa e
 have hwrF:∀ b ∈ wr,¬ fr env b:=fun b hb q=>by
  obtain⟨ob,e⟩:=F.frlive q
  rw[(ok.new b hb).1]at e;exact nqa e
 have hwrA:∀ b ∈ wr,¬ frA A b:=fun b hb q=>by
  obtain⟨_,o,_,_,e,_⟩:=F.frs.live q
  rw[(ok.new b hb).1]at e;exact nqa e
 have hbase:∀ b ∈ wr,C.h0.get? b=none:=fun b hb=>by
  cases e:C.h0.get? b with
  | none=>rfl
  | some ob=>have:=(R.base b ob e).1;rw[(ok.new b hb).1]at this;exact nqa this
 let PP:Addr->Prop:=fun b=>fr env b\/b ∈ wr
 let J:Nat->Rho->AH->Gh->Shared->Prop:=FJ C A sc env H G s2 PP St
 have hown:∀ H' G' t,Step PP H G s2 H' G' t->∀ b ∈ wr,¬ own H' G' b:=fun H' G' t S b hb q=>(S.fresh b q).elim (hwrO b hb) (hwr2 b hb)
 have hcsk:∀ H' G' t,Step PP H G s2 H' G' t->(∀ a o,H a=some (.f o)->o.lk=true->H' a=some (.f o)/\G' a=G a)->∀ j,St j t.heap->∀ H2 G2 t2,Step (fr env) H' G' t H2 G2 t2->∀ b ∈ fp,∀ o,t.heap.get? b=some o->t2.heap.get? b=some o:=by
  intro H' G' t S hlk j stj H2 G2 t2 S2 b hb o e
  rcases ok.cont b hb with h' | h'
  ·obtain⟨o2,e2,q2⟩:=S2.keep b o (hown H' G' t S b h') (hwrF b h') e
   obtain⟨ow,vw,ew,dw⟩:=ok.wl j _ stj b h'
   rw[e]at ew;obtain rfl:=Option.some.inj ew
   rw[e2,q2.eq fun es ep q=>by rw[dw]at q;cases q]
  ·rcases hcs b h' with ⟨hO,o',xs,n,e',hd⟩ | ⟨a,oa,ha,hl,hba⟩
   ·have hbw:b ∉ wr:=fun q=>ok.wns 0 _ ok.st b q o' e' xs n hd
    obtain⟨o1,e1,q1⟩:=S.keep b o' hO (fun q=>q.elim (F2.noseq e' hd) hbw) e'
    rw[q1.eq (Ch hd),e]at e1;obtain rfl:=Option.some.inj e1
    obtain⟨o2,e2,q2⟩:=S2.keep b o (fun q=>(S.fresh b q).elim hO fun n'=>by rw[n']at e';exact nqa e') (F2.noseq e' hd) e
    rw[e2,q2.eq (Ch hd)]
   ·obtain⟨q1,q2⟩:=hlk a oa ha hl
    have:=(S2.lock a oa q1 hl).2.2 b (by rw[q2];exact hba)
    rw[this];exact e
 have hlkt:∀ H' G' H2 G2 t t2,(∀ a o,H a=some (.f o)->o.lk=true->H' a=some (.f o)/\G' a=G a)->Step (fr env) H' G' t H2 G2 t2->∀ a o,H a=some (.f o)->o.lk=true->H2 a=some (.f o)/\G2 a=G a:=by
  intro H' G' H2 G2 t t2 hlk S2 a o ha hl
  obtain⟨q1,q2⟩:=hlk a o ha hl
  obtain⟨q3,q4,_⟩:=S2.lock a o q1 hl
  exact⟨q3,q4.trans q2⟩
 have hPP:∀ H' G' t H2 G2 t2,Step PP H G s2 H' G' t->Step (fr env) H' G' t H2 G2 t2->Step PP H G s2 H2 G2 t2:=by
  intro H' G' t H2 G2 t2 S S2
  refine S.trans (S2.wide (fun b hb=>.inl hb) fun b o p q e=>?_)
  rcases p with p | p
  ·exact absurd p q
  ·exact hown H' G' t S b p
 have fin:∀ H' G' t,Step PP H G s2 H' G' t->Step (fr env) H G s H' G' t:=by
  intro H' G' t S
  refine⟨?_,fun b o h1 h2 e=>S.keep b o h1 (fun q=>q.elim h2 fun q=>by rw[(ok.new b q).1]at e;exact nqa e) (k2.k b o e),fun b o p e=>S.pl b o (.inl p) (k2.k b o e),fun b hb=>?_,fun a o e l=>?_⟩
  ·exact Bb k2.same S.same
  ·refine(S.fresh b hb).imp id fun q=>?_
   cases e:s.heap.get? b with
   | none=>rfl
   | some o=>rw[k2.k b o e]at q;exact nqb q
  ·obtain⟨q1,q2,q3⟩:=S.lock a o e l
   refine⟨q1,q2,fun b hb=>(q3 b hb).trans ?_⟩
   obtain⟨ob,eb⟩:=R.live b ⟨a,by rw[e];simp,hb⟩
   rw[eb];exact k2.k b ob eb
 -- the iterator's own step
 have shiftW:∀ i H' G' (t:Shared) h',St i t.heap->Step PP H G s2 H' G' t->Rel C H' G' (own H' G') t.heap->(∀ b ob,b ∉ wr->t.heap.get? b=some ob->h'.get? b=some ob)->Shift C (· ∈ wr) (own H' G') (own H' G') t.heap h':=by
  intro i H' G' t h' st S Rt hk
  refine⟨fun z0 x=>x,fun b ob hb e=>⟨hk b ob hb e,fun x=>x⟩,fun b hb=>hbase b hb,fun b ob xs n hb e hd=>absurd hd (ok.wns i _ st b hb ob e xs n),fun b hb=>?_⟩
  obtain⟨ob,e⟩:=Rt.live b hb
  exact⟨ob,hk b ob (fun q=>hown H' G' t S b q hb) e⟩
 have stepW:∀ H' G' (t:Shared) h' tk,Step PP H G s2 H' G' t->Rel C H' G' (own H' G') t.heap->(∀ b ob,b ∉ wr->t.heap.get? b=some ob->h'.get? b=some ob)->(∀ b ∈ wr,∃ o,h'.get? b=some o)->(∀ a o,H a=some (.f o)->o.lk=true->H' a=some (.f o)/\G' a=G a)->Step PP H G s2 H' G' { t with heap:=h',toks:=tk }:=by
  intro H' G' t h' tk S Rt hk hl hlk
  refine⟨?_,fun b o h1 h2 e=>(let ⟨o',e',q⟩:=S.keep b o h1 h2 e;⟨o',hk b o' (fun q=>h2 (.inr q)) e',q⟩),fun b o p e=>?_,S.fresh,fun a o e l=>?_⟩
  ·exact Bb S.same ⟨_,_,rfl⟩
  ·by_cases q:b ∈ wr
   ·exact hl b q
   ·obtain⟨o',e'⟩:=S.pl b o p e;exact⟨o',hk b o' q e'⟩
  ·obtain⟨q1,q2,q3⟩:=S.lock a o e l
   refine⟨q1,q2,fun b hb=>?_⟩
   rw[<- q3 b hb]
   obtain⟨ob,eb⟩:=Rt.live b ⟨a,by rw[q1];simp,by rw[q2];exact hb⟩
   have hbw:b ∉ wr:=fun q=>hown H' G' t S b q ⟨a,by rw[q1];simp,by rw[q2];exact hb⟩
   refine(?_:h'.get? b=_)
   rw[eb];exact hk b ob hbw eb
 refine ret (Qo (fun n t=>∃ i ρ' H' G',n=vs.length - i/\i<=vs.length/\J i ρ' H' G' t/\Di tg T Q (vs.drop i) ρ' H') (fun n t hI=>?_) vs.length ⟨0,ρ,H,G,by simp,by simp,⟨F2,hs,R2,.refl s2,ok.st,fun a o ha z0=>⟨ha,rfl⟩⟩,by simpa using hgo⟩)
 refine Ac fun PZ ret=>?_
 obtain⟨i,ρ1,H1,G1,rfl,hi,⟨F1,hs1,R1,S1,st1,hlk1⟩,hgo1⟩:=hI
 rcases Nat.lt_or_ge i vs.length with hlt | hge
 ·refine ret (ok.W.item i t _ _ hlt st1 fun v h5 tk5 hP st5 hk5=>?_)
  refine Ac fun PZ ret=>?_
  have S5:=shiftW i H1 G1 t h5 st1 S1 R1 hk5
  have F5:=S5.wf F1 hwrF hwrA
  have R5:=S5.rel R1 (hown H1 G1 t S1)
  have T5:=stepW H1 G1 t h5 tk5 S1 R1 hk5 (fun b hb=>let ⟨o,_,e,_⟩:=ok.wl _ _ st5 b hb;⟨o,e⟩) hlk1
  obtain⟨u,hu,hru⟩:=ok.item i v hP
  have hdrop:vs.drop i=u :: vs.drop (i + 1):=by
   obtain⟨hlt',e⟩:=List.getElem?_eq_some_iff.mp hu
   rw[List.drop_eq_getElem_cons hlt',e]
  have hsu:u.sto=true:=Bq hst (List.mem_of_getElem? hu)
  rw[hdrop]at hgo1
  obtain⟨ρ',hput,hT⟩:=hgo1
  have ru5:VRel h5 (own H1 G1) G1 u v:=hru.mono (fun b o' xs n e hd hb=>by
   have hbw:b ∉ wr:=fun q=>ok.wns 0 _ ok.st b q o' e xs n hd
   have hbP:¬ PP b:=fun q=>q.elim (F2.noseq e hd) hbw
   obtain⟨o1,e1,q1⟩:=S1.keep b o' hb hbP e
   rw[q1.eq (Ch hd)]at e1
   exact⟨hk5 b o' hbw e1,fun q=>(S1.fresh b q).elim hb fun n'=>by rw[n']at e;exact nqa e⟩) hsu
  refine ret (ok.tup (i + 1) _ _ _ _ _ st5 ?_)
  refine ht k A env { t with heap:=h5,toks:=tk5 } ρ1 ρ' H1 G1 _ u v _ hA F5 R5 ru5 hput fun s6 s7 k6 fs7 F7=>?_
  have F6:=F5.keep k6.k
  have R6:=R5.keep k6.k
  have fs7':FS (fr env) s6 s7:=fs7.mono fun z0=>Cq
  have R7:=R6.fs F6 fs7'
  have S67:Step (fr env) H1 G1 { t with heap:=h5,toks:=tk5 } H1 G1 s7:=(Step.kp R5 k6).trans (Step.fs F6 R6 fs7')
  have S7:=hPP H1 G1 _ H1 G1 s7 T5 S67
  have st7:St (i + 1) s7.heap:=ok.W.frame _ _ _ st5 fun b hb o e=>hcsk H1 G1 _ T5 hlk1 _ st5 H1 G1 s7 S67 b hb o e
  have hs7:stoR sc ρ':=Tgt.put_sto (s:={ t with heap:=h5,toks:=tk5 }) R5 hs1 hsu hput
  refine wpAny_mono (hb A env s7 ρ' H1 G1 _ hA F7 hs7 R7 hT) (fun fl s8 h8=>?_) fun z0 z0 x=>x
  obtain⟨af,ρ3,H3,G3,hq3,hf,F3,hs3,R3,S3⟩:=h8
  have S8:=hPP H1 G1 s7 H3 G3 s8 S7 S3
  have st8:St (i + 1) s8.heap:=ok.W.frame _ _ _ st7 fun b hb o e=>hcsk H1 G1 s7 S7 hlk1 _ st7 H3 G3 s8 S3 b hb o e
  have hlk8:=hlkt H1 G1 H3 G3 s7 s8 hlk1 S3
  cases af with
  | next=>cases hf.nextE;exact⟨vs.length - (i + 1),by exact Ar.r193 hlt,i + 1,ρ3,H3,G3,rfl,hlt,⟨F3,hs3,R3,S8,st8,hlk8⟩,hq3⟩
  | cont=>cases hf.contE;exact⟨vs.length - (i + 1),by exact Ar.r193 hlt,i + 1,ρ3,H3,G3,rfl,hlt,⟨F3,hs3,R3,S8,st8,hlk8⟩,hq3⟩
  | brk=>cases hf.brkE;exact hPQ _ _ ⟨.next,ρ3,H3,G3,hq3,trivial,F3,hs3,R3,fin _ _ _ S8⟩
  | ret v=>obtain⟨x,rfl,hf⟩:=hf.retE;exact hPQ _ _ ⟨.ret v,ρ3,H3,G3,hq3,hf,F3,hs3,R3,fin _ _ _ S8⟩
 ·have:i=vs.length:=Nat.le_antisymm hi hge
  rw[this,List.drop_length]at hgo1
  rw[this]at st1
  refine ret (this ▸ ok.W.done _ _ _ st1 fun h5 tk5 hk5=>?_)
  have S5:=shiftW _ H1 G1 t h5 st1 S1 R1 hk5
  have F5:=S5.wf F1 hwrF hwrA
  have R5:=S5.rel R1 (hown H1 G1 t S1)
  refine hPQ _ _ ⟨.next,ρ1,H1,G1,hgo1,trivial,F5,hs1,R5,?_⟩
  have Sf:=fin _ _ _ S1
  refine⟨?_,fun b o h1 h2 e=>?_,fun b o p e=>?_,Sf.fresh,fun a o e l=>?_⟩
  ·exact Bb Sf.same ⟨_,_,rfl⟩
  ·obtain⟨o',e',q'⟩:=Sf.keep b o h1 h2 e
   exact⟨o',hk5 b o' (fun q=>by rw[(ok.new b q).1]at e;exact nqa e) e',q'⟩
  ·obtain⟨o',e'⟩:=Sf.pl b o p e;exact⟨o',hk5 b o' (fun q=>hwrF b q p) e'⟩
  ·obtain⟨q1,q2,q3⟩:=Sf.lock a o e l
   refine⟨q1,q2,fun b hb=>?_⟩
   rw[<- q3 b hb]
   have hO:own H1 G1 b:=⟨a,by rw[q1];simp,by rw[q2];exact hb⟩
   obtain⟨ob,eb⟩:=R1.live b hO
   have hbw:b ∉ wr:=fun q=>hown H1 G1 t S1 b q hO
   refine(?_:h5.get? b=_)
   rw[eb];exact hk5 b ob hbw eb
theorem StmtR.for {target iter:Expr}{body:List Stmt}{pos:Pos}{fs:LF}{tg:Tgt}{T:Wp AFlow}(hit:IterS C k sc iter fs)(ht:AssignR C sc target tg)(hb:StmtsR C k sc body T)(hsi:∀ env x,foldedSetIterable iter env x=pure x:=by intro _ _;rfl) :
  StmtR C k sc (.For target iter body [] pos) (Ib fs tg T):=by
 rintro A env s ρ H G Q hA F hs R ⟨vs,hvs,hst,hgo⟩
 exact wpAny_For (wpAny_mono (hit A env s ρ H G _ vs hA F R hvs) (fun x s1 h1=>wpAny_mono h1 (fun it s2 h2=>Qn ht hb hA F hs R hst hgo h2 fun z0 z0 h=>h) fun z0 z0 x=>x) fun z0 z0 x=>x) (hsi env)
noncomputable def FObj.hold:FObj->FObj
 | .lst _ vs=>.lst true vs
 | .mat _ M=>.mat true M
 | .dic _ es=>.dic true es
 | o=>o
theorem ORelF.hold {h:Heap}{O:Addr->Prop}{o:FObj}{a:Addr}{g:List Addr}:ORelF C h O G o.hold a g <-> ORelF C h O G o a g:=by cases o <;> exact Iff.rfl
theorem Rel.relabel {h:Heap}{a:Addr}{o o':AObj}(R:Rel C H G (own H G) h)(ha:H a=some o)(ho:ORel C h (own H G) G o' a (G a)):Rel C (upd H a o') G (own (upd H a o') G) h :=
 R.change ha (fun z0 z0 z0 z0 e=>e) ho fun b hb=>R.live b ⟨a,by rw[ha];simp,hb⟩
noncomputable def Tt (T:Wp AFlow):Wp AFlow:=fun Q ρ H=>∃ a o,H a=some (.f o)/\o.hold.lk=true/\T (fun fl ρ' H'=>Q fl ρ' (upd H' a (.f o))) ρ (upd H a (.f o.hold))
theorem PostS.unhold {A:Around}{env:Env}{s s1:Shared}{H:AH}{G:Gh}{Q:AFlow->Rho->AH->Prop}{a:Addr}{o:FObj}{fl:Flow}(ha:H a=some (.f o))(hlk:o.hold.lk=true)(h1:PostS C A sc env s (upd H a (.f o.hold)) G (fun fl ρ' H'=>Q fl ρ' (upd H' a (.f o))) fl s1):PostS C A sc env s H G Q fl s1:=by
 have hne:H a ≠ none:=by rw[ha];simp
 have oe:own (upd H a (.f o.hold)) G=own H G:=Go hne
 obtain⟨af,ρ3,H3,G3,hq3,hf,F3,hs3,R3,S3⟩:=h1
 have hH3:H3 a=some (.f o.hold):=(S3.lock a o.hold (by simp) hlk).1
 have hne3:H3 a ≠ none:=by rw[hH3];simp
 have oe3:own (upd H3 a (.f o)) G3=own H3 G3:=Go hne3
 refine⟨af,ρ3,upd H3 a (.f o),G3,hq3,by rw[oe3];exact hf,by rw[oe3];exact F3,hs3,R3.relabel hH3 (ORelF.hold.mp (R3.obj a _ hH3)),S3.same,fun b ob h1 h2 e=>S3.keep b ob (by rw[oe];exact h1) h2 e,S3.pl,fun b hb=>?_,fun x ox e hl=>?_⟩
 ·have:=S3.fresh b (by rw[oe3]at hb;exact hb)
  rwa [oe]at this
 ·by_cases q:x=a
  ·clear F3 R3 hH3 hf hl hne hne3 hq3 hs3 oe oe3;subst q
   rw[ha]at e
   have e':o=ox:=by injection e with e;injection e
   subst e'
   obtain⟨q1,q2,q3⟩:=S3.lock x o.hold (by simp) hlk
   exact⟨by simp,q2,q3⟩
  ·obtain⟨q1,q2,q3⟩:=S3.lock x ox (by rw[Aa q];exact e) hl
   exact⟨by rw[Aa q];exact q1,q2,q3⟩
theorem StmtR.hold {st:Stmt}{T:Wp AFlow}(h:StmtR C k sc st T):StmtR C k sc st (Tt T):=by
 rintro A env s ρ H G Q hA F hs R ⟨a,o,ha,hlk,hT⟩
 have oe:own (upd H a (.f o.hold)) G=own H G:=Go (by rw[ha];simp)
 exact wpAny_mono (h A env s ρ (upd H a (.f o.hold)) G _ hA (by rw[oe];exact F) hs (R.relabel ha (ORelF.hold.mpr (R.obj a _ ha))) hT) (fun fl s1 h1=>h1.unhold ha hlk) fun z0 z0 x=>x
end
end Mine
end
section
namespace Mine
theorem Lu {prog:Program}{w:World}{A:Around}{E:Value->Shared->Prop}{s:Shared}{l:Addr}{items:List Value}{n:Nat}{i:Int}{t:Tok}{v:Value}{Q:Unit->Shared->Prop}(hl:s.heap.get? l=some (Bt items n))
  (h0:0<=i) (hn:i < items.length) (hz:items.length<=lim)
  (hQ:∀ h' n',h'.get? l=some (Bt (items.set i.toNat v) n')->Heap.SameBut l s.heap h'->Q () { s with heap:=h' }) :
  wpAny (model prog w) A (setItem (.ref l) (.int i t) v) Q E s:=by
 have hli:=Aj hl
 rw[Au]at hz
 have hQ':Q () { s with heap:=s.heap.update l (Obj.mapSeq (·.setIfInBounds i.toNat v)) }:=by
  refine hQ _ n ?_ (Heap.SameBut.update ..)
  rw[Heap.get?_update_self _ hl (Obj.isFreed_of_seq (o:=(Bt items n).mapSeq (·.setIfInBounds i.toNat v)) rfl)]
  simp[Bt,Obj.mapSeq]
 have hfit:i < 2 ^ 63:=by omega
 unfold setItem
 try with_reducible refine wpAny_holding ?_
 first | refine wpAny_bind (wpAny_pure ?_) | skip
 refine wpAny_bind (wpAny_sequenceKey hli.typeIs (by decide) ?_)
 refine wpAny_bind (wpAny_callSpecial?_slot (name:=Str.ofString "__setitem__") hli.typeIs slot_list_setitem
  (wpAny_call_entry slot_list_setitem hli.typeIs entry_list_setitem ?_ (args_list_setitem _ _ _)))
 refine(?_:wpAny _ _ (Builtin.List.listSubscript? (.int i t) >>= _) _ _ s)
 refine wpAny_bind (wpAny_listSubscript_int (fitsIndex_of h0 hfit) ?_)
 clear hfit
 obtain⟨j,rfl⟩:=Int.eq_ofNat_of_zero_le h0
 have hj:j < items.toArray.size:=by simp;omega
 have hx':items.toArray[j]? = some items.toArray[j]:=Array.getElem?_eq_getElem hj
 refine(?_:wpAny _ _ ((seqItemAt l j >>= fun r=>pure (r.map (j,·))) >>= _) _ _ s)
 refine wpAny_bind (wpAny_bind (wpAny_seqItemAt hl rfl (wpAny_pure ?_)))
 rw[hx']
 refine(?_:wpAny _ _ (setSeqItemAt l j v >>= _) _ _ s)
 refine wpAny_bind (wpAny_setSeqItemAt hl rfl ?_)
 first
  | exact wpAny_bind (wpAny_pure (wpAny_pure ⟨.none,rfl,wpAny_pure hQ'⟩))
  | exact wpAny_pure ⟨.none,rfl,wpAny_pure hQ'⟩
section
variable {C:Cx} {k:Nat} {sc:Sc} {env:Env} {ρ:Rho} {H H':AH} {G G':Gh} {s s':Shared} {f f':PF}
theorem Nv {α:Type}:∀ {l:List α} {i:Nat} {b:α},l.Nodup->b ∉ l->(l.set i b).Nodup
 | [],_,_,_,_=>by simp
 | x :: l,0,b,h,hb=>by
  rw[List.set_cons_zero,List.nodup_cons]
  exact⟨fun q=>hb (List.mem_cons_of_mem _ q),(List.nodup_cons.mp h).2⟩
 | x :: l,i + 1,b,h,hb=>by
  rw[List.nodup_cons]at h
  rw[List.set_cons_succ,List.nodup_cons]
  refine⟨fun q=>?_,Nv h.2 fun q=>hb (List.mem_cons_of_mem _ q)⟩
  rcases List.mem_or_eq_of_mem_set q with q | q
  ·exact h.1 q
  ·exact hb (q ▸ List.mem_cons_self)
theorem Step.turn {a:Addr}{o o':FObj}{h':Heap}{tk:Nat}(R:Rel C H G (own H G) s.heap)(ha:H a=some (.f o))(hl:o.lk=false)(hk:∀ b ob,b ≠ a->b ∉ G a->s.heap.get? b=some ob->h'.get? b=some ob) :
  Step (fun z0=>False) H G s (upd H a (.f o')) G { s with heap:=h',toks:=tk }:=by
 have hne:H a ≠ none:=by rw[ha];simp
 refine⟨⟨h',tk,rfl⟩,fun b ob h1 z0 e=>⟨ob,hk b ob (fun q=>h1 (q ▸ ⟨a,hne,.inl rfl⟩)) (fun q=>h1 ⟨a,hne,.inr q⟩) e,.refl ob⟩,fun z0 z0 x=>x.elim,fun b hb=>.inl (by rwa [Go hne]at hb),fun x ox e l=>?_⟩
 have hxa:x ≠ a:=fun qq=>by first | (rw[<- qq,ha]at e;obtain rfl:=fI e;rw[hl]at l;exact nqd l) | (rw[qq,ha]at e;obtain rfl:=fI e;rw[hl]at l;exact nqd l)
 refine⟨by rw[Aa hxa];exact e,rfl,fun b hb=>?_⟩
 have hx:H x ≠ none:=by rw[e];simp
 obtain⟨ob,eb⟩:=R.live b ⟨x,hx,hb⟩
 refine(?_:h'.get? b=_)
 rw[eb]
 exact hk b ob (fun q=>R.dj x a b hx hne hxa hb (.inl q)) (fun q=>R.dj x a b hx hne hxa hb (.inr q)) eb
theorem Ji {a:Addr}{lk:Bool}{vs ws:List AV}{items:List Value}{h':Heap}{n tk:Nat}(R:Rel C H G (own H G) s.heap)(ha:H a=some (.f (.lst false vs)))(hs:AV.stos ws=true)(hz:ws.length<=lim)
  (hg:h'.get? a=some (Bt items n)) (hk:∀ b ob,b ≠ a->s.heap.get? b=some ob->h'.get? b=some ob) (hr:VRels s.heap (own H G) G ws items) :
  Rel C (upd H a (.f (.lst false ws))) G (own (upd H a (.f (.lst false ws))) G) h'/\Step (fun z0=>False) H G s (upd H a (.f (.lst false ws))) G { s with heap:=h',toks:=tk }:=by
 have hO:own H G a:=⟨a,by rw[ha];simp,.inl rfl⟩
 obtain⟨hG,_⟩:=R.obj a _ ha
 refine⟨R.change ha (fun b ob h1 z0 e=>hk b ob h1 e) ⟨hG,hs,hz,n,items,hg,hr.wide fun b ob xs n e z0 hb=>⟨hk b ob (fun q=>hb (q ▸ hO)) e,hb⟩⟩ (fun b hb=>?_),.turn R ha rfl fun b ob h1 z0 e=>hk b ob h1 e⟩
 rw[hG]at hb;simp at hb;clear R hG hO ha hk hr hs hz right;subst hb;exact⟨_,hg⟩
theorem Pl {a b:Addr}{i:Nat}{M:List (List AV)}{ws:List AV}{items:List Value}{h':Heap}{n tk:Nat}(R:Rel C H G (own H G) s.heap)(ha:H a=some (.f (.mat false M)))(hi:i < M.length)(hb:(G a)[i]? = some b)(hs:AV.stos ws=true)(hz:ws.length<=lim)
  (hg:h'.get? b=some (Bt items n)) (hk:∀ c ob,c ≠ b->s.heap.get? c=some ob->h'.get? c=some ob) (hr:VRels s.heap (own H G) G ws items) :
  Rel C (upd H a (.f (.mat false (M.set i ws)))) G (own (upd H a (.f (.mat false (M.set i ws)))) G) h'/\Step (fun z0=>False) H G s (upd H a (.f (.mat false (M.set i ws)))) G { s with heap:=h',toks:=tk }:=by
 have hne:H a ≠ none:=by rw[ha];simp
 refine Ac fun PP ret=>?_
 have hbm:=List.mem_of_getElem? hb
 have hO:own H G b:=⟨a,hne,.inr hbm⟩
 obtain⟨⟨n0,h0⟩,h1,h2,h3⟩:=R.obj a _ ha
 have hnd:=R.nd a hne
 have hab:a ≠ b:=fun q=>(List.nodup_cons.mp hnd).1 (q ▸ hbm)
 have wd:∀ {us:List AV} {ys:List Value},VRels s.heap (own H G) G us ys->VRels h' (own H G) G us ys:=fun r=>r.wide fun c ob xs n e z0 hc=>⟨hk c ob (fun q=>hc (q ▸ hO)) e,hc⟩
 refine ret ?_
 refine⟨R.change ha (fun c ob h1 h2 e=>hk c ob (fun q=>h2 (q ▸ hbm)) e) ⟨⟨n0,hk a _ hab h0⟩,by simp[h1],by simpa using h2,fun j us c hj hc=>?_⟩ (fun c hc=>?_),.turn R ha rfl fun c ob h1 h2 e=>hk c ob (fun q=>h2 (q ▸ hbm)) e⟩
 ·by_cases q:j=i
  ·refine Ac fun PP ret=>?_
   clear R h0 h1 h2 h3 hO ha hab hbm hk hnd hne;subst q
   rw[hb]at hc;obtain rfl:=Option.some.inj hc
   simp[hi]at hj;subst hj
   refine ret ?_
   exact⟨hs,hz,n,items,hg,wd hr⟩
  ·refine Ac fun PP ret=>?_
   rw[List.getElem?_set_ne (Ne.symm q)]at hj
   obtain⟨q1,q2,n',it',q3,q4⟩:=h3 j us c hj hc
   have hcb:c ≠ b:=by
    clear R h0 h1 h2 h3 hO ha hab hbm hg hi hj hk hne hr hs hz q1 q2 q3 q4 ret wd;rintro rfl
    apply q
    have hl1:=(List.getElem?_eq_some_iff.mp hc).1
    have hl2:=(List.getElem?_eq_some_iff.mp hb).1
    exact(List.getElem_inj (List.nodup_cons.mp hnd).2).mp ((List.getElem?_eq_some_iff.mp hc).2.trans (List.getElem?_eq_some_iff.mp hb).2.symm)
   refine ret ?_
   exact⟨q1,q2,n',it',hk c _ hcb q3,wd q4⟩
 ·by_cases q:c=b
  ·clear R h0 h1 h2 h3 hO ha hab hb hbm hc hi hk hnd hne hr hs hz ret wd;subst q;exact⟨_,hg⟩
  ·obtain⟨ob,e⟩:=R.live c ⟨a,hne,hc⟩;exact⟨ob,hk c ob q e⟩
theorem Uk {a b:Addr}{gs:List Addr}{M M':List (List AV)}{ws:List AV}{h':Heap}{n tk:Nat}(R:Rel C H G (own H G) s.heap)(ha:H a=some (.f (.mat false M)))(hb:H b=some (.f (.lst false ws)))(hab:a ≠ b)(hm:∀ z,z ∈ gs->z ∈ G a\/z=b)(hn2:(G a).Nodup->b ∉ G a->gs.Nodup)(hl2:gs.length=M'.length)(hz2:M'.length<=lim)(hr2:∀ (j:Nat) (us:List AV) (c:Addr),M'[j]? = some us->gs[j]? = some c->(us=ws/\c=b)\/∃ i:Nat,M[i]? = some us/\(G a)[i]? = some c)
  (hg:h'.get? a=some (Bt (gs.map Value.ref) n)) (hk:∀ c ob,c ≠ a->s.heap.get? c=some ob->h'.get? c=some ob) :
  Rel C (upd (del H b) a (.f (.mat false M'))) (Cd G a gs) (own (upd (del H b) a (.f (.mat false M'))) (Cd G a gs)) h' /\
   Step (fun z0=>False) H G s (upd (del H b) a (.f (.mat false M'))) (Cd G a gs) { s with heap:=h',toks:=tk }:=by
 have hne:H a ≠ none:=by rw[ha];simp
 have hnb:H b ≠ none:=by rw[hb];simp
 obtain⟨⟨n0,h0⟩,h1,h2,h3⟩:=R.obj a _ ha
 obtain⟨hGb,hsb,hzb,nb,ib,h4,h5⟩:=R.obj b _ hb
 have hnd:=R.nd a hne
 have hba:¬ (b=a\/b ∈ G a):=R.dj b a b hnb hne (Ne.symm hab) (.inl rfl)
 have ga:Cd G a gs a=gs:=by simp[Cd]
 have gx:∀ x,x ≠ a->Cd G a gs x=G x:=fun x e=>by simp[Cd,e]
 have hx:∀ x,upd (del H b) a (.f (.mat false M')) x ≠ none->x ≠ a->H x ≠ none/\x ≠ b:=fun x hx e=>by
  rw[Aa e]at hx
  unfold del at hx
  set_option tactic.hygienic true in split at hx
  ·exact absurd rfl hx
  ·rename_i q;exact⟨hx,q⟩
 have sub:∀ c,own (upd (del H b) a (.f (.mat false M'))) (Cd G a gs) c->own H G c:=by
  rintro c ⟨x,hx',hc⟩
  by_cases e:x=a
  ·clear R gx h0 h1 h2 h3 h4 h5 hGb ha hab hb hba hg hk hl2 hn2 hnd hr2 hsb hx hx' hz2 hzb;subst e;rw[ga]at hc
   rcases hc with rfl | hc
   ·exact⟨c,hne,.inl rfl⟩
   ·rcases hm _ hc with q | q
    ·exact⟨x,hne,.inr q⟩
    ·subst q;exact⟨c,hnb,.inl rfl⟩
  ·rw[gx x e]at hc;exact⟨x,(hx x hx' e).1,hc⟩
 have hO:own H G a:=⟨a,hne,.inl rfl⟩
 have mn:∀ c ob xs n,s.heap.get? c=some ob->ob.data = .seq xs n->¬ own H G c->h'.get? c=some ob/\¬ own (upd (del H b) a (.f (.mat false M'))) (Cd G a gs) c:=fun c ob xs n e z0 hc=>⟨hk c ob (fun q=>hc (q ▸ hO)) e,fun q=>hc (sub c q)⟩
 refine⟨⟨fun z0 x=>x,fun x o hxo=>?_,fun x hxn=>?_,fun x y z hxn hyn hxy hz=>?_,fun c o e=>?_,fun c hc=>?_⟩,⟨h',tk,rfl⟩,fun c ob hc z0 e=>⟨ob,hk c ob (fun q=>hc (q ▸ hO)) e,.refl ob⟩,fun z0 z0 x=>x.elim,fun c hc=>.inl (sub c hc),fun x ox e l=>?_⟩
 ·by_cases e:x=a
  ·clear R gx h0 h1 h2 hGb hO ha hb hba hm hn2 hnb hne hx sub;subst e
   rw[Ad]at hxo;obtain rfl:=Option.some.inj hxo
   rw[ga]
   refine⟨⟨n,hg⟩,hl2,hz2,fun j us c hj hc=>?_⟩
   rcases hr2 j us c hj hc with ⟨rfl,rfl⟩ | ⟨i,hj,hc⟩
   ·exact⟨hsb,hzb,nb,ib,hk _ _ (Ne.symm hab) h4,h5.mono mn hsb⟩
   ·obtain⟨q1,q2,n',it',q3,q4⟩:=h3 i us c hj hc
    exact⟨q1,q2,n',it',hk c _ (fun q=>(List.nodup_cons.mp hnd).1 (by have hcm:=List.mem_of_getElem? hc;rw[q]at hcm;exact hcm)) q3,q4.mono mn q1⟩
  ·have hxn:=hx x (by rw[hxo];simp) e
   rw[Aa e]at hxo
   have hxo':H x=some o:=by simpa [del,hxn.2]using hxo
   rw[gx x e]
   exact(R.obj x o hxo').mono mn fun c ob hc e'=>hk c ob (fun q=>R.dj x a c hxn.1 hne e hc (.inl q)) e'
 ·by_cases e:x=a
  ·clear R gx h0 h1 h2 h3 h4 h5 hGb hO ha hb hg hk hl2 hnb hne hr2 hsb hx hxn hz2 hzb mn sub;subst e;rw[ga,List.nodup_cons]
   rw[List.nodup_cons]at hnd
   refine⟨fun q=>?_,?_⟩
   ·rcases hm _ q with q | q
    ·exact hnd.1 q
    ·exact hab q
   ·exact hn2 hnd.2 fun q=>hba (.inr q)
  ·rw[gx x e];exact R.nd x (hx x hxn e).1
 ·have hGs:∀ z,(z=a\/z ∈ gs)->(z=a\/z ∈ G a)\/z=b:=fun z hz=>by
   rcases hz with q | q
   ·exact .inl (.inl q)
   ·rcases hm _ q with q | q
    ·exact .inl (.inr q)
    ·exact .inr q
  by_cases e:x=a
  ·clear h0 h1 h2 h3 h4 h5 hGb hO ha hab hb hba hg hk hl2 hm hn2 hnd hr2 hsb hxn hz2 hzb mn sub;subst e
   rw[ga]at hz
   have ey:=Ne.symm hxy
   rw[gx y ey]
   have hy:=hx y hyn ey
   rcases hGs z hz with q | q
   ·exact R.dj x y z hne hy.1 hxy q
   ·subst q;exact R.dj z y z hnb hy.1 (Ne.symm hy.2) (.inl rfl)
  ·rw[gx x e]at hz
   have hx':=hx x hxn e
   by_cases ey:y=a
   ·clear gx h0 h1 h2 h3 h4 h5 hGb hO ha hab hb hba hg hk hl2 hm hn2 hnd hr2 hsb hx hxn hxy hyn hz2 hzb mn sub;subst ey;rw[ga]
    intro q
    rcases hGs z q with q | q
    ·exact R.dj x y z hx'.1 hne e hz q
    ·subst q;exact R.dj x z z hx'.1 hnb hx'.2 hz (.inl rfl)
   ·rw[gx y ey];exact R.dj x y z hx'.1 (hx y hyn ey).1 hxy hz
 ·have:=R.base c o e
  exact⟨hk c o (fun q=>this.2 (q ▸ hO)) this.1,fun q=>this.2 (sub c q)⟩
 ·by_cases q:c=a
  ·clear R ga gx h0 h1 h2 h3 h4 h5 hGb hO ha hab hb hba hc hk hl2 hm hn2 hnb hnd hne hr2 hsb hx hz2 hzb mn sub;subst q;exact⟨_,hg⟩
  ·obtain⟨ob,e⟩:=R.live c (sub c hc);exact⟨ob,hk c ob q e⟩
 ·have hxa:x ≠ a:=fun qq=>by first | (rw[<- qq,ha]at e;obtain rfl:=fI e;exact nqd l) | (rw[qq,ha]at e;clear ga h0 h1 h2 h3 h4 h5 hGb hO ha hab hba hg hl2 hm hn2 hnb hnd hr2 hsb hx hz2 hzb mn sub;obtain rfl:=fI e;exact nqd l)
  have hxb:x ≠ b:=fun qq=>by first | (rw[<- qq,hb]at e;obtain rfl:=fI e;exact nqd l) | (rw[qq,hb]at e;clear ga h0 h1 h2 h3 h4 h5 hGb hO ha hab hb hba hg hl2 hm hn2 hnb hnd hr2 hsb hx hz2 hzb mn qq sub;obtain rfl:=fI e;exact nqd l)
  refine⟨by rw[Aa hxa];simpa [del,hxb]using e,gx x hxa,fun c hc=>?_⟩
  have hxn:H x ≠ none:=by rw[e];simp
  obtain⟨ob,eb⟩:=R.live c ⟨x,hxn,hc⟩
  refine(?_:h'.get? c=_)
  rw[eb];exact hk c ob (fun q=>R.dj x a c hxn hne hxa hc (.inl q)) eb
theorem Wx {a b:Addr}{i:Nat}{M:List (List AV)}{lk:Bool}{ws:List AV}{h':Heap}{n tk:Nat}(R:Rel C H G (own H G) s.heap)(ha:H a=some (.f (.mat false M)))(hb:H b=some (.f (.lst false ws)))(hab:a ≠ b)(hi:i < M.length)
  (hg:h'.get? a=some (Bt (((G a).map Value.ref).set i (.ref b)) n)) (hk:∀ c ob,c ≠ a->s.heap.get? c=some ob->h'.get? c=some ob) :
  Rel C (upd (del H b) a (.f (.mat false (M.set i ws)))) (Cd G a ((G a).set i b)) (own (upd (del H b) a (.f (.mat false (M.set i ws)))) (Cd G a ((G a).set i b))) h' /\
   Step (fun z0=>False) H G s (upd (del H b) a (.f (.mat false (M.set i ws)))) (Cd G a ((G a).set i b)) { s with heap:=h',toks:=tk }:=by
 obtain⟨_,h1,h2,_⟩:=R.obj a _ ha
 refine Uk R ha hb hab (fun z hz=>List.mem_or_eq_of_mem_set hz) (fun q1 q2=>Nv q1 q2) (by rw[List.length_set,List.length_set,h1]) (by rw[List.length_set];exact h2) (fun j us c hj hc=>?_) (by rw[hg,List.map_set]) hk
 by_cases q:i=j
 ·subst q
  rw[List.getElem?_set_self hi]at hj;obtain rfl:=Option.some.inj hj
  rw[List.getElem?_set_self (h1 ▸ hi)]at hc;obtain rfl:=Option.some.inj hc
  exact .inl ⟨rfl,rfl⟩
 ·rw[List.getElem?_set_ne q]at hj hc
  exact .inr ⟨j,hj,hc⟩
noncomputable def Xk (vs:List AV) (i:Int) (v:AV):Option (List AV):=if 0<=i/\i < vs.length/\v.sto=true then some (vs.set i.toNat v) else none
noncomputable def Xh (H:AH) (ov iv v:AV):Option AH:=match iv with
 | .int i=>match ov with
  | .ref a=>match H a with
   | some (.f (.lst false vs))=>(Xk vs i v).map fun ws=>upd H a (.f (.lst false ws))
   | some (.f (.mat false M))=>match v with
    | .ref b=>match H b with
     | some (.f (.lst false ws))=>if 0<=i/\i < M.length/\a ≠ b then some (upd (del H b) a (.f (.mat false (M.set i.toNat ws)))) else none
     | _=>none
    | _=>none
   | _=>none
  | .row a j=>match H a with
   | some (.f (.mat false M))=>match M[j]? with
    | some row=>(Xk row i v).map fun ws=>upd H a (.f (.mat false (M.set j ws)))
    | none=>none
   | _=>none
  | _=>none
 | _=>none
theorem Np {vs ws:List AV}{i:Int}{v:AV}(h:Xk vs i v=some ws):0<=i/\i < vs.length/\v.sto=true/\ws=vs.set i.toNat v:=by
 unfold Xk at h
 refine Bo h ?_;clear h;intro q h
 obtain rfl:=Option.some.inj h;exact⟨q.1,q.2.1,q.2.2,rfl⟩
theorem Pn {vs:List AV}{v:AV}(h:AV.stos vs=true)(hv:v.sto=true)(i:Nat):AV.stos (vs.set i v)=true:=by
 rw[stos_iff]at h ⊢
 intro u hu
 rcases List.mem_or_eq_of_mem_set hu with q | q
 ·exact h u q
 ·clear h hu;subst q;exact hv
theorem Rl {A:Around}{ov iv v:AV}{x y z:Value}{Q:Unit->Shared->Prop}(R:Rel C H G (own H G) s.heap)(hx:VRel s.heap (own H G) G ov x)(hy:VRel s.heap (own H G) G iv y)(hz:VRel s.heap (own H G) G v z)(e:Xh H ov iv v=some H')
  (hQ:∀ s' G',Rel C H' G' (own H' G') s'.heap->Step (fun z0=>False) H G s H' G' s'->Q () s'):wpAny (model C.prog C.w) A (setItem x y z) Q (fun z0 z0=>False) s:=by
 unfold Xh at e
 refine iU e ?_;clear e;rintro i rfl e
 simp only [vRi]at hy
 obtain⟨t,rfl⟩:=hy
 set_option tactic.hygienic true in cases ov <;> first | exact nqa e | skip
 ·rename_i a
  simp only [vRr]at hx;subst hx
  dsimp only at e
  generalize ha:H a=o at e
  cases o with
  | none=>exact nqa e
  | some o=>cases o with
   | srt=>exact nqa e
   | f o =>
    set_option tactic.hygienic true in cases o <;> first | exact nqa e | (rename_i lk _;cases lk <;> first | exact nqa e | skip)
    ·rename_i vs
     refine Ac fun PP ret=>?_
     obtain⟨ws,hws,rfl⟩:=Option.map_eq_some_iff.mp e
     obtain⟨h0,h1,h2,rfl⟩:=Np hws
     obtain⟨_,hst,hlim,n,items,hg,hr⟩:=R.obj a _ ha
     have hlen:=hr.length
     refine ret ?_
     refine Lu hg h0 (by exact Ar.r244 h1 hlen) (by exact Ar.r96 hlim hlen) fun h' n' hg' hs'=>?_
     obtain⟨R',S'⟩:=Ji (lk:=false) (tk:=s.toks) R ha (Pn hst h2 i.toNat) (by simpa using hlim) hg' (fun b ob hb e=>hs'.extBut b ob hb e) (hr.set hz)
     exact hQ _ G R' S'
    ·rename_i M
     refine Vt e ?_;clear e;rintro b rfl e
     refine cX e ?_;clear e;intro ws hb e
     refine Bo e ?_;clear e;intro hc e
     obtain rfl:=Option.some.inj e
     refine Ac fun PP ret=>?_
     simp only [vRr]at hz;subst hz
     obtain⟨⟨n0,h0⟩,h1,h2,h3⟩:=R.obj a _ ha
     refine ret ?_
     refine Lu h0 hc.1 (by simp;lia) (by simp;exact Ar.r32 h1 h2) fun h' n' hg' hs'=>?_
     obtain⟨R',S'⟩:=Wx (lk:=false) (tk:=s.toks) R ha hb hc.2.2 (by lia) hg' (fun b ob hb e=>hs'.extBut b ob hb e)
     exact hQ _ _ R' S'
 ·rename_i a j
  refine cW e ?_;clear e;intro M ha e
  refine Oy e ?_;clear e;intro row hrow e
  refine Ac fun PP ret=>?_
  obtain⟨ws,hws,rfl⟩:=Option.map_eq_some_iff.mp e
  obtain⟨h0,h1,h2,rfl⟩:=Np hws
  simp only [vRw]at hx
  obtain⟨b,hb,rfl⟩:=hx
  obtain⟨_,_,_,hrows⟩:=R.obj a _ ha
  obtain⟨q1,q2,n,items,hg,hr⟩:=hrows j row b hrow hb
  have hlen:=hr.length
  refine ret ?_
  refine Lu hg h0 (by exact Ar.r244 h1 hlen) (by exact Ar.r96 q2 hlen) fun h' n' hg' hs'=>?_
  obtain⟨R',S'⟩:=Pl (tk:=s.toks) R ha (List.getElem?_eq_some_iff.mp hrow).1 hb (Pn q1 h2 i.toNat) (by simpa using q2) hg' (fun b ob hb e=>hs'.extBut b ob hb e) (hr.set hz)
  exact hQ _ G R' S'
noncomputable def Nb (W:Wp AV) (fo fi:PF):Wp AFlow:=fun Q=>W fun v ρ H=>∃ ov iv H',fo ρ H=some ov/\fi ρ H=some iv/\Xh H ov iv v=some H'/\Q .next ρ H'
theorem StmtR.set {o i e:Expr}{p pos:Pos}{W:Wp AV}(he:ImpE C k sc e W)(ho:PureE C k sc o f)(hi:PureE C k sc i f')(hsw:∀ env,swapsWith e (some (.Subscript o i p)) pos.line env=pure false:=by intro _;rfl) :
  StmtR C k sc (.Assign [.Subscript o i p] e pos) (Nb W f f'):=by
 intro A env s ρ H G Q hA F hs R hT
 refine wpAny_Assign_Subscript (wpAny_mono (he A env s ρ H G _ hA F hs R hT) (fun z s1 h1=>?_) fun z0 z0 x=>x) (hsw env)
 refine Ac fun PP ret=>?_
 obtain⟨v,ρ1,H1,G1,⟨ov,iv,H2,hov,hiv,hset,hq⟩,hv,hsv,F1,hs1,R1,S1⟩:=h1
 refine ret ?_
 refine PureE.two ho hi hA F1 R1 hov hiv fun x y s2 hx hy k2=>?_
 have R2:=R1.keep k2.k
 have F2:=F1.keep k2.k
 refine Rl R2 hx hy (hv.keep k2.k) hset fun s3 G3 R3 S3=>?_
 exact⟨.next,ρ1,H2,G3,hq,trivial,S3.wf F2 hs1,hs1,R3,(S1.trans (.kp R1 k2)).trans (S3.frm F2)⟩
noncomputable def dL (tg:Tgt) (W:Wp AV):Wp AFlow:=fun Q=>W fun v ρ H=>∃ ρ',tg.put H v ρ=some ρ'/\Q .next ρ' H
theorem StmtR.unpack {elts:List Expr}{e:Expr}{j:Nat}{p pos:Pos}{W:Wp AV}{tg:Tgt}(ht:AssignR C sc (.Tuple elts j p) tg)(he:ImpE C k sc e W)(hsw:∀ env,swapsWith e (some (.Tuple elts j p)) pos.line env=pure false:=by intro _;rfl)
  (hss:∀ env,swappedStores [.Tuple elts j p] e env=pure none:=by intro _;rfl):StmtR C k sc (.Assign [.Tuple elts j p] e pos) (dL tg W):=by
 intro A env s ρ H G Q hA F hs R hT
 refine wpAny_Assign_stores (wpAny_mono (he A env s ρ H G _ hA F hs R hT) (fun z s1 h1=>?_) fun z0 z0 x=>x) (hsw env) (hss env)
 refine Ac fun PP ret=>?_
 obtain⟨v,ρ1,H1,G1,⟨ρ',hput,hq⟩,hv,hsv,F1,hs1,R1,S1⟩:=h1
 refine ret ?_
 refine(?_:wpAny _ _ (assign (.Tuple elts j p) env z) _ _ _)
 refine ht k A env s1 ρ1 ρ' H1 G1 _ v z _ hA F1 R1 hv hput fun s2 s3 k2 fs F3=>?_
 have fs':=fs.mono fun z0=>Cq
 have F2:=F1.keep k2.k
 have R2:=R1.keep k2.k
 exact⟨.next,ρ',H1,G1,hq,trivial,F3,Tgt.put_sto R1 hs1 hsv hput,R2.fs F2 fs',(S1.trans (.kp R1 k2)).trans (.fs F2 R2 fs')⟩
noncomputable def Fz (f:PF):CF:=fun ρ H=>match f ρ H with
 | some v=>Nn H v
 | none=>none
theorem TestE.val {e:Expr}(h:PureE C k sc e f)(ht:∀ (env:Env) (whole:Sem Value),isTrue e env whole=(do let v <- whole;standAt e.pos;holding [v] (truthy v)):=by intros;rfl):TestE C k sc e (Fz f):=by
 intro A env s ρ H G O b hA F R hb
 unfold Fz at hb
 refine Hz hb ?_;clear hb;intro v hv hb
 rw[ht]
 refine wpAny_bind (wpAny_mono (h A env s ρ H G O v hA F R hv) (fun x s1 h1=>?_) fun z0 z0 x=>x)
 obtain⟨hx,k1⟩:=h1
 exact wpAny_bind (wpAny_standAt (wpAny_holding (Ii hA (R.keep k1.k) hx hb fun tk=>⟨rfl,k1.trans' .tok⟩)))
theorem ImpC.val {e:Expr}{W:Wp AV}(h:ImpE C k sc e W)(ht:∀ (env:Env) (whole:Sem Value),isTrue e env whole=(do let v <- whole;standAt e.pos;holding [v] (truthy v)):=by intros;rfl):ImpC C k sc e (fun Q=>W fun v ρ H=>∃ b,Nn H v=some b/\Q b ρ H):=by
 intro A env s ρ H G Q hA F hs R hT
 rw[ht]
 refine wpAny_bind (wpAny_mono (h A env s ρ H G _ hA F hs R hT) (fun z s1 h1=>?_) fun z0 z0 x=>x)
 refine Ac fun PP ret=>?_
 obtain⟨v,ρ1,H1,G1,⟨b,hb,hq⟩,hv,hsv,F1,hs1,R1,S1⟩:=h1
 refine ret ?_
 exact wpAny_bind (wpAny_standAt (wpAny_holding (Ii hA R1 hv hb fun tk=>⟨ρ1,H1,G1,hq,F1,hs1,R1,S1.trans (.kp R1 .tok)⟩)))
end
end Mine
end
section
namespace Mine
section
variable {C:Cx} {k:Nat} {sc:Sc} {f f':PF}
noncomputable def ArgsF (C:Cx) (k:Nat) (sc:Sc) (args:List Expr) (fs:LF):Prop :=
 ∀ (g:Value) (pos:Pos) (A:Around) (env:Env) (s:Shared) (ρ:Rho) (H:AH) (G:Gh) (O:Addr->Prop) (vs:List AV),AOk k A->WF C A sc env ρ G O s.heap->Rel C H G O s.heap->fs ρ H=some vs ->
  wpAny (model C.prog C.w) A (evalArgs g true (backTo pos (starEach args env)) []) (fun a s'=>∃ xs,a=⟨xs,[]⟩/\VRels s'.heap O G vs xs/\Kp s s') (fun z0 z0=>False) s
theorem ArgsF.none:ArgsF C k sc [] Ak:=by
 intro g pos A env s ρ H G O vs hA F R h;obtain rfl:=Option.some.inj h
 exact PySem.evalArgs_none ⟨[],rfl,.nil,.refl' s⟩
theorem ArgsF.some {e:Expr}{rest:List Expr}{fs:LF}(h:ArgsE C k sc (e :: rest) fs)(hs:∀ env,starEach (e :: rest) env=(false,eval e env) :: starEach rest env:=by intro _;rfl):ArgsF C k sc (e :: rest) fs:=by
 intro g pos A env s ρ H G O vs hA F R hv
 refine Dr (hs env) (wpAny_mono (h pos A env s ρ H G O vs hA F R hv) (fun xs s1 h1=>⟨xs,rfl,h1.1,h1.2⟩) fun z0 z0 x=>x)
theorem CallR.wp {g:Value}{W:FW}(h:CallR C k g W)(A:Around)(s:Shared)(H:AH)(G:Gh)(vs:List AV)(xs:List Value)(Q:AV->AH->Prop)(hA:AOk k A)(hF:FrsA C A (own H G) s.heap)(R:Rel C H G (own H G) s.heap)(hr:VRels s.heap (own H G) G vs xs)(hst:AV.stos vs=true)(hW:W vs Q H) :
  wpAny (model C.prog C.w) A (call g xs) (PostV C s H G Q) (fun z0 z0=>False) s:=by
 refine wpAny_call (codeAny_mono (h A s H G vs xs Q hA hF R hr hst hW) fun r s' hr=>?_)
 rcases r with e | (v | _ | _ | _) <;> first | exact hr | exact hr.elim
noncomputable def Ci (fs:LF) (W:FW):Wp AV:=fun Q ρ H=>∃ vs,fs ρ H=some vs/\AV.stos vs=true/\W vs (fun v H'=>Q v ρ H') H
theorem ImpE.call {x:Str}{p pos:Pos}{args:List Expr}{fs:LF}{a:Addr}{W:FW}{o:Obj}{fd:FuncData}(hx:x ∈ sc.globs)(hm:C.mg x=some (.ref a))(ho:C.h0.get? a=some o)(hd:o.data = .func fd)(hargs:ArgsF C k sc args fs)(hf:CallR C k (.ref a) W)
  (hdb:(x == ("__debug__":Str))=false:=by decide):ImpE C k sc (.Call (.Name x p) args [] pos) (Ci fs W):=by
 rintro A env s ρ H G Q hA F hs R ⟨vs,hvs,hst,hW⟩
 refine wpAny_Call_NameR (wpAny_Name (Cf F R hx (.inl hm) ?_) hdb)
 refine Calls.callWith_function (o:=o) (fd:=fd) (wpAny_mono (hargs (.ref a) pos A env s ρ H G _ vs hA F R hvs) (fun a' s1 h1=>?_) fun z0 z0 x=>x)
 obtain⟨xs,rfl,r1,k1⟩:=h1
 have R1:=R.keep k1.k
 refine⟨⟨(R1.base a o ho).1,hd⟩,?_⟩
 refine wpAny_mono (hf.wp A s1 H G vs xs _ hA (F.keep k1.k).frs R1 r1 hst hW) (fun y s2 h2=>?_) fun z0 z0 x=>x
 obtain⟨v,H2,G2,hq,hv,hsv,R2,S2⟩:=h2
 have F1:=F.keep k1.k
 exact⟨v,ρ,H2,G2,hq,hv,hsv,S2.wf F1 hs,hs,R2,(Step.kp R k1).trans (S2.frm F1)⟩
end
theorem Qx {kd:Str->Option NameKind}:∀ (binds:List (Str × Value)) (m:Str->Option Value) {x:Str} {v:Value},(binds.map (·.1)).Nodup->(x,v) ∈ binds->kd x=some .local->bindL kd binds m x=some v
 | [],_,_,_,_,h,_=>by simp at h
 | (n,u) :: r,m,x,v,hnd,h,hk=>by
  simp only [List.map_cons,List.nodup_cons]at hnd
  unfold bindL
  rcases List.mem_cons.mp h with e | h
  ·clear h;cases e
   rw[if_pos hk]
   have:∀ (r:List (Str × Value)) (m:Str->Option Value),n ∉ r.map (·.1)->bindL kd r m n=m n:=by
    intro r
    induction r with
    | nil=>intro m _;rfl
    | cons p r ih =>
     obtain⟨n',u'⟩:=p
     intro m hn
     simp only [List.map_cons,List.mem_cons,not_or]at hn
     unfold bindL
     rw[ih _ hn.2]
     set_option tactic.hygienic true in split
     ·simp[hn.1]
     ·rfl
   rw[this r _ hnd.1];simp
  ·exact Qx r _ hnd.2 h hk
theorem Qy {kd:Str->Option NameKind}:∀ (binds:List (Str × Value)) (m:Str->Option Value) {x:Str} {v:Value},(binds.map (·.1)).Nodup->(x,v) ∈ binds->kd x ≠ some .local->bindC kd binds m x=some v
 | [],_,_,_,_,h,_=>by simp at h
 | (n,u) :: r,m,x,v,hnd,h,hk=>by
  simp only [List.map_cons,List.nodup_cons]at hnd
  unfold bindC
  rcases List.mem_cons.mp h with e | h
  ·clear h;cases e
   rw[if_neg hk]
   have:∀ (r:List (Str × Value)) (m:Str->Option Value),n ∉ r.map (·.1)->bindC kd r m n=m n:=by
    intro r
    induction r with
    | nil=>intro m _;rfl
    | cons p r ih =>
     obtain⟨n',u'⟩:=p
     intro m hn
     simp only [List.map_cons,List.mem_cons,not_or]at hn
     unfold bindC
     rw[ih _ hn.2]
     set_option tactic.hygienic true in split
     ·rfl
     ·simp[hn.1]
   rw[this r _ hnd.1];simp
  ·exact Qy r _ hnd.2 h hk
structure FnSc (scope:Scope) (sc:Sc) (params:List Str):Prop where
 kind:scope.kind = .function
 nd:(scope.names.map (·.1)).Nodup
 vars:∀ x i,(x,i) ∈ sc.vars->(scope.names.lookup x=some .local\/scope.names.lookup x=some .cell)/\(i < params.length->params[i]? = some x)
 cel:∀ x,x ∈ sc.cel->scope.names.lookup x=some .cell
 gl:∀ x,x ∈ sc.globs->scope.names.lookup x=some .globalImplicit
 par:∀ x,x ∈ params->scope.names.lookup x=some .local\/scope.names.lookup x=some .cell
 pnd:params.Nodup
 scnd:∀ x i j,(x,i) ∈ sc.vars->(x,j) ∈ sc.vars->i=j
 scinj:∀ x y i,(x,i) ∈ sc.vars->(y,i) ∈ sc.vars->x=y
noncomputable def bT (o:Option NameKind):Bool:=o == some .local || o == some .cell
theorem Qi {o:Option NameKind}(h:bT o=true):o=some .local\/o=some .cell:=by
 simpa [bT]using h
noncomputable def Za (scope:Scope) (sc:Sc) (params:List Str):Bool :=
 Fb (scope.names.map (·.1)) && (sc.vars.all fun p=>bT (scope.names.lookup p.1) && (params.length<=p.2 || params[p.2]? == some p.1)) && (sc.cel.all fun x=>scope.names.lookup x == some .cell) && (sc.globs.all fun x=>scope.names.lookup x == some .globalImplicit) && (params.all fun x=>bT (scope.names.lookup x)) && Fb params && scB sc
theorem FnSc.of {scope:Scope}{sc:Sc}{params:List Str}(hk:scope.kind = .function)(h:Za scope sc params=true):FnSc scope sc params:=by
 refine Ac fun PP ret=>?_
 simp only [Za,Bool.and_eq_true,List.all_eq_true,Bool.or_eq_true,decide_eq_true_eq,beq_iff_eq]at h
 obtain⟨⟨⟨⟨⟨⟨h1,h2⟩,h3⟩,h4⟩,h5⟩,h6⟩,h7⟩:=h
 refine ret ?_
 refine⟨hk,Dk h1,fun x i hx=>⟨Qi (h2 (x,i) hx).1,fun hi=>?_⟩,fun x hx=>?_,fun x hx=>?_,fun x hx=>Qi (h5 x hx),Dk h6,(Op h7).1,(Op h7).2⟩
 ·rcases(h2 (x,i) hx).2 with q | q
  ·exact absurd hi (Nat.not_lt.mpr q)
  ·exact q
 ·exact h3 x hx
 ·exact h4 x hx
noncomputable def BindR (C:Cx) (fd:FuncData) (params:List Str) (b:List AV->Option (List AV)):Prop :=
 ∀ (A:Around) (s:Shared) (H:AH) (G:Gh) (vs ws:List AV) (xs:List Value),Rel C H G (own H G) s.heap->VRels s.heap (own H G) G vs xs->AV.stos vs=true->b vs=some ws ->
  wpAny (model C.prog C.w) A (bindArgs fd ⟨xs,[]⟩) (fun binds s'=>∃ ys,binds=params.zip ys/\ws.length=params.length/\VRels s'.heap (own H G) G ws ys/\AV.stos ws=true/\Kp s s') (fun z0 z0=>False) s
noncomputable def Bi (b:List AV->Option (List AV)) (T:Wp AFlow):FW:=fun vs Q H=>∃ ws,b vs=some ws/\T (fun fl z0 H'=>match fl with
 | .ret v=>Q v H'
 | .next=>Q .none H'
 | _=>False) (fun i=>ws.getD i .undef) H
theorem cH {C:Cx}{A:Around}{sc:Sc}{fd:FuncData}{params:List Str}{s s':Shared}{H:AH}{G:Gh}{a:Addr}{ws:List AV}{ys:List Value}(hsc:FnSc fd.scope sc params)(hg:fd.globals=mainGlobals)(hb:fd.builtins=builtinsNs)(hF:FrsA C A (own H G) s.heap)(R:Rel C H G (own H G) s.heap)(hr:VRels s.heap (own H G) G ws ys)(hlen:ws.length=params.length)
  (X:InCallC s (callEnvC fd s.heap.objs.size a).locals (bindL (callEnvC fd s.heap.objs.size a).kindOf (params.zip ys) fun z0=>none) (callEnvC fd s.heap.objs.size a).cells (bindC (callEnvC fd s.heap.objs.size a).kindOf (params.zip ys) fun z0=>none) s') :
  WF C (A.deeper (callEnvC fd s.heap.objs.size a)) sc (callEnvC fd s.heap.objs.size a) (fun i=>ws.getD i .undef) G (own H G) s'.heap:=by
 have hko:∀ x,(callEnvC fd s.heap.objs.size a).kindOf x=fd.scope.names.lookup x:=fun z0=>rfl
 have hL:(callEnvC fd s.heap.objs.size a).locals=s.heap.objs.size:=rfl
 have hyl:=hr.length
 have hzn:((params.zip ys).map (·.1)).Nodup:=by
  rw[List.map_fst_zip (by exact Ar.r29 hlen hyl)];exact hsc.pnd
 have hbind:∀ x i,(x,i) ∈ sc.vars->i < params.length->∃ y v,(x,y) ∈ params.zip ys/\ws[i]? = some v/\VRel s.heap (own H G) G v y:=by
  intro x i hx hi
  have h1:=(hsc.vars x i hx).2 hi
  have hw:i < ws.length:=by exact Ar.r38 hlen hi
  obtain⟨y,hy,hv⟩:=hr.get (List.getElem?_eq_getElem hw)
  refine⟨y,ws[i],?_,List.getElem?_eq_getElem hw,hv⟩
  apply List.mem_of_getElem? (i:=i)
  rw[List.getElem?_zip_eq_some];exact⟨h1,hy⟩
 have hkk:=X.toInCall.keep
 have hlo:∀ b,own H G b->b < s.heap.objs.size:=fun b hb=>R.lt hb
 have hcc:∀ x c,(x,c) ∈ (callEnvC fd s.heap.objs.size a).cells->∃ ov,s'.heap.IsCell c ov:=by
  intro x c hx
  obtain⟨c',hc'⟩:=Bw hx
  have hm':=PySem.mem_of_lookup hc'
  have:c=c':=by
   have hn:((callEnvC fd s.heap.objs.size a).cells.map (·.1)).Nodup:=by
    have:∀ (names:List (Str × NameKind)) (n:Nat),(names.map (·.1)).Nodup->((cellsFrom n names []).map (·.1)).Nodup:=by
     intro names
     induction names with
     | nil=>intro n _;simp[cellsFrom]
     | cons p r ih =>
      obtain⟨y,kd⟩:=p
      intro n hn
      simp only [List.map_cons,List.nodup_cons]at hn
      unfold cellsFrom
      set_option tactic.hygienic true in split
      ·rw[Be,List.map_append,List.nodup_append]
       refine⟨ih _ hn.2,by simp,?_⟩
       intro u hu v hv
       simp at hv;clear R X hF hL hb hbind hc' hg hkk hko hlen hlo hm' hr hsc hx hyl hzn ih;subst hv
       rintro rfl
       obtain⟨⟨q1,q2⟩,hq,rfl⟩:=List.mem_map.mp hu
       exact hn.1 (List.mem_map.mpr ⟨_,Cl _ _ hq,rfl⟩)
      ·exact ih _ hn.2
    exact this _ _ hsc.nd
   exact Pz hn hx hm'
  clear R hF hL hb hbind hg hkk hko hlen hlo hm' hr hsc hx hyl hzn;subst this
  exact⟨_,X.cell x c hc'⟩
 refine⟨hsc.kind,hg,hb,⟨_,X.toInCall.ns,fun x i hx hl=>?_⟩,fun x i hx hl=>?_,fun x hx=>?_,fun x hx=>?_,X.apart,fun x c hx=>?_,hcc,fun q=>Nat.lt_irrefl _ (hlo _ q),fun x c hx q=>?_,fun b hb'=>?_,hsc.scnd,hsc.scinj,?_,fun z0=>⟨rfl,hF.imp fun l h=>Around.frames_deeper h.1⟩⟩
 rotate_right
 ·refine Ac fun PP ret=>?_
  obtain⟨l,e,f1,f2⟩:=hF.keep hkk
  have hn:C.h0.get? s.heap.objs.size=none:=by
   clear X f1 f2 hF hL hb hbind hcc hg hkk hko hlen hlo hr hsc hyl hzn ret;cases e:C.h0.get? s.heap.objs.size with
   | none=>rfl
   | some o=>exact absurd (Heap.lt_size (R.base _ o e).1) (Nat.lt_irrefl _)
  refine ret ?_
  refine⟨_,Around.frames_deeper e,Heap.FunFrames.cons (L:=s.heap.objs.size) (by rw[show (callEnvC fd s.heap.objs.size a).scope.kind=_ from hsc.kind];decide) rfl X.toInCall.ns hn f1,fun b hb=>?_⟩
  rw[List.filterMap_cons]at hb
  rcases List.mem_cons.mp hb with q | q
  ·refine Ac fun PP ret=>?_
   clear R e f1 f2 hF hL hb hbind hcc hg hkk hko hlen hn hr hsc hyl hzn;subst q
   obtain⟨o,es,ep,ho,hd,_⟩:=X.toInCall.ns
   refine ret ?_
   exact⟨fun q=>Nat.lt_irrefl _ (hlo _ q),o,es,ep,ho,hd⟩
  ·exact f2 b q
 ·by_cases hi:i < params.length
  ·refine Ac fun PP ret=>?_
   obtain⟨y,v,hm,hv,hr'⟩:=hbind x i hx hi
   refine ret ?_
   right
   refine⟨y,Qx _ _ hzn hm hl,?_⟩
   have:(ws.getD i .undef)=v:=by simp[List.getD,hv]
   rw[this];exact hr'.keep hkk
  ·left
   have:ws[i]? = none:=List.getElem?_eq_none (by exact Ar.r34 hlen hi)
   simp[List.getD,this]
 ·have hcell:fd.scope.names.lookup x=some .cell:=by
   rcases(hsc.vars x i hx).1 with q | q
   ·exact absurd (by rw[hko];exact q) hl
   ·exact q
  obtain⟨c,hcm⟩:=Dd fd.scope.names (s.heap.objs.size + 1) (PySem.mem_of_lookup hcell)
  obtain⟨c',hc'⟩:=Bw hcm
  refine⟨.inl (by rw[hko];exact hcell),c',_,hc',X.cell x c' hc',?_⟩
  by_cases hi:i < params.length
  ·refine Ac fun PP ret=>?_
   obtain⟨y,v,hm,hv,hr'⟩:=hbind x i hx hi
   refine ret ?_
   right
   refine⟨y,Qy _ _ hzn hm hl,?_⟩
   have:(ws.getD i .undef)=v:=by simp[List.getD,hv]
   rw[this];exact hr'.keep hkk
  ·left
   have:ws[i]? = none:=List.getElem?_eq_none (by exact Ar.r34 hlen hi)
   simp[List.getD,this]
 ·rw[hko,hsc.cel x hx];simp
 ·rw[hko];exact hsc.gl x hx
 ·have:=X.above x c hx
  intro e;rw[e]at this;exact Nat.lt_irrefl _ this
 ·have h1:=X.above x c hx
  have h2:=hlo c q
  rw[hL]at h1
  exact Nat.lt_irrefl _ (Nat.lt_trans h1 h2)
 ·clear hF hb hbind hcc hg hkk hko hlen hlo hr hsc hyl hzn;cases e:C.h0.get? b with
  | none=>rfl
  | some o =>
   exfalso
   have hlt:=Heap.lt_size (R.base b o e).1
   rcases hb' with rfl | ⟨x,hx⟩
   ·exact Nat.lt_irrefl _ hlt
   ·have h1:=X.above x b hx
    rw[hL]at h1
    exact Nat.lt_irrefl _ (Nat.lt_trans h1 hlt)
theorem CallR.fn {C:Cx}{k:Nat}{sc:Sc}{a:Addr}{o:Obj}{fd:FuncData}{body:List Stmt}{params:List Str}{b:List AV->Option (List AV)}{T:Wp AFlow}(ho:C.h0.get? a=some o)(hd:o.data = .func fd)(hcd:C.h0.CodeRec fd.code fd.qualname)(hbody:fd.body = .stmts body)(hclo:fd.closure=[])(hg:fd.globals=mainGlobals)(hb:fd.builtins=builtinsNs)
  (hsc:FnSc fd.scope sc params) (hbind:BindR C fd params b) (hT:StmtsR C k sc body T) (hco:fd.scope.isCoroutine=false:=by rfl) (hgen:fd.scope.isGenerator=false:=by rfl):CallR C (k + 1) (.ref a) (Bi b T):=by
 rintro A s H G vs xs Q hA hF R hr hst ⟨ws,hws,hT'⟩
 obtain⟨hA1,hA2,hA3⟩:=hA
 refine codeAny_call_function (by unfold recursionLimit;exact Ar.r51 hA2) (R.base a o ho).1 hd hco hgen hbody (hcd.keeps fun b o e=>(R.base b o e).1) ?_
 refine wpAny_mono (hbind A.in1 s H G vs ws xs R hr hst hws) (fun binds s1 h1=>?_) fun z0 z0 x=>x.elim
 obtain⟨ys,rfl,hlen,hr1,hst1,k1⟩:=h1
 have R1:=R.keep k1.k
 rw[hclo]
 have hyl:=hr1.length
 refine wpAny_newFunctionEnv_cells hsc.kind (fun x hx=>?_) fun env he s2 X=>?_
 ·have hm:x.1 ∈ params:=by
   obtain⟨x1,x2⟩:=x
   exact(List.of_mem_zip hx).1
  rcases hsc.par x.1 hm with q | q
  ·exact .inl q
  ·right
   refine⟨q,?_⟩
   obtain⟨c,hcm⟩:=Dd fd.scope.names (s1.heap.objs.size + 1) (PySem.mem_of_lookup q)
   obtain⟨c',hc'⟩:=Bw hcm
   rw[hc'];rfl
 ·have he':env=callEnvC fd s1.heap.objs.size a:=he
  subst he'
  have F2:=cH hsc hg hb (hF.keep k1.k) R1 hr1 hlen X
  have k2:Kp s1 s2:=⟨let ⟨h,tk,e⟩:=X.toInCall.same;⟨h,tk,e⟩,X.toInCall.keep⟩
  have k12:=k1.trans' k2
  have R2:=R.keep k12.k
  refine⟨C.lim.keeps fun b o e=>(R2.base b o e).1,codeAny_func ?_⟩
  have hA':AOk k (A.deeper (callEnvC fd s1.heap.objs.size a)):=⟨hA1,by refine(?_:A.depth + 1 + k + 20<=900);exact Ar.r50 hA2,by rw[Around.deeper_units];exact Ar.r65 hA3⟩
  have hsto:stoR sc (fun i=>ws.getD i .undef):=fun x i z0=>by
   refine(?_:(ws.getD i .undef).sto=true)
   rw[List.getD_eq_getElem?_getD]
   cases q:ws[i]? with
   | none=>rfl
   | some v=>exact Bq hst1 (List.mem_of_getElem? q)
  refine wpAny_mono (hT _ _ s2 _ H G _ hA' F2 hsto R2 hT') (fun fl s3 h3=>?_) fun z0 z0 x=>x.elim
  obtain⟨af,ρ3,H3,G3,hq3,hf,F3,hs3,R3,S3⟩:=h3
  have hfr:∀ b,fr (callEnvC fd s1.heap.objs.size a) b->s.heap.get? b=none:=by
   intro b hb'
   have hge:s1.heap.objs.size<=b:=by
    rcases hb' with rfl | ⟨x,hx⟩
    ·exact Nat.le_refl _
    ·exact Nat.le_of_lt (X.above x b hx)
   cases e:s.heap.get? b with
   | none=>rfl
   | some o=>exact absurd (Heap.lt_size (k1.k b o e)) (Nat.not_lt.mpr hge)
  have S:Step (fun z0=>False) H G s H3 G3 s3:=by
   refine⟨?_,fun b o h1 z0 e=>S3.keep b o h1 (fun q=>by rw[hfr b q]at e;exact nqa e) (k12.k b o e),fun z0 z0 x=>x.elim,fun b hb'=>(S3.fresh b hb').imp id fun q=>?_,fun x o e l=>?_⟩
   ·obtain⟨⟨h1,t1,rfl⟩,_⟩:=k12;obtain⟨h2,t2,rfl⟩:=S3.same;exact⟨_,_,rfl⟩
   ·cases e:s.heap.get? b with
    | none=>rfl
    | some o=>rw[k12.k b o e]at q;exact nqb q
   ·obtain⟨q1,q2,q3⟩:=S3.lock x o e l
    refine⟨q1,q2,fun b hb'=>(q3 b hb').trans ?_⟩
    obtain⟨ob,eb⟩:=R.live b ⟨x,by rw[e];simp,hb'⟩
    rw[eb];exact k12.k b ob eb
  cases af with
  | next=>cases hf.nextE;exact⟨.none,H3,G3,hq3,by simp[vRn],rfl,R3,S⟩
  | ret v=>obtain⟨x,rfl,hf⟩:=hf.retE;exact⟨v,H3,G3,hq3,hf.1,hf.2,R3,S⟩
  | brk=>exact hq3.elim
  | cont=>exact hq3.elim
noncomputable def Dx (n:Nat) (vs:List AV):Option (List AV):=if vs.length=n then some vs else none
theorem BindR.plain {C:Cx}{fd:FuncData}{params:List Str}(h:∀ xs:List Value,xs.length=params.length->bindArgs fd ⟨xs,[]⟩=pure (params.zip xs)):BindR C fd params (Dx params.length):=by
 intro A s H G vs ws xs R hr hst hb
 unfold Dx at hb
 refine Bo hb ?_;clear hb;intro hl hb
 obtain rfl:=Option.some.inj hb
 rw[h xs (by rw[hr.length,hl])]
 exact wpAny_pure ⟨xs,rfl,hl,hr,hst,.refl' s⟩
end Mine
end
section
namespace Mine
noncomputable def BCallR (C:Cx) (k:Nat) (f:Value) (g:AH->List AV->Option AV):Prop :=
 ∀ (A:Around) (s:Shared) (H:AH) (G:Gh) (O:Addr->Prop) (vs:List AV) (xs:List Value) (r:AV),AOk k A->Rel C H G O s.heap->VRels s.heap O G vs xs->g H vs=some r ->
  wpAny (model C.prog C.w) A (call f xs) (fun z s'=>VRel s'.heap O G r z/\Kp s s') (fun z0 z0=>False) s
noncomputable def bP' (g:AH->List AV->Option AV) (fs:LF):PF:=fun ρ H=>match fs ρ H with
 | some vs=>g H vs
 | none=>none
theorem bP'_some {g:AH->List AV->Option AV}{fs:LF}{ρ:Rho}{H:AH}{r:AV}(h:bP' g fs ρ H=some r):∃ vs,fs ρ H=some vs/\g H vs=some r:=by
 unfold bP' at h
 refine Oy h ?_;clear h;intro z1 q1 h
 exact⟨_,by assumption,h⟩
section
variable {C:Cx} {k:Nat} {sc:Sc} {f f':PF}
theorem PureE.bcall {x:Str}{p pos:Pos}{args:List Expr}{id:String}{fs:LF}{g:AH->List AV->Option AV}(hx:x ∈ sc.globs)(hm:C.mg x=Option.none)(hb:C.mb x=some (.builtin id))(ha:ArgsF C k sc args fs)(hg:BCallR C k (.builtin id) g)
  (hns:Ig args:=by intro _;rfl) (hd:(x == ("__debug__":Str))=false:=by decide):PureE C k sc (.Call (.Name x p) args [] pos) (bP' g fs):=by
 intro A env s ρ H G O r hA F R hr
 obtain⟨vs,hvs,hg'⟩:=bP'_some hr
 refine wpAny_Call_NameR (wpAny_Name (Cf F R hx (.inr ⟨hm,hb⟩) ?_) hd)
 refine Calls.callWith_builtin (Ct hns pos env) (wpAny_mono (ha (.builtin id) pos A env s ρ H G O vs hA F R hvs) (fun a s1 h1=>?_) fun z0 z0 x=>x)
 obtain⟨xs,rfl,r1,k1⟩:=h1
 exact wpAny_mono (hg A s1 H G O vs xs r hA (R.keep k1.k) r1 hg') (fun z s2 h2=>⟨h2.1,k1.trans' h2.2⟩) fun z0 z0 x=>x
theorem PureE.tcall {x:Str}{p pos:Pos}{args:List Expr}{T:String}{fs:LF}{g:AH->List AV->Option AV}(hx:x ∈ sc.globs)(hm:C.mg x=Option.none)(hb:C.mb x=some (.type T))(ha:ArgsF C k sc args fs)(hg:BCallR C k (.type T) g)
  (hns:Ig args:=by intro _;rfl) (hd:(x == ("__debug__":Str))=false:=by decide):PureE C k sc (.Call (.Name x p) args [] pos) (bP' g fs):=by
 intro A env s ρ H G O r hA F R hr
 obtain⟨vs,hvs,hg'⟩:=bP'_some hr
 refine wpAny_Call_NameR (wpAny_Name (Cf F R hx (.inr ⟨hm,hb⟩) ?_) hd)
 refine PySem.callWith_type (Ct hns pos env) (wpAny_mono (ha (.type T) pos A env s ρ H G O vs hA F R hvs) (fun a s1 h1=>?_) fun z0 z0 x=>x)
 obtain⟨xs,rfl,r1,k1⟩:=h1
 exact wpAny_mono (hg A s1 H G O vs xs r hA (R.keep k1.k) r1 hg') (fun z s2 h2=>⟨h2.1,k1.trans' h2.2⟩) fun z0 z0 x=>x
noncomputable def eM (H:AH):AV->Option Nat
 | .tup vs=>some vs.length
 | .fl vs=>some vs.length
 | .ref a=>match H a with
  | some (.f (.lst _ vs))=>some vs.length
  | some (.f (.mat _ M))=>some M.length
  | _=>none
 | .row a i=>match H a with
  | some (.f (.mat _ M))=>(M[i]?).map (·.length)
  | _=>none
 | _=>none
theorem To {H:AH}{a:Addr}:eM H (.ref a)=match H a with | some (.f (.lst _ vs))=>some vs.length | some (.f (.mat _ M))=>some M.length | _=>none:=rfl
noncomputable def Fw (H:AH):List AV->Option AV
 | [v]=>(eM H v).map fun (n:Nat)=>AV.int (n:Int)
 | _=>none
theorem Tp {H:AH}{v:AV}:Fw H [v]=(eM H v).map fun (n:Nat)=>AV.int (n:Int):=rfl
theorem BCallR.len:BCallR C k (.builtin "len") Fw:=by
 intro A s H G O vs xs r hA R hr e
 unfold Fw at e
 refine Yx e ?_;clear e;intro v q1 e;subst q1
 obtain⟨n,hn,rfl⟩:=Option.map_eq_some_iff.mp e
 simp only [vSn,vSc]at hr
 obtain⟨x,_,rfl,hv,rfl⟩:=hr
 have lst:∀ (a:Addr) (m:Nat) (items:List Value),s.heap.get? a=some (Bt items m)->items.length=n->n<=lim->x = .ref a->wpAny (model C.prog C.w) A (call (.builtin "len") [x]) (fun z s'=>VRel s'.heap O G (.int n) z/\Kp s s') (fun z0 z0=>False) s:=by
  intro a m items hg hl hz hx
  subst hx
  refine Calls.call_len_list (Aj hg) (by rw[List.size_toArray,hl];rw[Au]at hz;lia) ?_
  rw[List.size_toArray,hl]
  exact⟨by simp[vRi],.tok⟩
 cases v with
 | tup ws =>
  obtain rfl:=Option.some.inj hn
  simp only [vRp]at hv
  obtain⟨a,m,items,rfl,hg,_,hz,hr⟩:=hv
  have hl:=hr.length
  rw[Au]at hz
  refine P.len_tuple hg (by rw[List.size_toArray,hl];lia) ?_
  rw[List.size_toArray,hl]
  exact⟨by simp[vRi],.tok⟩
 | fl ws =>
  obtain rfl:=Option.some.inj hn
  simp only [vRf]at hv
  obtain⟨a,m,items,rfl,hg,_,hz,hr⟩:=hv
  exact lst a m items hg hr.length hz rfl
 | ref a =>
  simp only [vRr]at hv;subst hv
  replace hn:(match H a with | some (.f (.lst _ vs))=>some vs.length | some (.f (.mat _ M))=>some M.length | _=>none)=some n:=hn
  generalize hH:H a=o at hn
  cases o with
  | none=>exact nqa hn
  | some o=>cases o with
   | srt=>exact nqa hn
   | f o=>cases o with
    | lst lk ws =>
     obtain rfl:=Option.some.inj hn
     obtain⟨_,_,hz,m,items,hg,hr⟩:=R.obj a _ hH
     exact lst a m items hg hr.length hz rfl
    | mat lk M =>
     obtain rfl:=Option.some.inj hn
     obtain⟨⟨m,hg⟩,hl,hz,_⟩:=R.obj a _ hH
     exact lst a m _ hg (by simpa using hl) hz rfl
    | _=>exact nqa hn
 | row a i =>
  refine gU hn ?_;clear hn;intro lk M hH hn
  obtain⟨ws,hws,rfl⟩:=Option.map_eq_some_iff.mp hn
  obtain⟨b,m,items,rfl,hg,hr,hz⟩:=Ao R hv ((Th hH).trans hws)
  exact lst b m items hg hr.length hz rfl
 | _=>exact nqa hn
noncomputable def Gi:List AV->Option (List Int)
 | []=>some []
 | .int i :: r=>(Gi r).map (i :: ·)
 | _=>none
theorem Sk (l:List Int):Gi (l.map .int)=some l:=by induction l with
 | nil=>rfl
 | cons x l ih=>exact congrArg (Option.map (x :: ·)) ih
theorem Gu:∀ {vs:List AV} {l:List Int},Gi vs=some l->vs=l.map .int
 | [],l,h=>Option.some.inj h ▸ rfl
 | .int i :: r,l,h=>by
  obtain⟨l',h',rfl⟩:=Option.map_eq_some_iff.mp h
  simp[Gu h']
 | .undef :: _,_,h=>nqa h
 | .none :: _,_,h=>nqa h
 | .bool _ :: _,_,h=>nqa h
 | .str _ :: _,_,h=>nqa h
 | .tup _ :: _,_,h=>nqa h
 | .fl _ :: _,_,h=>nqa h
 | .ref _ :: _,_,h=>nqa h
 | .row _ _ :: _,_,h=>nqa h
 | .bi _ :: _,_,h=>nqa h
 | .ty _ :: _,_,h=>nqa h
noncomputable def Nu (H:AH) (v:AV):Option (List Int):=(itV H v).bind Gi
theorem Tq {A:Around}{s:Shared}{H:AH}{G:Gh}{O:Addr->Prop}{v:AV}{x:Value}{vs:List AV}{Q:Value->Shared->Prop}(hh:A.handled=none)(R:Rel C H G O s.heap)(hv:VRel s.heap O G v x)(hi:itV H v=some vs)
  (hQ:∀ s2 I fp wr a P St,Kp s s2->vs.length<=lim->ItOK C A s s2 O G vs I fp wr [a] P St->Q (.ref I) s2):wpAny (model C.prog C.w) A (pyIter x) Q (fun z0 z0=>False) s:=by
 cases v with
 | tup ws =>
  obtain rfl:=Option.some.inj hi
  simp only [vRp]at hv
  obtain⟨a,n,items,rfl,hg,hO,hz,hr⟩:=hv
  exact Md hh (.refl' s) hg hr fun s2 I fp wr P St z0 k2 ok=>hQ s2 I fp wr a P St k2 hz ok
 | fl ws =>
  obtain⟨a,n,items,rfl,hg,hr,hz⟩:=Ao R hv hi
  exact Ed hh (.refl' s) hg hr fun s2 I fp wr P St z0 k2 ok=>hQ s2 I fp wr a P St k2 hz ok
 | ref a =>
  obtain⟨a,n,items,rfl,hg,hr,hz⟩:=Ao R hv hi
  exact Ed hh (.refl' s) hg hr fun s2 I fp wr P St z0 k2 ok=>hQ s2 I fp wr a P St k2 hz ok
 | row a i =>
  obtain⟨a,n,items,rfl,hg,hr,hz⟩:=Ao R hv hi
  exact Ed hh (.refl' s) hg hr fun s2 I fp wr P St z0 k2 ok=>hQ s2 I fp wr a P St k2 hz ok
 | _=>exact nqa hi
theorem ItOK.fplt {A:Around}{s s2:Shared}{O:Addr->Prop}{G:Gh}{vs:List AV}{I:Addr}{fp wr cs:List Addr}{P:Nat->Value->Prop}{St:Nat->Heap->Prop}(ok:ItOK C A s s2 O G vs I fp wr cs P St):∀ b ∈ fp,b < s2.heap.objs.size:=fun b hb=>by
 rcases ok.cont b hb with h | h
 ·obtain⟨o,e⟩:=(ok.new b h).2;exact Heap.lt_size e
 ·obtain⟨o,e⟩:=ok.csl b h;exact Heap.lt_size e
theorem ItOK.kp {A:Around}{s s2:Shared}{O:Addr->Prop}{G:Gh}{vs:List AV}{I:Addr}{fp wr cs:List Addr}{P:Nat->Value->Prop}{St:Nat->Heap->Prop}(ok:ItOK C A s s2 O G vs I fp wr cs P St)(k2:Kp s s2){h':Heap}{tk:Nat}(hk:∀ b o,b ∉ wr->s2.heap.get? b=some o->h'.get? b=some o) :
  Kp s { s2 with heap:=h',toks:=tk }:=by
 refine⟨let ⟨h2,t2,e⟩:=k2.same;⟨h',tk,by rw[e]⟩,fun b o e=>hk b o (fun q=>by rw[(ok.new b q).1]at e;exact nqa e) (k2.k b o e)⟩
theorem ItOK.ints {A:Around}{s s2:Shared}{O:Addr->Prop}{G:Gh}{l:List Int}{I:Addr}{fp wr cs:List Addr}{P:Nat->Value->Prop}{St:Nat->Heap->Prop}(ok:ItOK C A s s2 O G (l.map .int) I fp wr cs P St) :
  ∀ i v,P i v->∃ t,v = .int (l.getD i 0) t:=fun i v hP=>by
 obtain⟨u,hu,hr⟩:=ok.item i v hP
 simp only [List.getElem?_map]at hu
 obtain⟨z,hz,rfl⟩:=Option.map_eq_some_iff.mp hu
 simp only [vRi]at hr
 simpa [List.getD,hz]using hr
theorem Yz {l:List Int}{i:Nat}(h:i < l.length):l.getD i 0 ∈ l:=by
 have:l.getD i 0=l[i]:=by simp[List.getD,h]
 rw[this];exact List.getElem_mem _
noncomputable def Yh (H:AH):List AV->Option AV
 | [v]=>((Nu H v).bind (·.min?)).map .int
 | [.int a,.int b]=>some (.int (min a b))
 | _=>none
noncomputable def Ul (H:AH):List AV->Option AV
 | [v]=>(Nu H v).map fun l=>.int l.sum
 | _=>none
theorem BCallR.min:BCallR C k (.builtin "min") Yh:=by
 intro A s H G O vs xs r hA R hr e
 cases vs with
 | nil=>exact nqa e
 | cons v l=>cases l with
  | nil =>
   obtain⟨z,hz,rfl⟩:=Option.map_eq_some_iff.mp e
   obtain⟨l,hl,hmin⟩:=Option.bind_eq_some_iff.mp hz
   obtain⟨ws,hws,hl⟩:=Option.bind_eq_some_iff.mp hl
   have:=Gu hl
   clear e hl;clear hl;subst this
   simp only [vSn,vSc]at hr
   obtain⟨x,_,rfl,hv,rfl⟩:=hr
   refine call_min_walk (Tq hA.1 R hv hws fun s2 I fp wr a P St k2 hz ok=>?_)
   have hn:0 < l.length:=by cases l with
    | nil=>simp at hmin
    | cons _ _=>simp
   refine⟨I,fp,wr,_,P,St,_,rfl,ok.W,ok.st,ok.fplt,by simpa using hn,CmpOf.ints_lt (fun i=>l.getD i 0) ok.ints,fun v h' tk hP hk=>⟨?_,ok.kp k2 hk⟩⟩
   obtain⟨t,rfl⟩:=ok.ints _ v hP
   simp only [vRi]
   refine⟨t,?_⟩
   congr 1
   obtain⟨h1,h2⟩:=argBest_lt (fun i=>l.getD i 0) ((l.map AV.int).length - 1)
   rw[List.min?_eq_some_iff]at hmin
   rw[List.length_map]at h1 h2 ⊢
   have hlt:argBest (fun i j=>decide (l.getD i 0 < l.getD j 0)) (l.length - 1) < l.length:=by exact Ar.r150 hn h1
   apply Int.le_antisymm
   ·obtain⟨j,hj,ej⟩:=List.mem_iff_getElem.mp hmin.1
    have:=h2 j (by exact Ar.r189 hj)
    simpa [List.getD,hj,ej]using this
   ·apply hmin.2
    exact Yz hlt
  | cons w l =>
   set_option tactic.hygienic true in cases w <;> first | exact nqa e | skip
   cases l with
   | cons=>exact nqa e
   | nil =>
    set_option tactic.hygienic true in cases v <;> first | exact nqa e | skip
    rename_i b a
    clear R;obtain rfl:=Option.some.inj e
    simp only [vSn,vSc,vRi]at hr
    clear e;obtain⟨x,_,rfl,⟨t,rfl⟩,y,_,rfl,⟨u,rfl⟩,rfl⟩:=hr
    refine min_two_ints hA.1 fun h' tk hk=>⟨?_,⟨⟨h',tk,rfl⟩,hk⟩⟩
    simp only [vRi]
    set_option tactic.hygienic true in split
    ·exact⟨u,by congr 1;lia⟩
    ·exact⟨t,by congr 1;lia⟩
theorem Kk (l:List Int):∀ n,n<=l.length->preSum (fun i=>l.getD i 0) n=(l.take n).sum
 | 0,_=>by simp[preSum]
 | n + 1,h=>by
  rw[preSum,Kk l n (by exact Ar.r59 h),List.take_add_one,List.sum_append]
  have:n < l.length:=by exact Ar.r60 h
  simp[List.getD,this]
theorem BCallR.sum:BCallR C k (.builtin "sum") Ul:=by
 intro A s H G O vs xs r hA R hr e
 unfold Ul at e
 refine Yx e ?_;clear e;intro v q1 e;subst q1
 obtain⟨l,hl,rfl⟩:=Option.map_eq_some_iff.mp e
 obtain⟨ws,hws,hl⟩:=Option.bind_eq_some_iff.mp hl
 have:=Gu hl
 clear hl;subst this
 simp only [vSn,vSc]at hr
 clear hl;obtain⟨x,_,rfl,hv,rfl⟩:=hr
 refine call_sum_walkAnyS (Tq hA.1 R hv hws fun s2 I fp wr a P St k2 hz ok=>?_)
 refine⟨I,fp,wr,_,_,P,_,fun i=>l.getD i 0,rfl,ok.W.toS,ok.st,ok.fplt,ok.ints,fun s' t' hm=>?_⟩
 have e1:preSum (fun i=>l.getD i 0) (l.map AV.int).length=l.sum:=by
  rw[List.length_map,Kk l _ (Nat.le_refl _),List.take_length]
 rw[e1]
 refine⟨by simp[vRi],?_,fun b o e=>?_⟩
 ·clear R e e1 hA hv hws hz ok;obtain⟨⟨h2,t2,rfl⟩,_⟩:=k2
  obtain⟨h3,g3,d3,t3,o3⟩:=s'
  have q1:=hm.gens;have q2:=hm.drawn;have q3:=hm.os
  simp only at q1 q2 q3
  subst q1 q2 q3
  exact⟨_,_,rfl⟩
 ·exact hm.heap b o (fun q=>by rw[(ok.new b q).1]at e;exact nqa e) (k2.k b o e)
end
end Mine
end
section
namespace Mine
section
variable {C:Cx} {k:Nat} {sc:Sc} {f f':PF}
noncomputable def Oj (H:AH):List AV->Option AV
 | [v]=>(Bf H v).map .tup
 | _=>none
theorem aN {H:AH}{v:AV}:Oj H [v]=(Bf H v).map .tup:=rfl
theorem BCallR.tuple:BCallR C k (.type "tuple") Oj:=by
 intro A s H G O vs xs r hA R hr e
 unfold Oj at e
 refine Yx e ?_;clear e;intro v q1 e;subst q1
 refine Ac fun PP ret=>?_
 obtain⟨ws,hws,rfl⟩:=Option.map_eq_some_iff.mp e
 simp only [vSn,vSc]at hr
 obtain⟨x,_,rfl,hv,rfl⟩:=hr
 obtain⟨a,n,items,rfl,hg,hr,hz⟩:=Ao R hv hws
 have hl:=hr.length
 refine ret ?_
 refine call_tuple_list (Aj hg) (fun h' hk=>?_) (by have:=Cj;simp;exact Ar.r95 hz hl this)
 have kp:Kp s { s with heap:=h'.push { cls:=.type "tuple",data:=.seq items.toArray } }:=⟨⟨_,s.toks,rfl⟩,fun b o e=>Heap.get?_push_of_some _ (hk b o e)⟩
 refine⟨?_,kp⟩
 simp only [vRp]
 refine⟨h'.objs.size,0,items,rfl,Heap.get?_push_size _ rfl,fun q=>?_,hz,hr.keep kp.k⟩
 obtain⟨o,e⟩:=R.live _ q
 exact absurd (Heap.lt_size (hk _ _ e)) (Nat.lt_irrefl _)
theorem Hf (l:Addr)(items:List Value)(n:Nat)(hz:(items.length:Int) < 2 ^ 63):Meets (Builtin.«bool.__new__» ⟨[.type "bool",.ref l],[]⟩) (fun z0 R s=>s.heap.get? l=some (Bt items n)/\R (.ok (.ret (.bool (!items.toArray.isEmpty)))) { s with toks:=s.toks + 1 + 1 }) :=
 Meets.of_wp fun prog w A R s hs=>by
  obtain⟨hp,g,d,tk,os⟩:=s
  obtain⟨hl,hs⟩:=hs
  have hl':(⟨hp,g,d,tk,os⟩:Shared).heap.IsList l items.toArray:=Aj hl
  have hz':(items.toArray.size:Int) < 2 ^ 63:=by simpa using hz
  have f1:=PySem.F.conv_sub_bool
  repeat (any_goals (first | assumption | with_reducible apply wpAny_truthy_list hl' hz' | wp_step))
  all_goals first | exact⟨_,rfl,hs⟩ | skip
noncomputable def Ug (H:AH):List AV->Option AV
 | [v]=>(Bf H v).map fun vs=>.bool (!vs.isEmpty)
 | _=>none
theorem BCallR.bool:BCallR C k (.type "bool") Ug:=by
 intro A s H G O vs xs r hA R hr e
 unfold Ug at e
 refine Yx e ?_;clear e;intro v q1 e;subst q1
 obtain⟨ws,hws,rfl⟩:=Option.map_eq_some_iff.mp e
 simp only [vSn,vSc]at hr
 obtain⟨x,_,rfl,hv,rfl⟩:=hr
 obtain⟨a,n,items,rfl,hg,hr,hz⟩:=Ao R hv hws
 have hl:=hr.length
 refine call_bool_1 (Hf a items n (by rw[Au]at hz;lia)) ⟨hg,rfl,?_,.tok⟩
 have h3:(!items.toArray.isEmpty)=(!ws.isEmpty):=by
  cases ws with
  | nil=>have:items=[]:=List.eq_nil_of_length_eq_zero (by simpa using hl);subst this;rfl
  | cons v vs=>cases items with
   | nil=>simp at hl
   | cons _ _=>rfl
 simp only [vRb];rw[h3]
theorem Eo {h h':Heap}{l:Addr}{items ys:List Value}{n:Nat}{g:Array Value->Array Value}(hl:h.get? l=some (Bt items n))(hg:g items.toArray=ys.toArray):∃ n',(h.update l (Obj.mapSeq g)).get? l=some (Bt ys n'):=by
 have:=IsL.update (h:=h) (l:=l) (items:=items.toArray) (n:=n) hl g
 rw[hg]at this
 exact⟨_,this⟩
theorem Cp {h:Heap}{l:Addr}{g:Obj->Obj}:∀ b ob,b ≠ l->h.get? b=some ob->(h.update l g).get? b=some ob:=fun b ob hb e=>(Heap.SameBut.update (h:=h) (a:=l) (f:=g)).extBut b ob hb e
theorem Es {o:Expr}{name:Str}{apos pos:Pos}{args:List Expr}{id:String}{A:Around}{env:Env}{s:Shared}{Q:Value->Shared->Prop}
  (slot:Slot "list" name id) (hty:typeOf (.builtin id)=pure (.type "method_descriptor")) (hbase:attributeBase o name env (eval o env)=eval o env)
  (hfew:((backTo pos (starEach args env)).all (fun x=>!x.1) && (backToKw pos (keywordEach [] env)).all (fun x=>x.1.isSome) && decide (args.length + ([]:List Keyword).length + (if ([]:List Keyword).isEmpty then 0 else 1) < 30))=true)
  (hline:(apos.endLine == pos.line)=true)
  (h:wpAny (model C.prog C.w) A (eval o env) (fun ov s₁=>∃ a items n,ov = .ref a/\s₁.heap.get? a=some (Bt items n)/\wpAny (model C.prog C.w) A (callWith pos (.builtin id) [.ref a] (backTo pos (starEach args env)) []) Q (fun z0 z0=>False) s₁) (fun z0 z0=>False) s) :
  wpAny (model C.prog C.w) A (eval (.Call (.Attribute o name apos) args [] pos) env) Q (fun z0 z0=>False) s:=by
 refine wpAny_Call_method hbase hfew hline PySem.F.plainAttrs_list slot hty (wpAny_mono h (fun ov s1 h1=>?_) fun z0 z0 x=>x)
 obtain⟨a,items,n,rfl,hg,hc⟩:=h1
 exact⟨⟨_,hg,rfl⟩,fun b hb=>by cases hb;exact⟨_,hg,rfl⟩,hc⟩
noncomputable def He (H:AH) (v:AV) (ws:List AV):Option AH:=match v with
 | .ref a=>match H a with
  | some (.f (.lst false _))=>if ws.length<=lim/\AV.stos ws=true then some (upd H a (.f (.lst false ws))) else none
  | _=>none
 | .row a i=>match H a with
  | some (.f (.mat false M))=>if i < M.length/\ws.length<=lim/\AV.stos ws=true then some (upd H a (.f (.mat false (M.set i ws)))) else none
  | _=>none
 | _=>none
theorem Ip {s s':Shared}{H H':AH}{G:Gh}{v:AV}{a:Addr}{vs ws:List AV}{ys:List Value}{n n':Nat}{items:List Value}(R:Rel C H G (own H G) s.heap)(hv:VRel s.heap (own H G) G v (.ref a))(hp:He H v ws=some H'){h':Heap}{tk:Nat}
  (hk:∀ b ob,b ≠ a->s.heap.get? b=some ob->h'.get? b=some ob) (hg:h'.get? a=some (Bt ys n')) (hr:VRels s.heap (own H G) G ws ys) :
  Rel C H' G (own H' G) h'/\Step (fun z0=>False) H G s H' G { s with heap:=h',toks:=tk }:=by
 unfold He at hp
 set_option tactic.hygienic true in cases v <;> first | exact nqa hp | skip
 ·rename_i b
  simp only [vRr]at hv;cases hv
  refine cX hp ?_;clear hp;intro us ha hp
  refine Bo hp ?_;clear hp;intro hc hp
  obtain rfl:=Option.some.inj hp
  exact Ji (lk:=false) R ha hc.2 hc.1 hg hk hr
 ·rename_i b i
  refine cW hp ?_;clear hp;intro M ha hp
  refine Bo hp ?_;clear hp;intro hc hp
  obtain rfl:=Option.some.inj hp
  refine Ac fun PP ret=>?_
  simp only [vRw]at hv
  obtain⟨c,hc',e⟩:=hv
  cases e
  refine ret ?_
  exact Pl R ha hc.1 hc' hc.2.2 hc.2.1 hg hk hr
noncomputable def Ms (f fe:PF):Wp AV:=fun Q ρ H=>∃ v vs x H',f ρ H=some v/\Bf H v=some vs/\fe ρ H=some x/\He H v (vs++[x])=some H'/\Q .none ρ H'
theorem ImpE.append {o e:Expr} {apos pos:Pos} {fe:PF} (ho:PureE C k sc o f) (he:PureE C k sc e fe) (hbase:∀ env,attributeBase o "append" env (eval o env)=eval o env:=by intro _;rfl)
  (hfew:∀ env,((backTo pos (starEach [e] env)).all (fun x=>!x.1) && (backToKw pos (keywordEach [] env)).all (fun x=>x.1.isSome) && decide (([e]:List Expr).length + ([]:List Keyword).length + (if ([]:List Keyword).isEmpty then 0 else 1) < 30))=true:=by intro _;rfl)
  (hline:(apos.endLine == pos.line)=true:=by rfl) (htr:∀ env,starEach [e] env=[(false,eval e env)]:=by intro _;rfl):ImpE C k sc (.Call (.Attribute o "append" apos) [e] [] pos) (Ms f fe):=by
 rintro A env s ρ H G Q hA F hs R ⟨v,vs,x,H',hv,hvs,hx,hp,hq⟩
 refine Es PySem.F.slot_list_append PySem.F.type_list_append (hbase env) (hfew env) hline (wpAny_mono (ho A env s ρ H G _ v hA F R hv) (fun ov s1 h1=>?_) fun z0 z0 x=>x)
 refine Ac fun PP ret=>?_
 obtain⟨rv,k1⟩:=h1
 have R1:=R.keep k1.k
 obtain⟨a,n,items,rfl,hg,hr,hz⟩:=Ao R1 rv hvs
 refine ret ?_
 refine⟨a,items,n,rfl,hg,?_⟩
 rw[htr env]
 refine P.append_list (wpAny_mono (he A env s1 ρ H G _ x hA (F.keep k1.k) R1 hx) (fun y s2 h2=>?_) fun z0 z0 x=>x)
 obtain⟨ry,k2⟩:=h2
 have k12:=k1.trans' k2
 have R2:=R.keep k12.k
 have hg2:=k2.k _ _ hg
 have hl:=hr.length
 refine⟨items.toArray,n,by have:=Cj;simp;exact Ar.r95 hz hl this,hg2,?_⟩
 obtain⟨n',hg'⟩:=Eo (h':=s2.heap) (ys:=items++[y]) (g:=fun xs=>xs.push y) hg2 (by simp)
 obtain⟨R3,S3⟩:=Ip (s':=s2) (tk:=s2.toks) (vs:=vs) (n:=n) (items:=items) R2 (rv.keep k2.k) hp Cp hg' ((hr.keep k2.k).append (.one ry))
 have F2:=F.keep k12.k
 exact⟨.none,ρ,H',G,hq,by simp[vRn],rfl,S3.wf F2 hs,hs,R3,(Step.kp R k12).trans (S3.frm F2)⟩
noncomputable def gJ (f:PF):Wp AV:=fun Q ρ H=>∃ v vs x H',f ρ H=some v/\Bf H v=some (vs++[x])/\x.sto=true/\He H v vs=some H'/\Q x ρ H'
theorem ImpE.pop {o:Expr} {apos pos:Pos} (ho:PureE C k sc o f) (hbase:∀ env,attributeBase o "pop" env (eval o env)=eval o env:=by intro _;rfl)
  (hline:(apos.endLine == pos.line)=true:=by rfl):ImpE C k sc (.Call (.Attribute o "pop" apos) [] [] pos) (gJ f):=by
 rintro A env s ρ H G Q hA F hs R ⟨v,vs,x,H',hv,hvs,hsx,hp,hq⟩
 refine Es PySem.F.slot_list_pop PySem.F.type_list_pop (hbase env) (by rfl) hline (wpAny_mono (ho A env s ρ H G _ v hA F R hv) (fun ov s1 h1=>?_) fun z0 z0 x=>x)
 refine Ac fun PP ret=>?_
 obtain⟨rv,k1⟩:=h1
 have R1:=R.keep k1.k
 obtain⟨a,n,items,rfl,hg,hr,hz⟩:=Ao R1 rv hvs
 refine ret ?_
 refine⟨a,items,n,rfl,hg,?_⟩
 have hl:=hr.length
 have hlen:items.length=vs.length + 1:=by rw[hl];simp
 obtain⟨y,hy,hry⟩:=hr.get (i:=vs.length) (v:=x) (by simp)
 refine P.pop_list (items:=items.toArray) (n:=n) (y:=y) hg (by rw[List.size_toArray,hlen];simpa using hy) ?_ (by have:=Cj;simp;exact Ar.r95 hz hl this)
 have htk:=hr.take vs.length
 have e1:(vs++[x]).take vs.length=vs:=by simp
 rw[e1]at htk
 obtain⟨n',hg'⟩:=Eo (h':=s1.heap) (ys:=items.take vs.length) (g:=fun xs=>xs.eraseIdxIfInBounds (items.toArray.size - 1)) hg (by
  simp only [List.size_toArray,hlen,Nat.add_sub_cancel]
  rw[Array.eraseIdxIfInBounds]
  have hlt:vs.length < items.toArray.size:=by simp;exact Ar.r20 hlen
  simp only [hlt,dif_pos]
  rw[List.eraseIdx_toArray]
  congr 1
  rw[List.eraseIdx_eq_take_drop_succ]
  have:items.drop (vs.length + 1)=[]:=List.drop_of_length_le (by exact Ar.r19 hlen)
  rw[this];simp)
 obtain⟨R3,S3⟩:=Ip (s':=s1) (tk:=s1.toks) (vs:=vs) (n:=n) (items:=items) R1 rv hp Cp hg' htk
 have F1:=F.keep k1.k
 exact⟨x,ρ,H',G,hq,S3.val hsx hry,hsx,S3.wf F1 hs,hs,R3,(Step.kp R k1).trans (S3.frm F1)⟩
noncomputable def Pe (f:PF):Wp AV:=fun Q ρ H=>∃ v vs H',f ρ H=some v/\Bf H v=some vs/\He H v []=some H'/\Q .none ρ H'
theorem ImpE.clear {o:Expr} {apos pos:Pos} (ho:PureE C k sc o f) (hbase:∀ env,attributeBase o "clear" env (eval o env)=eval o env:=by intro _;rfl)
  (hline:(apos.endLine == pos.line)=true:=by rfl):ImpE C k sc (.Call (.Attribute o "clear" apos) [] [] pos) (Pe f):=by
 rintro A env s ρ H G Q hA F hs R ⟨v,vs,H',hv,hvs,hp,hq⟩
 refine Es PySem.F.slot_list_clear PySem.F.type_list_clear (hbase env) (by rfl) hline (wpAny_mono (ho A env s ρ H G _ v hA F R hv) (fun ov s1 h1=>?_) fun z0 z0 x=>x)
 refine Ac fun PP ret=>?_
 obtain⟨rv,k1⟩:=h1
 have R1:=R.keep k1.k
 obtain⟨a,n,items,rfl,hg,hr,hz⟩:=Ao R1 rv hvs
 refine ret ?_
 refine⟨a,items,n,rfl,hg,?_⟩
 have hl:=hr.length
 refine P.clear_list (items:=items.toArray) (n:=n) hg ?_ (by have:=Cj;simp;exact Ar.r95 hz hl this)
 obtain⟨n',hg'⟩:=Eo (h':=s1.heap) (ys:=[]) (g:=fun z0=>#[]) hg rfl
 obtain⟨R3,S3⟩:=Ip (s':=s1) (tk:=s1.toks) (vs:=vs) (n:=n) (items:=items) R1 rv hp Cp hg' .nil
 have F1:=F.keep k1.k
 exact⟨.none,ρ,H',G,hq,by simp[vRn],rfl,S3.wf F1 hs,hs,R3,(Step.kp R k1).trans (S3.frm F1)⟩
end
end Mine
end
section
namespace Mine
theorem Gp {h:Heap}{d:Addr}{m:Str->Option Value}(hn:h.Ns d m):∃ od,h.get? d=some od/\∀ name,lookIn name od=some (m name):=by
 refine Ac fun PP ret=>?_
 obtain⟨o,es,ep,ho,hd,hk,hm⟩:=hn
 refine ret ?_
 refine⟨o,ho,fun name=>?_⟩
 have hr:es.toList.any (·.refKey)=false:=by
  rw[List.any_eq_false];intro e he
  obtain⟨n,t,h⟩:=hk e (Array.mem_toList_iff.mp he);simp[DictEntry.refKey,h]
 unfold lookIn
 rw[hd]
 dsimp only
 have:=hm name
 simp only [nsFind,findBy]at this
 rw[<- Array.find?_toList]at this
 rw[<- this]
 cases es.toList.find? (·.key.isStr name) with
 | none=>simp[hr]
 | some e=>simp
noncomputable def fM (K:Frag) (c:Addr) (name:Str):Bool:=plainGet K c name && hasDictIn K c && (match findIn K (.ref c) name with
 | some attr=>noGet K attr
 | none=>false)
noncomputable def fL (K:Frag) (c:Addr) (name:Str):Option (Addr × Nat):=if plainGet K c name && isClsIn K c then match findIn K (.ref c) name with
  | some (some (.ref p))=>if specialIn K (.ref p) "__get__" == some (some (.builtin "member_descriptor.__get__")) && takesIn K (.ref p) == some true then (slotIn K p c).map (p,·) else none
  | _=>none
 else none
noncomputable def Tv:AV->Bool
 | .bi _=>false
 | _=>true
theorem Tu {h:Heap}{O:Addr->Prop}{G:Gh}{v:AV}{y:Value}(hv:VRel h O G v y)(hh:Tv v=true):handedIn y=true:=by
 set_option tactic.hygienic true in cases v <;> simp only [vRu,vRn,vRb,vRi,vRs,vRr,vRk,vRt,vRw,vRp,vRf]at hv <;> first
  | (subst hv;rfl) | (obtain⟨_,rfl⟩:=hv;rfl) | (obtain⟨_,_,rfl⟩:=hv;rfl) | (obtain⟨_,_,_,rfl,_⟩:=hv;rfl) | exact nqd hh | exact hv.elim
section
variable {C:Cx} {k:Nat} {sc:Sc} {f f':PF} {K:Frag}
noncomputable def attrD (C:Cx) (name:Str) (H:AH):AV->Option AV
 | .ref a=>match H a with
  | some (.f (.inst c attrs))=>if c=C.tsC then match attrs.lookup name with
    | some v=>if Tv v=true then some v else none
    | none=>none
   else none
  | _=>none
 | _=>none
noncomputable def attrS (C:Cx) (i:Nat) (H:AH):AV->Option AV
 | .ref a=>match H a with
  | some (.f (.slots c vs))=>if c=C.niC then match vs[i]? with
    | some (some v)=>if Tv v=true then some v else none
    | _=>none
   else none
  | _=>none
 | _=>none
noncomputable def Aq (g:AH->AV->Option AV) (f:PF):PF:=fun ρ H=>match f ρ H with
 | some v=>g H v
 | none=>none
theorem Vv {g:AH->AV->Option AV}{ρ:Rho}{H:AH}{r:AV}(h:Aq g f ρ H=some r):∃ v,f ρ H=some v/\g H v=some r:=by
 unfold Aq at h
 refine Hz h ?_;clear h;intro z1 q1 h
 exact⟨_,by assumption,h⟩
theorem Zw {A:Around}{s:Shared}{H:AH}{G:Gh}{O:Addr->Prop}{name:Str}{v r:AV}{x:Value}{ex:Bool}{Q:Value->Shared->Prop}(hK:K.In C.h0)(hc:fM K C.tsC name=true)(R:Rel C H G O s.heap)(hv:VRel s.heap O G v x)(e:attrD C name H v=some r)
  (hQ:∀ y,VRel s.heap O G r y->Q y { s with toks:=s.toks + 1 }):wpAny (model C.prog C.w) A (getAttr x name ex) Q (fun z0 z0=>False) s:=by
 unfold attrD at e
 refine Vt e ?_;clear e;intro a q1 e;subst q1
 simp only [vRr]at hv;subst hv
 refine cY e ?_;clear e;intro c attrs hH e
 refine Bo e ?_;clear e;intro hcc e
 subst hcc
 refine Hz e ?_;clear e;intro v hlk e
 refine Bo e ?_;clear e;intro hh e
 obtain rfl:=Option.some.inj e
 refine Ac fun PP ret=>?_
 obtain⟨d,m,hg,hst,_,hx,hn,hm⟩:=R.obj a _ hH
 obtain⟨od,hod,hlook⟩:=Gp hn.ns
 obtain⟨y,hy,hry⟩:=(hm name).2 _ hlk
 have X:K.In s.heap:=hK.keeps fun b o e=>(R.base b o e).1
 have I:InstAt s.heap a { cls:=.ref C.tsC,dict:=some d,data:=.plain,slots:=#[] } C.tsC (some od):=⟨hx,rfl,rfl,hod⟩
 simp only [fM,Bool.and_eq_true]at hc
 obtain⟨⟨h1,h2⟩,h3⟩:=hc
 refine ret ?_
 set_option tactic.hygienic true in split at h3
 rotate_left
 ·exact nqd h3
 rename_i attr ha
 exact get_value X I (plainGet_of h1).1 (findObj_own h2 ha h3 (by rw[hlook,hy])) (Tu hry hh) (hQ y hry)
theorem Zv {A:Around}{s:Shared}{H:AH}{G:Gh}{O:Addr->Prop}{name:Str}{p:Addr}{i:Nat}{v r:AV}{x:Value}{ex:Bool}{Q:Value->Shared->Prop}(hK:K.In C.h0)(hc:fL K C.niC name=some (p,i))(R:Rel C H G O s.heap)(hv:VRel s.heap O G v x)(e:attrS C i H v=some r)
  (hQ:∀ y,VRel s.heap O G r y->Q y { s with toks:=s.toks + 1 }):wpAny (model C.prog C.w) A (getAttr x name ex) Q (fun z0 z0=>False) s:=by
 unfold attrS at e
 refine Vt e ?_;clear e;intro a q1 e;subst q1
 simp only [vRr]at hv;subst hv
 refine eT e ?_;clear e;intro c vs hH e
 refine Bo e ?_;clear e;intro hcc e
 subst hcc
 refine iSS e ?_;clear e;intro v hlk e
 refine Bo e ?_;clear e;intro hh e
 obtain rfl:=Option.some.inj e
 refine Ac fun PP ret=>?_
 obtain⟨d,ys,hg,hst,hx,hn,hsz,hm⟩:=R.obj a _ hH
 obtain⟨od,hod,hlook⟩:=Gp hn
 obtain⟨y,hy,hry⟩:=(hm i).1 _ hlk
 have X:K.In s.heap:=hK.keeps fun b o e=>(R.base b o e).1
 have I:InstAt s.heap a { cls:=.ref C.niC,dict:=some d,data:=.plain,slots:=ys } C.niC (some od):=⟨hx,rfl,rfl,hod⟩
 refine ret ?_
 unfold fL at hc
 refine Bo hc ?_;clear hc;intro hb hc
 simp only [Bool.and_eq_true]at hb
 refine Sl hc ?_;clear hc;intro p' hp' hc
 refine Bo hc ?_;clear hc;intro hb2 hc
 refine Ac fun PP ret=>?_
 simp only [Bool.and_eq_true,beq_iff_eq]at hb2
 obtain⟨j,hj,e2⟩:=Option.map_eq_some_iff.mp hc
 clear R e hH hK hc hg hlk hlook hm hn hod hst hsz hx;cases e2
 refine ret ?_
 have hv:(ys[i]?).join=some y:=by rw[hy];rfl
 exact get_bind X I (plainGet_of hb.1).1 (findObj_data hb.2 hp' hb2.1 hb2.2) (plainGet_of hb.1).2 (wpAny_call (slot_get (s:={ s with toks:=s.toks + 1 }) X I hj hv (handed_on (Tu hry hh) (hQ y hry))))
end
end Mine
end
section
namespace Mine
noncomputable def Xg (K:Frag) (c:Addr) (name:Str):Bool:=findIn K (.ref c) "__setattr__" == some (some (.builtin "object.__setattr__")) && plainOver K c && takerIn K c name == some none && (clsIn K c).any (·.hasDict)
section
variable {prog:Program} {w:World} {A:Around} {K:Frag} {c x dx:Addr} {s:Shared} {R:Result->Shared->Prop}
theorem Qb {α:Type}[DecidableEq α]:∀ {l l':List α},l.Nodup->(∀ x ∈ l,x ∈ l')->l.length<=l'.length
 | [],_,_,_=>Nat.zero_le _
 | x :: l,l',h,hs=>by
  rw[List.nodup_cons]at h
  have hx:=hs x (by simp)
  have:=Qb (l:=l) (l':=l'.erase x) h.2 fun y hy=>by
   have hne:y ≠ x:=fun q=>h.1 (q ▸ hy)
   exact(List.mem_erase_of_ne hne).mpr (hs y (by simp[hy]))
  rw[List.length_erase_of_mem hx]at this
  have hpos:0 < l'.length:=List.length_pos_of_mem hx
  simp only [List.length_cons];exact Ar.r94 this hpos
noncomputable def fV:Value->Str
 | .str s _=>s
 | _=>""
theorem Xy {h:Heap}{d:Addr}{m:Str->Option Value}(hn:h.Ns1 d m){names:List Str}(hs:∀ x,x ∉ names->m x=none):∃ o es ep,h.get? d=some o/\o.data = .dict es ep/\es.size<=names.length:=by
 refine Ac fun PP ret=>?_
 obtain⟨o,es,ep,ho,hd,hk,hu,hm⟩:=hn
 refine ret ?_
 refine⟨o,es,ep,ho,hd,?_⟩
 rw[UniqKeys.iff_keys]at hu
 have key:((es.toList.map fun e=>fV e.key)).Nodup:=by
  unfold List.Nodup
  rw[List.pairwise_map]
  rw[List.pairwise_map]at hu
  refine hu.imp_of_mem fun {a b} ha hb hab=>?_
  obtain⟨n,t,e1⟩:=hk a (Array.mem_toList_iff.mp ha)
  obtain⟨n',t',e2⟩:=hk b (Array.mem_toList_iff.mp hb)
  rw[e1,e2]at hab ⊢
  intro q
  clear e1 e2 ha hb hd hk hm ho hs hu ret;obtain rfl:n=n':=q
  exact hab n (by simp[Value.isStr]) (by simp[Value.isStr])
 have:=Qb key (l':=names) fun x hx=>by
  clear hd ho hu key ret;obtain⟨e,he,rfl⟩:=List.mem_map.mp hx
  obtain⟨n,t,e1⟩:=hk e (Array.mem_toList_iff.mp he)
  rw[e1]
  refine(?_:n ∈ names)
  apply Classical.byContradiction
  intro q
  have h0:=hm n
  rw[hs n q]at h0
  simp only [nsFind,findBy]at h0
  rw[<- Array.find?_toList,Option.map_eq_none_iff,List.find?_eq_none]at h0
  exact h0 e he (by rw[e1];simp[Value.isStr])
 simpa using this
theorem eA {ox od:Obj}{name:Str}{tk:Tok}{v:Value}{m:Str->Option Value}{names:List Str}(X:K.In s.heap)(I:InstAt s.heap x ox c (some od))(hd:ox.dict=some dx)(hn:s.heap.Ns1 dx m)(hp:plainOver K c=true)(ht:takerIn K c name=some none)(hh:(clsIn K c).any (·.hasDict)=true)
  (hnm:∀ x,x ∉ names->m x=none) (hz:names.length<=1000)
  (h:∀ h',h'.Ns1 dx (fun y=>if y=name then some v else m y)->Heap.SameBut dx s.heap h'->R (.ok (.ret .none)) { s with heap:=h',toks:=s.toks + 1 }) :
  codeAny (model prog w) A (.call (.builtin "object.__setattr__") ⟨[.ref x,.str name tk,v],[]⟩) R s:=by
 refine osa_open X I hp ht fun b=>?_
 refine Ac fun PP ret=>?_
 obtain⟨cd,hc,hd'⟩:=any_some hh
 obtain⟨hx,hcl,hno,-⟩:=I
 obtain⟨oc,odi,oda,osl⟩:=ox
 refine ret ?_
 dsimp only at hcl hd
 clear hh hno hp ht;subst hcl hd
 refine wpAny_bind (wpAny_pure (wpAny_bind (wpAny_bind (wpAny_loadPart hx (wpAny_bind ((looks_clsIn X hc).here ?_))))))
 rw[hd']
 refine wpAny_pure (a:=some dx) (wpAny_bind (wpAny_pure (wpAny_bind ?_)))
 refine wpAny_nsSet1 hn fun h' hn' hs'=>?_
 refine Ac fun PP ret=>?_
 obtain⟨o',es',ep',ho',hd2,hz'⟩:=Xy hn' (names:=name :: names) fun y hy=>by
  simp only [List.mem_cons,not_or]at hy
  simp only [hy.1,if_false];exact hnm y hy.2
 refine ret ?_
 refine wpAny_bind (wpAny_lookBehind ho' (by rw[hd2];exact pastItsLine_dict (by simp at hz';rw[sizeLine_eq];exact Ar.r77 hz hz')) ?_)
 exact wpAny_pure (h h' hn' hs')
end
section
variable {C:Cx} {k:Nat} {sc:Sc} {f f':PF} {K:Frag}
noncomputable def Dt:List (Str × AV)->Str->AV->List (Str × AV)
 | [],n,v=>[(n,v)]
 | (z,u) :: r,n,v=>if z == n then (n,v) :: r else (z,u) :: Dt r n v
theorem dY {n:Str}{v:AV}:Dt [] n v=[(n,v)]:=rfl
theorem gI {z:Str}{u v:AV}{r:List (Str × AV)}{n:Str}:Dt ((z,u) :: r) n v=if z == n then (n,v) :: r else (z,u) :: Dt r n v:=rfl
theorem Gb {name y:Str}{v:AV}:∀ {attrs:List (Str × AV)},(Dt attrs name v).lookup y=if y=name then some v else attrs.lookup y
 | []=>by
  by_cases hy:y=name
  ·subst hy;simp[dY]
  ·have:(y == name)=false:=by simpa using hy
   simp[dY,List.lookup_cons,this,hy]
 | (z,u) :: r=>by
  rw[gI]
  set_option tactic.hygienic true in split
  ·rename_i hz
   have:z=name:=by simpa using hz
   clear hz;subst this
   by_cases hy:y=z
   ·subst hy;simp
   ·have:(y == z)=false:=by simpa using hy
    simp[List.lookup_cons,this,hy]
  ·rename_i hz
   rw[List.lookup_cons,List.lookup_cons]
   cases hyz:y == z with
   | true =>
    have:y=z:=by simpa using hyz
    clear hyz;subst this
    have:¬ y=name:=by simpa using hz
    simp[this]
   | false=>exact Gb
theorem Px {name:Str}{v u:AV}:∀ {attrs:List (Str × AV)},u ∈ (Dt attrs name v).map (·.2)->u=v\/u ∈ attrs.map (·.2)
 | [],h=>by simp[dY]at h;exact .inl h
 | (z,w) :: r,h=>by
  rw[gI]at h
  set_option tactic.hygienic true in split at h
  ·simp only [List.map_cons,List.mem_cons]at h ⊢
   rcases h with q | q
   ·exact .inl q
   ·exact .inr (.inr q)
  ·simp only [List.map_cons,List.mem_cons]at h ⊢
   rcases h with q | q
   ·exact .inr (.inl q)
   ·exact(Px q).imp id .inr
theorem Xp {attrs:List (Str × AV)}{name:Str}{v:AV}(h:AV.stos (attrs.map (·.2))=true)(hv:v.sto=true):AV.stos ((Dt attrs name v).map (·.2))=true:=by
 rw[stos_iff]at h ⊢
 intro u hu
 rcases Px hu with q | q
 ·clear h hu;subst q;exact hv
 ·exact h u q
noncomputable def Il (C:Cx) (name:Str) (H:AH) (ov v:AV):Option AH:=match ov with
 | .ref a=>match H a with
  | some (.f (.inst c attrs))=>if c=C.tsC/\v.sto=true/\(Dt attrs name v).length<=1000 then some (upd H a (.f (.inst c (Dt attrs name v)))) else none
  | _=>none
 | _=>none
theorem bB {A:Around}{s:Shared}{H H':AH}{G:Gh}{name:Str}{ov v:AV}{x z:Value}{Q:Unit->Shared->Prop}(hK:K.In C.h0)(hc:Xg K C.tsC name=true)(R:Rel C H G (own H G) s.heap)(hx:VRel s.heap (own H G) G ov x)(hz:VRel s.heap (own H G) G v z)(e:Il C name H ov v=some H')
  (hQ:∀ s' G',Rel C H' G' (own H' G') s'.heap->Step (fun z0=>False) H G s H' G' s'->Q () s'):wpAny (model C.prog C.w) A (setAttr x name z) Q (fun z0 z0=>False) s:=by
 unfold Il at e
 refine Vt e ?_;clear e;intro a q1 e;subst q1
 simp only [vRr]at hx;subst hx
 refine cY e ?_;clear e;intro c attrs ha e
 refine Bo e ?_;clear e;intro hcc e
 obtain rfl:=Option.some.inj e
 refine Ac fun PP ret=>?_
 obtain⟨rfl,hsv,hlen⟩:=hcc
 obtain⟨d,m,hg,hst,hzz,hx,hn,hm⟩:=R.obj a _ ha
 obtain⟨od,hod,hlook⟩:=Gp hn.ns
 have X:K.In s.heap:=hK.keeps fun b o e=>(R.base b o e).1
 have I:InstAt s.heap a { cls:=.ref C.tsC,dict:=some d,data:=.plain,slots:=#[] } C.tsC (some od):=⟨hx,rfl,rfl,hod⟩
 simp only [Xg,Bool.and_eq_true,beq_iff_eq]at hc
 obtain⟨⟨⟨h1,h2⟩,h3⟩,h4⟩:=hc
 refine ret ?_
 have hne:H a ≠ none:=by rw[ha];simp
 have hdm:d ∈ G a:=by rw[hg];simp
 have hda:d ≠ a:=fun q=>(List.nodup_cons.mp (R.nd a hne)).1 (q ▸ hdm)
 refine set_plain X I h1 (eA (s:={ s with toks:=s.toks + 1 }) X I rfl hn h2 h3 h4 (names:=attrs.map (·.1)) (fun y hy=>(hm y).1 ?_) (by simpa using hzz) fun h' hn' hs'=>?_)
 ·clear I R X e h1 h2 h3 h4 hK hQ ha hda hdm hg hlen hlook hm hn hne hod hst hsv hx hz hzz ret;cases q:attrs.lookup y with
  | none=>rfl
  | some u=>exact absurd (List.mem_map.mpr ⟨(y,u),PySem.mem_of_lookup q,rfl⟩) hy
 have hk:∀ b ob,b ≠ d->s.heap.get? b=some ob->h'.get? b=some ob:=fun b ob hb e=>hs'.extBut b ob hb e
 have hO:own H G d:=⟨a,hne,.inr hdm⟩
 have sh:∀ b o xs n,s.heap.get? b=some o->o.data = .seq xs n->¬ own H G b->h'.get? b=some o/\¬ own H G b:=fun b o xs n e z0 hb=>⟨hk b o (fun q=>hb (q ▸ hO)) e,hb⟩
 refine hQ _ G (R.change ha (fun b ob h1 h2 e=>hk b ob (fun q=>h2 (q ▸ hdm)) e) ⟨d,_,hg,Xp hst hsv,hlen,hk a _ (Ne.symm hda) hx,hn',fun y=>⟨fun hy=>?_,fun u hu=>?_⟩⟩ (fun b hb=>?_)) (.turn R ha rfl fun b ob h1 h2 e=>hk b ob (fun q=>h2 (q ▸ hdm)) e)
 ·rw[Gb]at hy
  set_option tactic.hygienic true in split at hy
  ·exact nqb hy
  ·rename_i q;simp only [q,if_false];exact(hm y).1 hy
 ·rw[Gb]at hu
  set_option tactic.hygienic true in split at hu
  ·rename_i q;clear I R X e h1 h2 h3 h4 hK hO hQ ha hda hdm hg hk hlen hlook hm hn hn' hne hod hs' hst hsv hx hzz ret;obtain rfl:=Option.some.inj hu;exact⟨z,by simp[q],hz.wide sh⟩
  ·rename_i q
   obtain⟨w,hw,hr⟩:=(hm y).2 u hu
   exact⟨w,by simp[q,hw],hr.wide sh⟩
 ·rw[hg]at hb
  simp at hb
  clear I R X h1 h2 h3 h4 hK hO hQ ha hdm hg hlen hlook hm hn hne hod hs' hst hsv hz hzz ret sh;rcases hb with rfl | rfl
  ·exact⟨_,hk b _ (Ne.symm hda) hx⟩
  ·obtain⟨o',_,_,e,_⟩:=hn'.ns;exact⟨o',e⟩
noncomputable def Fh (g:AH->AV->AV->Option AH) (W:Wp AV) (fo:PF):Wp AFlow:=fun Q=>W fun v ρ H=>∃ ov H',fo ρ H=some ov/\g H ov v=some H'/\Q .next ρ H'
noncomputable def SetAR (C:Cx) (k:Nat) (name:Str) (g:AH->AV->AV->Option AH):Prop :=
 ∀ (A:Around) (s:Shared) (H H':AH) (G:Gh) (ov v:AV) (x z:Value) (Q:Unit->Shared->Prop),AOk k A->Rel C H G (own H G) s.heap->VRel s.heap (own H G) G ov x->VRel s.heap (own H G) G v z->g H ov v=some H' ->
  (∀ s' G',Rel C H' G' (own H' G') s'.heap->Step (fun z0=>False) H G s H' G' s'->Q () s')->wpAny (model C.prog C.w) A (setAttr x name z) Q (fun z0 z0=>False) s
theorem SetAR.D {name:Str}(hK:K.In C.h0)(hc:Xg K C.tsC name=true):SetAR C k name (Il C name):=fun A s H H' G ov v x z Q z0 R hx hz e hQ=>bB hK hc R hx hz e hQ
theorem StmtR.seta {o e:Expr}{name:Str}{p pos:Pos}{W:Wp AV}{g:AH->AV->AV->Option AH}(hg:SetAR C k name g)(he:ImpE C k sc e W)(ho:PureE C k sc o f)(hsw:∀ env,swapsWith e (some (.Attribute o name p)) pos.line env=pure false:=by intro _;rfl) :
  StmtR C k sc (.Assign [.Attribute o name p] e pos) (Fh g W f):=by
 intro A env s ρ H G Q hA F hs R hT
 rw[plainObj_exec_Assign_Attribute _ _ _ _ _ (hsw env)]
 refine wpAny_bind (wpAny_standAt (wpAny_bind (wpAny_mono (he A env s ρ H G _ hA F hs R hT) (fun z s1 h1=>?_) fun z0 z0 x=>x)))
 refine Ac fun PP ret=>?_
 obtain⟨v,ρ1,H1,G1,⟨ov,H2,hov,hset,hq⟩,hv,hsv,F1,hs1,R1,S1⟩:=h1
 refine ret ?_
 rw[arm_assign_Attribute]
 refine wpAny_bind (wpAny_bind (wpAny_holding (wpAny_mono (ho A env s1 ρ1 H1 G1 _ ov hA F1 R1 hov) (fun x s2 h2=>?_) fun z0 z0 x=>x)))
 obtain⟨hx,k2⟩:=h2
 have R2:=R1.keep k2.k
 have F2:=F1.keep k2.k
 refine wpAny_bind (wpAny_standAt (wpAny_bind (wpAny_holding (hg A s2 H1 H2 G1 ov v x z _ hA R2 hx (hv.keep k2.k) hset fun s3 G3 R3 S3=>?_))))
 exact wpAny_release (wpAny_pure ⟨.next,ρ1,H2,G3,hq,trivial,S3.wf F2 hs1,hs1,R3,(S1.trans (.kp R1 k2)).trans (S3.frm F2)⟩)
end
end Mine
end
section
namespace Mine
section
open PySem.Calls PySem.Builtin PySem.Builtin.ObjectAttr PySem.Builtin.Getset_descriptor
variable {prog:Program} {w:World} {A:Around} {K:Frag} {c x p:Addr} {s:Shared} {R:Result->Shared->Prop}
noncomputable def Lj (i:Nat) (v:Value) (o:Obj):Obj:={ o with slots:=(o.slots++Array.replicate (i + 1 - o.slots.size) none).setIfInBounds i (some v) }
theorem Xf {ox:Obj}{od:Option Obj}{v:Value}{i:Nat}(X:K.In s.heap)(I:InstAt s.heap x ox c od)(hp:slotIn K p c=some i)(hi:i < 1000)
  (h:R (.ok (.ret .none)) { s with heap:=s.heap.update x (Lj i v) }) :
  codeAny (model prog w) A (.call (.builtin "member_descriptor.__set__") ⟨[.ref p,.ref x,v],[]⟩) R s:=by
 refine Ac fun PP ret=>?_
 obtain⟨n,tn,owner,behind,tb,d,sl,cd,ho,hc,hm,hb,rfl⟩:=slot_of X hp
 obtain⟨hh,g,dr,t,os⟩:=s
 have L0:=I.type (M:=model prog w)
 have L1:=looks_mroIn (M:=model prog w) X hm
 have L2:Looks (model prog w) hh (Slots.slotNamesOf (.ref c)) cd.slotNames:=(looks_clsIn X hc).andThen .now
 have hx:=I.at_
 refine ret ?_
 dsimp only at ho hx L0 L1
 have f0:=looks_field (M:=model prog w) ho 0 (v:=.str n tn) rfl
 have f1:=looks_field (M:=model prog w) ho 1 (v:=owner) rfl
 have f3:=looks_field (M:=model prog w) ho 3 (v:=.builtin "proto.slot#set") rfl
 have f4:=looks_field (M:=model prog w) ho 4 (v:=.int behind tb) rfl
 refine codeAny_call_builtin KF.slot_mset.plain KF.entry_mset (KF.slot_mset.check _ _ _ _ _ _ _ _ ⟨_,ho,rfl⟩ (KF.args_mset _ _ _) ?_)
 unfold Builtin.«member_descriptor.__set__» descrSet descrStoreThrough descrCheckInstance descrNameAndClass isInstance
 have f5:Looks (model prog w) hh (descrItself (.ref p)) [.ref p]:=((Looks.ld (part:=none) ho).andThen .now).andThen (Looks.of_pure (by kernel_rfl))
 repeat lk
 refine⟨Code.quiet_builtin _ (by decide +kernel),codeAny_builtin KF.entry_slotset ?_⟩
 unfold Builtin.«proto.slot#set» Slots.target
 repeat lk
 rw[if_neg hb]
 refine wpAny_pure (wpAny_bind ?_)
 unfold setSlotAt
 dsimp only
 rw[if_neg (by rw[sizeLine_eq];lia)]
 exact wpAny_updatePart hx (wpAny_pure h)
end
section
variable {C:Cx} {k:Nat} {sc:Sc} {f f':PF} {K:Frag}
noncomputable def Tg (K:Frag) (c:Addr) (name:Str):Option (Addr × Nat):=if findIn K (.ref c) "__setattr__" == some (some (.builtin "object.__setattr__")) && plainOver K c then match takerIn K c name with
  | some (some (.ref p))=>if typeIn K (.ref p) == some (.type "member_descriptor") then (slotIn K p c).map (p,·) else none
  | _=>none
 else none
noncomputable def Fv (vs:List (Option AV)) (i:Nat) (v:AV):List (Option AV):=(vs++List.replicate (i + 1 - vs.length) none).set i (some v)
noncomputable def Ha (C:Cx) (i:Nat) (H:AH) (ov v:AV):Option AH:=match ov with
 | .ref a=>match H a with
  | some (.f (.slots c vs))=>if c=C.niC/\v.sto=true then some (upd H a (.f (.slots c (Fv vs i v)))) else none
  | _=>none
 | _=>none
inductive SetSI (C:Cx) (i:Nat) (H:AH) (v:AV):AV->AH->Prop
 | mk (a:Addr) (vs:List (Option AV)) (ha:H a=some (.f (.slots C.niC vs))) (hs:v.sto=true):SetSI C i H v (.ref a) (upd H a (.f (.slots C.niC (Fv vs i v))))
theorem Xi {C:Cx}{i:Nat}{H H':AH}{ov v:AV}(e:Ha C i H ov v=some H'):SetSI C i H v ov H':=by
 cases ov with
 | ref a =>
  unfold Ha at e
  dsimp only at e
  generalize ha:H a=o at e
  cases o with
  | none=>exact nqa e
  | some o=>cases o with
   | srt S=>exact nqa e
   | f o=>cases o with
    | slots c vs =>
     dsimp only at e
     split at e
     ·next h=>obtain⟨rfl,hs⟩:=h;exact Option.some.inj e ▸ .mk a vs ha hs
     ·exact nqa e
    | _=>exact nqa e
 | _=>exact nqa e
inductive SetsI (K:Frag) (c:Addr) (name:Str) (p:Addr) (i:Nat):Prop
 | mk (h1:findIn K (.ref c) "__setattr__" = some (some (.builtin "object.__setattr__"))) (h2:plainOver K c=true) (h3:takerIn K c name=some (some (.ref p))) (h4:typeIn K (.ref p)=some (.type "member_descriptor")) (h5:slotIn K p c=some i)
theorem Uo {K:Frag}{c:Addr}{name:Str}{p:Addr}{i:Nat}(hc:Tg K c name=some (p,i)):SetsI K c name p i:=by
 unfold Tg at hc
 refine Bo hc ?_;clear hc;intro hb hc
 simp only [Bool.and_eq_true,beq_iff_eq]at hb
 refine Sl hc ?_;clear hc;intro p' hp' hc
 refine Bo hc ?_;clear hc;intro hb2 hc
 simp only [beq_iff_eq]at hb2
 obtain⟨j,hj,e2⟩:=Option.map_eq_some_iff.mp hc
 clear hc;cases e2
 exact⟨hb.1,hb.2,hp',hb2,hj⟩
theorem bA {A:Around}{s:Shared}{H H':AH}{G:Gh}{name:Str}{p:Addr}{i:Nat}{ov v:AV}{x z:Value}{Q:Unit->Shared->Prop}(hK:K.In C.h0)(hc:Tg K C.niC name=some (p,i))(hi:i < 1000)(R:Rel C H G (own H G) s.heap)(hx:VRel s.heap (own H G) G ov x)(hz:VRel s.heap (own H G) G v z)(e:Ha C i H ov v=some H')
  (hQ:∀ s' G',Rel C H' G' (own H' G') s'.heap->Step (fun z0=>False) H G s H' G' s'->Q () s'):wpAny (model C.prog C.w) A (setAttr x name z) Q (fun z0 z0=>False) s:=by
 refine Ac fun PP ret=>?_
 obtain⟨a,vs,ha,hsv⟩:=Xi e
 have hxe:x = .ref a:=hx
 subst hxe
 obtain⟨d,ys,hg,hst,hx,hn,hsz,hm⟩:=R.obj a _ ha
 obtain⟨od,hod,hlook⟩:=Gp hn
 have X:K.In s.heap:=hK.keeps fun b o e=>(R.base b o e).1
 have I:InstAt s.heap a { cls:=.ref C.niC,dict:=some d,data:=.plain,slots:=ys } C.niC (some od):=⟨hx,rfl,rfl,hod⟩
 obtain⟨hb1,hb,hp',hb2,hj⟩:=Uo hc
 refine ret ?_
 have hne:H a ≠ none:=by rw[ha];simp
 have hdm:d ∈ G a:=by rw[hg];simp
 have hda:d ≠ a:=fun q=>(List.nodup_cons.mp (R.nd a hne)).1 (q ▸ hdm)
 refine set_plain X I hb1 (osa_descr (s:={ s with toks:=s.toks + 1 }) KF.slot_mset X I hb hp' hb2 (Xf (s:={ s with toks:=s.toks + 1 }) X I hj hi ?_))
 have hk:∀ b ob,b ≠ a->s.heap.get? b=some ob->(s.heap.update a (Lj i z)).get? b=some ob:=Cp
 have hget:(s.heap.update a (Lj i z)).get? a=some { cls:=.ref C.niC,dict:=some d,data:=.plain,slots:=(ys++Array.replicate (i + 1 - ys.size) none).setIfInBounds i (some z) }:=Heap.get?_update_self _ hx rfl
 have hO:own H G a:=⟨a,hne,.inl rfl⟩
 have sh:∀ b o xs n,s.heap.get? b=some o->o.data = .seq xs n->¬ own H G b->(s.heap.update a (Lj i z)).get? b=some o/\¬ own H G b:=fun b o xs n e z0 hb=>⟨hk b o (fun q=>hb (q ▸ hO)) e,hb⟩
 refine hQ _ G (R.change ha (fun b ob h1 h2 e=>hk b ob h1 e) ⟨d,_,hg,?_,hget,hn.at' fun o e=>hk d o hda e,?_,fun j=>⟨fun u hu=>?_,fun hu=>?_⟩⟩ (fun b hb=>?_)) (.turn R ha rfl fun b ob h1 h2 e=>hk b ob h1 e)
 ·rw[stos_iff]at hst ⊢
  intro u hu
  refine Ac fun PP ret=>?_
  obtain⟨o,ho,e⟩:=List.mem_filterMap.mp hu
  simp only [id]at e;clear I R X hK hO hQ ha hb hb1 hb2 hc hda hdm hg hget hi hj hk hlook hm hn hne hod hp' hsz hu hx hz sh;subst e
  refine ret ?_
  rcases List.mem_or_eq_of_mem_set ho with q | q
  ·rcases List.mem_append.mp q with q | q
   ·exact hst u (List.mem_filterMap.mpr ⟨_,q,rfl⟩)
   ·simp at q
  ·cases q;exact hsv
 ·simp[Fv,hsz]
 ·unfold Fv at hu
  by_cases q:j=i
  ·clear I R X e hK hO hQ ha hb hb1 hb2 hc hda hdm hg hget hi hj hk hlook hm hn hne hod hp' hst hsv hsz hx ret;subst q
   have hlt:j < (vs++List.replicate (j + 1 - vs.length) none).length:=by simp;exact Ar.r217
   rw[List.getElem?_set_self hlt]at hu
   cases hu
   refine⟨z,?_,hz.wide sh⟩
   rw[Array.getElem?_setIfInBounds_self]
   have hlt2:j < (ys++Array.replicate (j + 1 - ys.size) none).size:=by simp;exact Ar.r217
   simp[hlt2];exact Ar.r217
  ·rw[List.getElem?_set_ne (Ne.symm q)]at hu
   rw[Array.getElem?_setIfInBounds_ne (Ne.symm q)]
   by_cases hlt:j < vs.length
   ·rw[List.getElem?_append_left hlt]at hu
    obtain⟨y,hy,hr⟩:=(hm j).1 u hu
    exact⟨y,by rw[Array.getElem?_append_left (by exact Ar.r38 hsz hlt)];exact hy,hr.wide sh⟩
   ·rw[List.getElem?_append_right (by exact Ar.r123 hlt),List.getElem?_replicate]at hu
    set_option tactic.hygienic true in split at hu <;> cases hu
 ·unfold Fv at hu
  by_cases q:j=i
  ·clear I R X e hK hO hQ ha hb hb1 hb2 hc hda hdm hg hget hi hj hk hlook hm hn hne hod hp' hst hsv hsz hx hz ret sh;subst q
   have hlt:j < (vs++List.replicate (j + 1 - vs.length) none).length:=by simp;exact Ar.r217
   rw[List.getElem?_set_self hlt]at hu
   cases hu
  ·rw[List.getElem?_set_ne (Ne.symm q)]at hu
   rw[Array.getElem?_setIfInBounds_ne (Ne.symm q)]
   by_cases hlt:j < vs.length
   ·rw[List.getElem?_append_left hlt]at hu
    rw[Array.getElem?_append_left (by exact Ar.r38 hsz hlt)];exact(hm j).2 hu
   ·rw[List.getElem?_append_right (by exact Ar.r123 hlt),List.getElem?_replicate]at hu
    rw[Array.getElem?_append_right (by exact Ar.r34 hsz hlt),Array.getElem?_replicate]
    rw[hsz]
    refine Bo hu ?_;clear hu;intro q hu
    simp only [q,if_true]
 ·rw[hg]at hb
  simp at hb
  clear I R X e hK hO hQ ha hb1 hb2 hc hdm hg hi hj hlook hm hn hne hp' hst hsv hsz hx hz ret sh;rcases hb with rfl | rfl
  ·exact⟨_,hget⟩
  ·exact⟨od,hk b od hda hod⟩
theorem SetAR.S {name:Str}{p:Addr}{i:Nat}(hK:K.In C.h0)(hc:Tg K C.niC name=some (p,i))(hi:i < 1000:=by decide):SetAR C k name (Ha C i):=fun A s H H' G ov v x z Q z0 R hx hz e hQ=>bA hK hc hi R hx hz e hQ
noncomputable def GetAR (C:Cx) (k:Nat) (name:Str) (g:AH->AV->Option AV):Prop :=
 ∀ (A:Around) (s:Shared) (H:AH) (G:Gh) (O:Addr->Prop) (v r:AV) (x:Value) (ex:Bool) (Q:Value->Shared->Prop),AOk k A->Rel C H G O s.heap->VRel s.heap O G v x->g H v=some r ->
  (∀ y,VRel s.heap O G r y->Q y { s with toks:=s.toks + 1 })->wpAny (model C.prog C.w) A (getAttr x name ex) Q (fun z0 z0=>False) s
theorem GetAR.D {name:Str}(hK:K.In C.h0)(hc:fM K C.tsC name=true):GetAR C k name (Mine.attrD C name):=fun A s H G O v r x ex Q z0 R hv e hQ=>Zw hK hc R hv e hQ
theorem GetAR.S {name:Str}{p:Addr}{i:Nat}(hK:K.In C.h0)(hc:fL K C.niC name=some (p,i)):GetAR C k name (Mine.attrS C i):=fun A s H G O v r x ex Q z0 R hv e hQ=>Zv hK hc R hv e hQ
noncomputable def Jc (ga:AH->AV->Option AV) (sa:AH->AV->AV->Option AH) (fo fv:PF) (g:AH->AV->AV->Option AV):Wp AFlow:=fun Q ρ H=>∃ ov old v new H',fo ρ H=some ov/\ga H ov=some old/\fv ρ H=some v/\g H old v=some new/\sa H ov new=some H'/\Q .next ρ H'
theorem StmtR.auga {o e:Expr}{name:Str}{op:Operator}{p pos:Pos}{fv:PF}{ga:AH->AV->Option AV}{sa:AH->AV->AV->Option AH}{g:AH->AV->AV->Option AV}(hga:GetAR C k name ga)(hsa:SetAR C k name sa)(ho:PureE C k sc o f)(he:PureE C k sc e fv)(hg:BinR C k (inplaceOp op) g) :
  StmtR C k sc (.AugAssign (.Attribute o name p) op e pos) (Jc ga sa f fv g):=by
 rintro A env s ρ H G Q hA F hs R ⟨ov,old,v,new,H',hov,hold,hv,hnew,hset,hq⟩
 refine wpAny_AugAssign_AttributeAny (wpAny_mono (ho A env s ρ H G _ ov hA F R hov) (fun x s1 h1=>?_) fun z0 z0 x=>x)
 obtain⟨hx,k1⟩:=h1
 have R1:=R.keep k1.k
 refine hga A s1 H G _ ov old x true _ hA R1 hx hold fun z hz=>?_
 have k1':Kp s { s1 with toks:=s1.toks + 1 }:=k1.trans' .tok
 refine wpAny_mono (he A env { s1 with toks:=s1.toks + 1 } ρ H G _ v hA (F.keep k1'.k) R1 hv) (fun u s3 h3=>?_) fun z0 z0 x=>x
 obtain⟨hu,k3⟩:=h3
 have R3:=R1.keep k3.k
 refine wpAny_mono (hg A s3 H G _ old v new z u hA R3 (hz.keep k3.k) hu hnew) (fun r s4 h4=>?_) fun z0 z0 x=>x
 obtain⟨hr,k4⟩:=h4
 have k14:=(k1'.trans' k3).trans' k4
 have R4:=R.keep k14.k
 have F4:=F.keep k14.k
 have hx4:VRel s4.heap (own H G) G ov x:=hx.keep (Kp.tok.trans' (k3.trans' k4)).k
 refine hsa A s4 H H' G ov new x r _ hA R4 hx4 hr hset fun s5 G5 R5 S5=>?_
 exact⟨.next,ρ,H',G5,hq,trivial,S5.wf F4 hs,hs,R5,(Step.kp R k14).trans (S5.frm F4)⟩
end
end Mine
end
section
namespace Mine
noncomputable def Bk:List Str:=["_node2info","_ready_nodes","_npassedout","_nfinished"]
noncomputable def Bl (C:Cx) (H:AH) (a:Addr):Option (List Str):=match H a with
 | some (.f (.inst c attrs))=>if c=C.tsC then some (attrs.map (·.1)) else none
 | some (.srt _)=>some Bk
 | _=>none
section
variable {C:Cx} {k:Nat} {sc:Sc} {f f':PF} {K:Frag}
theorem bU {H:AH}{G:Gh}{O:Addr->Prop}{h:Heap}{a:Addr}{ns:List Str}(R:Rel C H G O h)(e:Bl C H a=some ns) :
  ∃ d od,InstAt h a { cls:=.ref C.tsC,dict:=some d,data:=.plain,slots:=#[] } C.tsC (some od)/\∀ name,name ∉ ns->lookIn name od=some none:=by
 have core:∀ (attrs:List (Str × AV)) (g:List Addr),ORelF C h O G (.inst C.tsC attrs) a g->∃ d od,InstAt h a { cls:=.ref C.tsC,dict:=some d,data:=.plain,slots:=#[] } C.tsC (some od)/\∀ name,name ∉ attrs.map (·.1)->lookIn name od=some none:=by
  intro attrs g r
  obtain⟨d,m,hg,hst,_,hx,hn,hm⟩:=r
  obtain⟨od,hod,hlook⟩:=Gp hn.ns
  refine⟨d,od,⟨hx,rfl,rfl,hod⟩,fun name hn=>?_⟩
  rw[hlook,(hm name).1]
  clear R e hg hlook hm hod hst hx left;cases q:attrs.lookup name with
  | none=>rfl
  | some u=>exact absurd (List.mem_map.mpr ⟨(name,u),PySem.mem_of_lookup q,rfl⟩) hn
 unfold Bl at e
 generalize hH:H a=o at e
 cases o with
 | none=>exact nqa e
 | some o=>cases o with
  | srt S =>
   obtain rfl:=Option.some.inj e
   refine Ac fun PP ret=>?_
   obtain⟨L,gs,hS,hl,he,hr⟩:=R.obj a _ hH
   clear R e hH he;obtain⟨σ,_,rfl,_⟩:=hS
   refine ret ?_
   cases gs with
   | nil=>exact absurd hl.symm (Nat.succ_ne_zero _)
   | cons g0 gs =>
    exact core (De σ.d σ.rdy σ.passed σ.fin) g0 (hr (_,g0) (.head _))
  | f o=>cases o with
   | inst c attrs =>
    refine Bo e ?_;clear e;intro hc e
    obtain rfl:=Option.some.inj e;clear e;subst hc
    exact core attrs _ (R.obj a _ hH)
   | _=>exact nqa e
noncomputable def Sb (K:Frag) (c:Addr) (name:Str):Option Addr:=if findIn K (.ref c) "__getattribute__" == some (some (.builtin "object.__getattribute__")) && findIn K (.ref c) "__getattr__" == some none && hasDictIn K c && !copiedNames.contains name then match findIn K (.ref c) name with
  | some (some (.ref f))=>if typeIn K (.ref f) == some (.type "function") && fnIn K f && specialIn K (.ref f) "__get__" == some (some (.builtin "function.__get__")) && takesIn K (.ref f) == some false then some f else none
  | _=>none
 else none
structure MethOk (K:Frag) (c:Addr) (name:Str) (f:Addr):Prop where
 ga:findIn K (.ref c) "__getattribute__" = some (some (.builtin "object.__getattribute__"))
 gt:findIn K (.ref c) "__getattr__" = some none
 hd:hasDictIn K c=true
 cp:copiedNames.contains name=false
 fd:findIn K (.ref c) name=some (some (.ref f))
 ty:typeIn K (.ref f)=some (.type "function")
 fn:fnIn K f=true
 sg:specialIn K (.ref f) "__get__" = some (some (.builtin "function.__get__"))
 tk:takesIn K (.ref f)=some false
theorem Vk {c f:Addr}{name:Str}(h:Sb K c name=some f):MethOk K c name f:=by
 unfold Sb at h
 refine Bo h ?_;clear h;intro h1 h
 simp only [Bool.and_eq_true,beq_iff_eq,Bool.not_eq_true']at h1
 refine Sl h ?_;clear h;intro g hg h
 refine Bo h ?_;clear h;intro h2 h
 obtain rfl:=Option.some.inj h
 simp only [Bool.and_eq_true,beq_iff_eq]at h2
 exact⟨h1.1.1.1,h1.1.1.2,h1.1.2,h1.2,hg,h2.1.1.1,h2.1.1.2,h2.1.2,h2.2⟩
noncomputable def Bv (C:Cx) (name:Str) (f:PF) (fs:LF) (W:FW):Wp AV:=fun Q ρ H=>∃ a ns vs,f ρ H=some (.ref a)/\Bl C H a=some ns/\name ∉ ns/\fs ρ H=some vs/\AV.stos vs=true/\W (.ref a :: vs) (fun v H'=>Q v ρ H') H
theorem cA {fm:Addr}(h:fnIn K fm=true):∃ o fd,K.lookup fm=some o/\o.data = .func fd:=by
 unfold fnIn at h
 generalize K.lookup fm=w at h
 cases w with
 | none=>exact nqd h
 | some o =>
  obtain⟨c,di,da,sl⟩:=o
  cases da <;> first | exact nqd h | exact⟨_,_,rfl,rfl⟩
theorem ImpE.meth {o:Expr}{name:Str}{apos pos:Pos}{args:List Expr}{fs:LF}{fm:Addr}{W:FW}(hK:K.In C.h0)(hm:Sb K C.tsC name=some fm)(ho:PureE C k sc o f)(ha:ArgsF C k sc args fs)(hf:CallR C k (.ref fm) W)
  (hbase:∀ env,attributeBase o name env (eval o env)=eval o env:=by intro _;rfl)
  (hfew:∀ env,methodCallForm (args.length + ([]:List Keyword).length) (backTo pos (starEach args env)) (backToKw pos (keywordEach [] env))=true:=by intro _;rfl)
  (hline:(apos.endLine == pos.line)=true:=by rfl):ImpE C k sc (.Call (.Attribute o name apos) args [] pos) (Bv C name f fs W):=by
 rintro A env s ρ H G Q hA F hs R ⟨a,ns,vs,hv,hin,hnn,hvs,hst,hW⟩
 have M:=Vk hm
 rw[arm_eval_Call,hbase env]
 refine wpAny_bind (wpAny_mono (ho A env s ρ H G _ _ hA F R hv) (fun ov s1 h1=>?_) fun z0 z0 x=>x)
 refine Ac fun PP ret=>?_
 obtain⟨rv,k1⟩:=h1
 simp only [vRr]at rv;subst rv
 have R1:=R.keep k1.k
 have F1:=F.keep k1.k
 have X:K.In s1.heap:=hK.keeps fun b o e=>(R1.base b o e).1
 obtain⟨d,od,I,hl⟩:=bU R1 hin
 refine ret ?_
 refine wpAny_bind (wpAny_standAt ?_)
 have hpos:methodCallPos true o env apos pos=pure pos:=by unfold methodCallPos;simp[hline]
 unfold methodCall
 rw[hfew env]
 refine wpAny_bind (wpAny_holding (method_fn X I M.ga M.gt M.fd M.ty (by simp[shadowIn,hl name hnn]) ?_))
 refine wpAny_bind (wpAny_of_eq hpos ?_)
 refine Ac fun PP ret=>?_
 obtain⟨of,fd,hof,hfd⟩:=cA M.fn
 refine ret ?_
 refine Calls.callWith_function (o:=of) (fd:=fd) (wpAny_mono (ha (.ref fm) pos A env s1 ρ H G _ vs hA F1 R1 hvs) (fun a' s2 h2=>?_) fun z0 z0 x=>x)
 refine Ac fun PP ret=>?_
 obtain⟨xs,rfl,r2,k2⟩:=h2
 have R2:=R1.keep k2.k
 have k12:=k1.trans' k2
 refine ret ?_
 refine⟨⟨(R2.base fm of (hK _ _ hof)).1,hfd⟩,?_⟩
 refine wpAny_mono (hf.wp A s2 H G (.ref a :: vs) (.ref a :: xs) _ hA (F.keep k12.k).frs R2 (.cons (by simp[vRr]) r2) (by simp[AV.stos,AV.sto,hst]) hW) (fun y s3 h3=>?_) fun z0 z0 x=>x
 refine Ac fun PP ret=>?_
 obtain⟨v,H3,G3,hq,hv3,hsv,R3,S3⟩:=h3
 have F2:=F.keep k12.k
 refine ret ?_
 exact⟨v,ρ,H3,G3,hq,hv3,hsv,S3.wf F2 hs,hs,R3,(Step.kp R k12).trans (S3.frm F2)⟩
end
end Mine
end
section
namespace Mine
theorem Rf (c:Addr)(rest:List Value):(Code.builtin "type.__call__" ⟨.ref c :: rest,[]⟩).weight<=1:=by
 first
  | exact Ar.r27 (by first | rfl | kernel_rfl:(Code.builtin "type.__call__" ⟨.ref c :: rest,[]⟩).weight=1)
theorem Uj (c:Addr)(rest:List Value):(Code.builtin "type.__call__" ⟨.ref c :: rest,[]⟩).cUnits<=10:=by
 first
  | exact Ar.r28 (by first | rfl | kernel_rfl:(Code.builtin "type.__call__" ⟨.ref c :: rest,[]⟩).cUnits=1)
noncomputable def eE (o0:FObj) (W:FW):FW:=fun vs Q H=>∀ a,H a=none->W (.ref a :: vs) (fun v H'=>v = .none/\Q (.ref a) H') (upd H a (.f o0))
section
variable {C:Cx} {k:Nat} {K:Frag}
theorem CallR.new {c fI:Addr} {o0:FObj} {W:FW} (hK:K.In C.h0) (hm:makesIn K c=true) (hi:findIn K (.ref c) "__init__" = some (some (.ref fI))) (hf:typeIn K (.ref fI)=some (.type "function"))
  (ho:o0 = .inst c []\/o0 = .slots c []) (hW:CallR C k (.ref fI) W):CallR C (k + 1) (.ref c) (eE o0 W):=by
 intro A s H G vs xs Q hA hF R hr hst hW'
 obtain⟨hA1,hA2,hA3⟩:=hA
 have X:K.In s.heap:=hK.keeps fun b o e=>(R.base b o e).1
 obtain⟨hh,g,dr,t,os⟩:=s
 refine make_core (makes_of X hm) (looks_findIn X hi) (fun self=>bind_fn X self hf) (.inl rfl) ?_
 have hw:=Rf c xs
 have hu:=Uj c xs
 have hA':AOk k (A.under (.builtin "type.__call__" ⟨.ref c :: xs,[]⟩)):=⟨hA1,by refine(?_:A.depth + (Code.builtin "type.__call__" ⟨.ref c :: xs,[]⟩).weight + k + 20<=900);exact Ar.r49 hA2 hw,by refine(?_:A.units + (Code.builtin "type.__call__" ⟨.ref c :: xs,[]⟩).cUnits + 100 * (k + 1)<=9000);exact Ar.r64 hA3 hu⟩
 have hk:∀ b o,hh.get? b=some o->((hh.push emptyDict).push (instObj c hh.objs.size)).get? b=some o:=fun b o e=>Heap.get?_push_of_some _ (Heap.get?_push_of_some _ e)
 have hsz:(hh.push emptyDict).objs.size=hh.objs.size + 1:=Heap.size_push ..
 have hx:((hh.push emptyDict).push (instObj c hh.objs.size)).get? (hh.objs.size + 1)=some (instObj c hh.objs.size):=by rw[<- hsz];exact Heap.get?_push_size _ rfl
 have hd0:(hh.push emptyDict).get? hh.objs.size=some emptyDict:=Heap.get?_push_size _ rfl
 have hd:((hh.push emptyDict).push (instObj c hh.objs.size)).get? hh.objs.size=some emptyDict:=Heap.get?_push_of_some _ hd0
 have hns:((hh.push emptyDict).push (instObj c hh.objs.size)).Ns hh.objs.size fun z0=>none:=(Heap.Ns.new hh (.type "dict")).keeps fun b o e=>Heap.get?_push_of_some _ e
 have nn:∀ b,hh.objs.size<=b->hh.get? b=none:=fun b hb=>by
  clear R X hA' hA1 hA2 hA3 hF hK hW hW' hd hd0 hf hi hk hm hns ho hr hst hsz hu hw hx;cases e:hh.get? b with
  | none=>rfl
  | some o=>exact absurd (Heap.lt_size e) (Nat.not_lt.mpr hb)
 have M:Made C (own H G) G o0 ⟨hh,g,dr,t,os⟩ (hh.objs.size + 1) [hh.objs.size] ⟨(hh.push emptyDict).push (instObj c hh.objs.size),g,dr,t,os⟩:=by
  refine⟨?_,by simp,fun b hb=>?_,⟨⟨_,t,rfl⟩,hk⟩⟩
  ·clear R X hA' hA1 hA2 hA3 hF hK hW hW' hd hd0 hf hi hk hm hr hst hsz hu hw nn;rcases ho with rfl | rfl
   ·exact⟨hh.objs.size,_,rfl,rfl,Nat.zero_le _,hx,Heap.Ns1.of_empty hns,fun y=>⟨fun z0=>rfl,fun v hv=>by simp at hv⟩⟩
   ·exact⟨hh.objs.size,#[],rfl,rfl,hx,hns,rfl,fun i=>⟨fun v hv=>by simp at hv,fun hv=>by simp at hv⟩⟩
  ·clear R X hA' hA1 hA2 hA3 hF hK hW hW' hd0 hf hi hk hm hns ho hr hst hsz hu hw;rcases hb with rfl | hb
   ·exact⟨nn _ (Nat.le_succ _),_,hx⟩
   ·simp at hb;subst hb;exact⟨nn _ (Nat.le_refl _),_,hd⟩
 obtain⟨hn,R1,S1⟩:=Made.step R M
 have hr1:=S1.vals hst hr
 refine codeAny_mono (hW _ ⟨(hh.push emptyDict).push (instObj c hh.objs.size),g,dr,t,os⟩ _ _ (.ref (hh.objs.size + 1) :: vs) (.ref (hh.objs.size + 1) :: xs) _ hA' (let ⟨l,e,q⟩:=S1.frs hF;⟨l,by rw[<- e];rfl,q⟩) R1 (.cons (by simp[vRr]) hr1) (by simp[AV.stos,AV.sto,hst]) (hW' _ hn)) fun r s' hr=>?_
 rcases r with e | (v | _ | _ | _) <;> first | exact hr.elim | skip
 clear M R R1 X hA' hA1 hA2 hA3 hF hK hW hW' hd hd0 hf hi hk hm hn hns ho hr1 hst hsz hu hw hx nn;obtain⟨v',H',G',⟨rfl,hq⟩,hv,hsv,R',S'⟩:=hr
 simp only [vRn]at hv;subst hv
 exact⟨rfl,.ref (hh.objs.size + 1),H',G',hq,by simp[vRr],rfl,R',S1.trans S'⟩
end
section
variable {C:Cx} {k:Nat} {sc:Sc} {K:Frag}
theorem ImpE.callC {x:Str}{p pos:Pos}{args:List Expr}{fs:LF}{c:Addr}{W:FW}(hK:K.In C.h0)(hx:x ∈ sc.globs)(hm:C.mg x=some (.ref c))(hk:keepIn K (.ref c)=true)(hargs:ArgsF C k sc args fs)(hf:CallR C k (.ref c) W)
  (hns:Ig args:=by intro _;rfl) (hdb:(x == ("__debug__":Str))=false:=by decide):ImpE C k sc (.Call (.Name x p) args [] pos) (Ci fs W):=by
 rintro A env s ρ H G Q hA F hs R ⟨vs,hvs,hst,hW⟩
 refine wpAny_Call_NameR (wpAny_Name (Cf F R hx (.inl hm) ?_) hdb)
 refine callWith_of (P:=K.In) (by rw[Ct hns pos env];rfl) (keeps_K hk) (wpAny_mono (hargs (.ref c) pos A env s ρ H G _ vs hA F R hvs) (fun a' s1 h1=>?_) fun z0 z0 x=>x)
 obtain⟨xs,rfl,r1,k1⟩:=h1
 have R1:=R.keep k1.k
 refine⟨hK.keeps fun b o e=>(R1.base b o e).1,?_⟩
 refine wpAny_mono (hf.wp A s1 H G vs xs _ hA (F.keep k1.k).frs R1 r1 hst hW) (fun y s2 h2=>?_) fun z0 z0 x=>x
 obtain⟨v,H2,G2,hq,hv,hsv,R2,S2⟩:=h2
 have F1:=F.keep k1.k
 exact⟨v,ρ,H2,G2,hq,hv,hsv,S2.wf F1 hs,hs,R2,(Step.kp R k1).trans (S2.frm F1)⟩
end
end Mine
end
section
namespace Mine
noncomputable def Kv (n:Nat) (vs:List AV):Option (List AV):=if n<=vs.length/\vs.length<=lim then some (vs.take n++[.tup (vs.drop n)]) else none
section
variable {C:Cx}
theorem Kl {A:Around}{s:Shared}{H:AH}{G:Gh}{vs:List AV}{xs:List Value}{Q:Value->Shared->Prop}(R:Rel C H G (own H G) s.heap)(hr:VRels s.heap (own H G) G vs xs)(hz:vs.length<=lim)
  (hQ:∀ t s',VRel s'.heap (own H G) G (.tup vs) t->Kp s s'->Q t s'):wpAny (model C.prog C.w) A (newTuple xs) Q (fun z0 z0=>False) s:=by
 have hl:=hr.length
 unfold newTuple
 refine wpAny_newObj_type ?_ (show xs.toArray.size<=sizeLine by have:=Cj;simp;exact Ar.r95 hz hl this)
 refine hQ _ _ ?_ .push
 simp only [vRp]
 exact⟨_,0,xs,rfl,Heap.get?_push_size _ rfl,R.nsize,hz,hr.keep fun z0 z0 e=>Heap.get?_push_of_some _ e⟩
theorem BindR.star1K {fd:FuncData}{a v:Str}(h:∀ (x:Value) (rest:List Value),bindArgs fd ⟨x :: rest,[]⟩=(newTuple rest >>= fun t=>pure [(a,x),(v,t)])):BindR C fd [a,v] (Kv 1):=by
 intro A s H G vs ws xs R hr hst hb
 unfold Kv at hb
 refine Bo hb ?_;clear hb;intro hc hb
 obtain rfl:=Option.some.inj hb
 clear hb;cases vs with
 | nil=>simp at hc
 | cons v vs =>
  simp only [vSc]at hr
  obtain⟨x,ys,rfl,h1,h2⟩:=hr
  simp only [AV.stos,Bool.and_eq_true]at hst
  rw[h x ys]
  refine wpAny_bind (Kl R h2 (by simp at hc;exact Ar.r59 hc) fun t s' ht k'=>wpAny_pure ⟨[x,t],rfl,by simp,?_,?_,k'⟩)
  ·simp only [List.take_succ_cons,List.take_zero,List.drop_succ_cons,List.drop_zero,List.cons_append,List.nil_append]
   exact .cons (h1.keep k'.k) (.one ht)
  ·simp[AV.stos,AV.sto,hst.1,hst.2]
theorem BindR.star2K {fd:FuncData}{a b v:Str}(h:∀ (x y:Value) (rest:List Value),bindArgs fd ⟨x :: y :: rest,[]⟩=(newTuple rest >>= fun t=>pure [(a,x),(b,y),(v,t)])):BindR C fd [a,b,v] (Kv 2):=by
 intro A s H G vs ws xs R hr hst hb
 unfold Kv at hb
 refine Bo hb ?_;clear hb;intro hc hb
 obtain rfl:=Option.some.inj hb
 clear hb;cases vs with
 | nil=>simp at hc
 | cons v vs=>cases vs with
  | nil=>simp at hc
  | cons u vs =>
   refine Ac fun PP ret=>?_
   simp only [vSc]at hr
   obtain⟨x,ys,rfl,h1,y,zs,rfl,h2,h3⟩:=hr
   simp only [AV.stos,Bool.and_eq_true]at hst
   refine ret ?_
   rw[h x y zs]
   refine wpAny_bind (Kl R h3 (by simp at hc;exact Ar.r52 hc) fun t s' ht k'=>wpAny_pure ⟨[x,y,t],rfl,by simp,?_,?_,k'⟩)
   ·simp only [List.take_succ_cons,List.take_zero,List.drop_succ_cons,List.drop_zero,List.cons_append,List.nil_append]
    exact .cons (h1.keep k'.k) (.cons (h2.keep k'.k) (.one ht))
   ·simp[AV.stos,AV.sto,hst.1,hst.2.1,hst.2.2]
noncomputable def Pg (vs:List AV):Option (List AV):=match vs with
 | [v]=>some [v,.none]
 | _=>none
theorem BindR.dflt1 {fd:FuncData}{a1 a2:Arg}{t:Addr}{n:Nat}{dx:List Expr}(hp:fd.params={ posonlyargs:=[],args:=[a1,a2],vararg:=none,kwonlyargs:=[],kw_defaults:=[],kwarg:=none,defaults:=dx })(hd:fd.defaults = .ref t)(ht:C.h0.get? t=some (Kz [.none] n))(hne:a2.arg ≠ a1.arg):BindR C fd [a1.arg,a2.arg] Pg:=by
 intro A s H G vs ws xs R hr hst hb
 unfold Pg at hb
 refine Yx hb ?_;clear hb;intro v q1 hb;subst q1
 obtain rfl:=Option.some.inj hb
 simp only [vSn,vSc]at hr
 obtain⟨x,ys,rfl,h1,rfl⟩:=hr
 simp only [AV.stos,Bool.and_true]at hst
 have ht':=(R.base t _ ht).1
 have e2:(a2.arg == a1.arg)=false:=by simpa using hne
 have hs:∀ {Q:Option (Array Value)->Shared->Prop},Q (some #[.none]) s->wpAny (model C.prog C.w) A (seqItems? (.ref t)) Q (fun z0 z0=>False) s:=by
  intro Q hq
  unfold seqItems?
  exact wpAny_bind (wpAny_load ht' (wpAny_pure hq))
 refine wpAny_mono (Q:=fun binds s'=>binds=[(a1.arg,x),(a2.arg,.none)]/\s' = s) (E:=fun z0 z0=>False) ?_ (fun binds s' hb=>?_) fun z0 z0 x=>x
 ·unfold bindArgs
  simp[hp,hd]
  refine wpAny_bind (hs ?_)
  simp[List.lookup_cons,e2]
  exact wpAny_pure ⟨rfl,rfl⟩
 ·clear R e2 hd hne hp hs ht ht';obtain⟨rfl,rfl⟩:=hb
  exact⟨[x,.none],rfl,rfl,.cons h1 (.one (by simp[vRn])),by simp[AV.stos,AV.sto,hst],.refl' _⟩
end
end Mine
end
section
namespace Mine
section
variable {C:Cx} {k:Nat} {sc:Sc} {f f':PF}
noncomputable def fF:Rho->AH->Option FObj:=fun z0 z0=>some (.dic false [])
theorem dN {h:Heap}{H:AH}{G:Gh}{O:Addr->Prop}(R:Rel C H G O h):sysModules < h.objs.size:=by
 have:=(C.ns.keeps fun b o e=>(R.base b o e).1).lt
 exact Nat.lt_of_le_of_lt (by decide) this
theorem MakeE.dict0 {pos:Pos}:MakeE C k sc (.Dict [] [] pos) fF:=by
 intro A env s ρ H G O o hA F R ho;obtain rfl:=Option.some.inj ho
 have hne:(s.heap.objs.size == sysModules)=false:=by
  have:=dN R
  simp only [beq_eq_false_iff_ne,ne_eq];intro e;rw[e]at this;exact Nat.lt_irrefl _ this
 refine wpAny_Dict_empty ⟨s.heap.objs.size,[],rfl,⟨rfl,hne,rfl,[],Heap.DictOf.new s.heap,.nil⟩,by simp,fun b hb=>?_,.push⟩
 have hb2:b=s.heap.objs.size:=by
  rcases hb with q | q
  ·exact q
  ·simp at q
 subst hb2
 exact⟨Qm _,_,Heap.get?_push_size _ rfl⟩
noncomputable def Ku (H:AH) (u v:AV):Option AV:=match u,v with
 | .ref a,.int i=>match H a with
  | some (.f (.dic _ es))=>some ((es.lookup i).getD .none)
  | _=>none
 | _,_=>none
theorem Fj {es:List (Int × AV)}{xs:List Value}{h O G}(hr:VRels h O G (es.map (·.2)) xs){k:Int}(e:es.lookup k=none):((es.map (·.1)).zip xs).lookup k=none:=by
 induction es generalizing xs with
 | nil=>simp
 | cons p r ih =>
  obtain⟨i,v⟩:=p
  simp only [List.map_cons,vSc]at hr
  obtain⟨x,ys,rfl,_,h2⟩:=hr
  rw[List.lookup_cons]at e
  simp only [List.map_cons,List.zip_cons_cons,List.lookup_cons]
  cases q:k == i with
  | true=>rw[q]at e;exact nqb e
  | false=>rw[q]at e;exact ih h2 e
end
end Mine
end
section
namespace Mine
section
variable {C:Cx} {k:Nat} {sc:Sc} {f f':PF}
theorem PureE.dget {o e:Expr} {apos pos:Pos} {fe:PF} (ho:PureE C k sc o f) (he:PureE C k sc e fe) (hbase:∀ env,attributeBase o "get" env (eval o env)=eval o env:=by intro _;rfl)
  (hfew:∀ env,((backTo pos (starEach [e] env)).all (fun x=>!x.1) && (backToKw pos (keywordEach [] env)).all (fun x=>x.1.isSome) && decide (([e]:List Expr).length + ([]:List Keyword).length + (if ([]:List Keyword).isEmpty then 0 else 1) < 30))=true:=by intro _;rfl)
  (hline:(apos.endLine == pos.line)=true:=by rfl) (htr:∀ env,backTo pos (starEach [e] env)=[(false,eval e env)]:=by intro _;rfl):PureE C k sc (.Call (.Attribute o "get" apos) [e] [] pos) (opP Ku f fe):=by
 intro A env s ρ H G O r hA F R hr
 obtain⟨u,v,hu,hv,hg⟩:=It hr
 unfold Ku at hg
 refine Iy hg ?_;clear hg;intro a i q1 q2 hg;subst q1;subst q2
 refine gY hg ?_;clear hg;intro lk es hH hg
 obtain rfl:=Option.some.inj hg
 refine wpAny_Call_method (hbase env) (hfew env) hline PySem.F.plainAttrs_dict PySem.F.slot_dict_get PySem.F.type_dict_get (wpAny_mono (ho A env s ρ H G O _ hA F R hu) (fun x s1 h1=>?_) fun z0 z0 x=>x)
 obtain⟨rx,k1⟩:=h1
 simp only [vRr]at rx;subst rx
 have R1:=R.keep k1.k
 obtain⟨_,hsm,hst,xs,hd,hr⟩:=R1.obj a _ hH
 refine⟨hd.typeIs,hd.mapOf.noDict,?_⟩
 rw[htr env]
 refine wpAny_dict_get1 (knd:=intKind C.prog C.w) hsm (wpAny_mono (he A env s1 ρ H G O _ hA (F.keep k1.k) R1 hv) (fun y s2 h2=>?_) fun z0 z0 x=>x)
 obtain⟨ry,k2⟩:=h2
 simp only [vRi]at ry
 obtain⟨t,rfl⟩:=ry
 refine⟨i,_,intKind_is _ _ i t,(hd.keep k2.k).mapOf,?_⟩
 have k12:Kp s { s2 with toks:=s2.toks + 1 }:=(k1.trans' k2).trans' .tok
 refine⟨?_,k12⟩
 cases q:es.lookup i with
 | some v =>
  obtain⟨x,hx,hvx⟩:=Hw hr q
  rw[hx]
  exact hvx.keep k2.k
 | none =>
  have h0:=Fj hr q
  have:valueAt ((es.map (·.1)).zip xs) i=Option.none:=by
   unfold valueAt
   have:((es.map (·.1)).zip xs).find? (fun kv=>decide (kv.1=i))=Option.none:=by
    generalize (es.map (·.1)).zip xs=l at h0
    induction l with
    | nil=>rfl
    | cons p l ih =>
     obtain⟨j,y⟩:=p
     rw[List.lookup_cons]at h0
     cases hq:i == j with
     | true=>rw[hq]at h0;exact nqb h0
     | false =>
      rw[hq]at h0
      rw[List.find?_cons]
      have:¬ j=i:=by intro e;subst e;simp at hq
      simp only [this,decide_false]
      exact ih h0
   rw[this];rfl
  rw[this]
  simp[vRn]
theorem Sv {l:List (Int × Value)}{i:Int}(h:l.lookup i=none):l.any (fun kv=>decide (kv.1=i))=false:=by
 induction l with
 | nil=>rfl
 | cons p l ih =>
  obtain⟨j,y⟩:=p
  rw[List.lookup_cons]at h
  cases hq:i == j with
  | true=>rw[hq]at h;exact nqb h
  | false =>
   rw[hq]at h
   have:¬ j=i:=by intro e;subst e;simp at hq
   simp[this]
   simpa using ih h
theorem stored_new' {l:List (Int × Value)}{i:Int}{x:Value}(h:l.lookup i=none):stored l i x=l++[(i,x)]:=by
 unfold stored;rw[Sv h];simp
theorem Pm {s:Shared}{H:AH}{G:Gh}{a:Addr}{es es':List (Int × AV)}{xs:List Value}{h':Heap}{tk:Nat}(R:Rel C H G (own H G) s.heap)(ha:H a=some (.f (.dic false es)))(hs:AV.stos (es'.map (·.2))=true)
  (hd:h'.DictOf (intKind C.prog C.w) a ((es'.map (·.1)).zip xs)) (hk:∀ b ob,b ≠ a->s.heap.get? b=some ob->h'.get? b=some ob) (hr:VRels s.heap (own H G) G (es'.map (·.2)) xs) :
  Rel C (upd H a (.f (.dic false es'))) G (own (upd H a (.f (.dic false es'))) G) h'/\Step (fun z0=>False) H G s (upd H a (.f (.dic false es'))) G { s with heap:=h',toks:=tk }:=by
 have hO:own H G a:=⟨a,by rw[ha];simp,.inl rfl⟩
 obtain⟨hG,hsm,_⟩:=R.obj a _ ha
 refine⟨R.change ha (fun b ob h1 z0 e=>hk b ob h1 e) ⟨hG,hsm,hs,xs,hd,hr.wide fun b ob xs n e z0 hb=>⟨hk b ob (fun q=>hb (q ▸ hO)) e,hb⟩⟩ (fun b hb=>?_),.turn R ha rfl fun b ob h1 z0 e=>hk b ob h1 e⟩
 rw[hG]at hb;simp at hb;clear R hG hO ha hk hr hs hsm right;subst hb
 obtain⟨o,es,ep,ho,_⟩:=hd
 exact⟨o,ho⟩
noncomputable def Od (H:AH) (ov iv v:AV):Option AH:=match ov,iv with
 | .ref a,.int i=>match H a with
  | some (.f (.dic false es))=>if (es.lookup i).isNone=true/\v.sto=true/\es.length < lim then some (upd H a (.f (.dic false (es++[(i,v)])))) else none
  | _=>none
 | _,_=>none
theorem Sp {H:AH}{a:Addr}{i:Int}{v:AV}:Od H (.ref a) (.int i) v=match H a with | some (.f (.dic false es))=>if (es.lookup i).isNone=true/\v.sto=true/\es.length < lim then some (upd H a (.f (.dic false (es++[(i,v)])))) else none | _=>none:=rfl
theorem Ub {A:Around}{s:Shared}{H H':AH}{G:Gh}{ov iv v:AV}{x y z:Value}{Q:Unit->Shared->Prop}(R:Rel C H G (own H G) s.heap)(hx:VRel s.heap (own H G) G ov x)(hy:VRel s.heap (own H G) G iv y)(hz:VRel s.heap (own H G) G v z)(e:Od H ov iv v=some H')
  (hQ:∀ s' G',Rel C H' G' (own H' G') s'.heap->Step (fun z0=>False) H G s H' G' s'->Q () s'):wpAny (model C.prog C.w) A (setItem x y z) Q (fun z0 z0=>False) s:=by
 unfold Od at e
 refine Iy e ?_;clear e;intro a i q1 q2 e;subst q1;subst q2
 refine cZ e ?_;clear e;intro es hH e
 refine Bo e ?_;clear e;intro hc e
 obtain rfl:=Option.some.inj e
 simp only [vRi,vRr]at hx hy
 subst hx
 obtain⟨t,rfl⟩:=hy
 obtain⟨_,hsm,hst,xs,hd,hr⟩:=R.obj a _ hH
 have hlen:=hr.length
 have hn:es.lookup i=none:=by simpa using hc.1
 have h0:=Fj hr hn
 refine wpAny_setItem_pairs (knd:=intKind C.prog C.w) (k:=i) (intKind_is _ _ i t) hd (fun h' hd' hs'=>?_) (by
  have:=Cj
  simp only [List.length_zip,List.length_map]at hlen ⊢
  lia)
 rw[stored_new' h0]at hd'
 have e2:(es.map (·.1)).zip xs++[(i,z)]=((es++[(i,v)]).map (·.1)).zip (xs++[z]):=by
  rw[List.map_append,List.zip_append (by simpa using hlen.symm)];rfl
 rw[e2]at hd'
 obtain⟨R',S'⟩:=Pm (tk:=s.toks + 1) R hH (by rw[List.map_append,stos_iff];intro u hu;simp at hu;exact hu.elim (fun ⟨q,hq⟩=>Bq hst (List.mem_map.mpr ⟨_,hq,rfl⟩)) fun e=>e ▸ hc.2.1) hd' (fun b ob hb e=>hs'.extBut b ob hb e) (by rw[List.map_append];exact hr.append (.one hz))
 exact hQ _ G R' S'
noncomputable def Uc (W:Wp AV) (fo fi:PF):Wp AFlow:=fun Q=>W fun v ρ H=>∃ ov iv H',fo ρ H=some ov/\fi ρ H=some iv/\Od H ov iv v=some H'/\Q .next ρ H'
theorem StmtR.dset {o i e:Expr}{p pos:Pos}{W:Wp AV}(he:ImpE C k sc e W)(ho:PureE C k sc o f)(hi:PureE C k sc i f')(hsw:∀ env,swapsWith e (some (.Subscript o i p)) pos.line env=pure false:=by intro _;rfl) :
  StmtR C k sc (.Assign [.Subscript o i p] e pos) (Uc W f f'):=by
 intro A env s ρ H G Q hA F hs R hT
 refine wpAny_Assign_Subscript (wpAny_mono (he A env s ρ H G _ hA F hs R hT) (fun z s1 h1=>?_) fun z0 z0 x=>x) (hsw env)
 refine Ac fun PP ret=>?_
 obtain⟨v,ρ1,H1,G1,⟨ov,iv,H2,hov,hiv,hset,hq⟩,hv,hsv,F1,hs1,R1,S1⟩:=h1
 refine ret ?_
 refine PureE.two ho hi hA F1 R1 hov hiv fun x y s2 hx hy k2=>?_
 have R2:=R1.keep k2.k
 have F2:=F1.keep k2.k
 refine Ub R2 hx hy (hv.keep k2.k) hset fun s3 G3 R3 S3=>?_
 exact⟨.next,ρ1,H2,G3,hq,trivial,S3.wf F2 hs1,hs1,R3,(S1.trans (.kp R1 k2)).trans (S3.frm F2)⟩
noncomputable def set0:Rho->AH->Option FObj:=fun z0 z0=>some (.iset [])
theorem MakeE.set0 {x:Str} {p pos:Pos} (hx:x ∈ sc.globs) (hm:C.mg x=Option.none) (hb:C.mb x=some (.type "set")) (hd:(x == ("__debug__":Str))=false:=by decide):MakeE C k sc (.Call (.Name x p) [] [] pos) Mine.set0:=by
 intro A env s ρ H G O o hA F R ho;obtain rfl:=Option.some.inj ho
 refine wpAny_Call_NameR (wpAny_Name (Cf F R hx (.inr ⟨hm,hb⟩) ?_) hd)
 refine PySem.callWith_type (by rfl) (PySem.evalArgs_none ?_)
 refine call_set_0 fun led=>⟨s.heap.objs.size,[],rfl,⟨rfl,?_⟩,by simp,fun b hb=>?_,.push⟩
 ·have e:(fun k=>decide (k ∈ ([]:List Int)))=(fun z0:Int=>false):=by funext k;simp
  rw[e]
  exact PyProof.Rows.SetOf_congr ((PyProof.Rows.setObjOf_fresh (knd:=intKind C.prog C.w) led).setOf (Heap.get?_push_size _ rfl) (by unfold scanBound;exact Ar.r212)) (fun z0=>rfl) rfl
 ·have hb2:b=s.heap.objs.size:=by
   rcases hb with q | q
   ·exact q
   ·simp at q
  subst hb2
  exact⟨Qm _,_,Heap.get?_push_size _ rfl⟩
noncomputable def Xl (H:AH) (ov iv:AV):Option AH:=match ov,iv with
 | .ref a,.int i=>match H a with
  | some (.f (.iset ks))=>if i ∉ ks/\ks.length + 1 < scanBound then some (upd H a (.f (.iset (ks++[i])))) else none
  | _=>none
 | _,_=>none
noncomputable def Ti (f fe:PF):Wp AV:=fun Q ρ H=>∃ v x H',f ρ H=some v/\fe ρ H=some x/\Xl H v x=some H'/\Q .none ρ H'
theorem ImpE.sadd {o e:Expr} {apos pos:Pos} {fe:PF} (ho:PureE C k sc o f) (he:PureE C k sc e fe) (hbase:∀ env,attributeBase o "add" env (eval o env)=eval o env:=by intro _;rfl)
  (hfew:∀ env,((backTo pos (starEach [e] env)).all (fun x=>!x.1) && (backToKw pos (keywordEach [] env)).all (fun x=>x.1.isSome) && decide (([e]:List Expr).length + ([]:List Keyword).length + (if ([]:List Keyword).isEmpty then 0 else 1) < 30))=true:=by intro _;rfl)
  (hline:(apos.endLine == pos.line)=true:=by rfl) (htr:∀ env,backTo pos (starEach [e] env)=[(false,eval e env)]:=by intro _;rfl):ImpE C k sc (.Call (.Attribute o "add" apos) [e] [] pos) (Ti f fe):=by
 rintro A env s ρ H G Q hA F hs R ⟨v,x,H',hv,hx,hp,hq⟩
 unfold Xl at hp
 refine Iy hp ?_;clear hp;intro a i q1 q2 hp;subst q1;subst q2
 refine gW hp ?_;clear hp;intro ks hH hp
 refine Bo hp ?_;clear hp;intro hc hp
 obtain rfl:=Option.some.inj hp
 refine wpAny_Call_method (hbase env) (hfew env) hline PySem.F.plainAttrs_set PySem.F.slot_set_add PySem.F.type_set_add (wpAny_mono (ho A env s ρ H G _ _ hA F R hv) (fun x s1 h1=>?_) fun z0 z0 x=>x)
 obtain⟨rx,k1⟩:=h1
 simp only [vRr]at rx;clear hbase hfew hline hp hv;subst rx
 have R1:=R.keep k1.k
 obtain⟨hG,hset⟩:=R1.obj a _ hH
 refine⟨hset.typeIs,hset.noDict,?_⟩
 rw[htr env]
 refine Calls.callWith_builtin rfl (Calls.evalArgs_plain (Calls.spliced_cons (wpAny_mono (he A env s1 ρ H G _ _ hA (F.keep k1.k) R1 hx) (fun y s2 h2=>Calls.spliced_nil ?_) fun z0 z0 x=>x)))
 obtain⟨ry,k2⟩:=h2
 simp only [vRi]at ry
 obtain⟨t,rfl⟩:=ry
 have k12:=k1.trans' k2
 have R2:=R.keep k12.k
 obtain⟨_,hset2⟩:=R2.obj a _ hH
 refine call_set_add (intKind_is _ _ i t) rfl hset2 hc.2 fun h' hsb hS'=>?_
 have e1:(if decide (i ∈ ks)=true then ks.length else ks.length + 1)=(ks++[i]).length:=by simp[hc.1]
 have e2:(fun k'=>decide (k' ∈ ks) || decide (k' = i))=fun k'=>decide (k' ∈ ks++[i]):=by funext k';simp
 rw[e1,e2]at hS'
 have hk:∀ b ob,b ≠ a->s2.heap.get? b=some ob->h'.get? b=some ob:=fun b ob hb e=>hsb.extBut b ob hb e
 have R3:Rel C (upd H a (.f (.iset (ks++[i])))) G (own (upd H a (.f (.iset (ks++[i])))) G) h':=R2.change hH (fun b ob h1 z0 e=>hk b ob h1 e) ⟨hG,hS'⟩ (fun b hb=>by
  rw[hG]at hb;simp at hb;subst hb
  obtain⟨o,_,_,_,ho,_⟩:=hS'
  exact⟨o,ho⟩)
 have S3:Step (fun z0=>False) H G s2 (upd H a (.f (.iset (ks++[i])))) G { s2 with heap:=h',toks:=s2.toks + 1 }:=.turn R2 hH rfl fun b ob h1 z0 e=>hk b ob h1 e
 have F2:=F.keep k12.k
 exact⟨.none,ρ,_,G,hq,by simp[vRn],rfl,S3.wf F2 hs,hs,R3,(Step.kp R k12).trans (S3.frm F2)⟩
end
end Mine
end
section
namespace Mine
section
variable {C:Cx} {k:Nat} {sc:Sc} {f f':PF}
theorem Step.valF {A:Around}{env:Env}{ρ:Rho}{s s':Shared}{H H':AH}{G G':Gh}(S:Step (fr env) H G s H' G' s')(F:WF C A sc env ρ G (own H G) s.heap){v:AV}{x:Value}(hs:v.sto=true)(r:VRel s.heap (own H G) G v x):VRel s'.heap (own H' G') G' v x :=
 r.mono (fun b o xs n e hd hb=>⟨let ⟨o',e',q⟩:=S.keep b o hb (F.noseq e hd) e;by rw[e',q.eq (Ch hd)],fun q=>(S.fresh b q).elim hb fun n=>by rw[n]at e;exact nqa e⟩) hs
theorem bR {A:Around}{s s1:Shared}{O:Addr->Prop}{G:Gh}{es:List (Int × AV)}{xs:List Value}{a:Addr}{Q:Value->Shared->Prop}(hh:A.handled=none)(k1:Kp s s1)(hsm:(a == sysModules)=false)
  (hd:s1.heap.DictOf (intKind C.prog C.w) a ((es.map (·.1)).zip xs)) (hl:xs.length=es.length)
  (hQ:∀ s2 I fp wr P St,(∀ {b o},s1.heap.get? b=some o->s2.heap.get? b=some o)->Kp s s2->ItOK C A s s2 O G (es.map fun p=>AV.int p.1) I fp wr [a] P St->Q (.ref I) s2):wpAny (model C.prog C.w) A (pyIter (.ref a)) Q (fun z0 z0=>False) s1:=by
 obtain⟨ep,hat⟩:=hd.dictAt
 have hlt:=hat.lt_size
 have hlen:((es.map (·.1)).zip xs).length=(es.map fun p=>AV.int p.1).length:=by simp[hl]
 refine wpAny_pyIter_dict hsm hat (hQ _ _ [s1.heap.objs.size,a] [s1.heap.objs.size] (fun i v=>∃ k x,((es.map (·.1)).zip xs)[i]? = some (k,x)/\(intKind C.prog C.w).is k v=true) (fun i h=>h.IsKeyIter s1.heap.objs.size a i ((es.map (·.1)).zip xs).length ep/\h.DictAt (intKind C.prog C.w) a ((es.map (·.1)).zip xs) ep) (fun e=>Heap.get?_push_of_some _ e) (k1.trans' .push) ⟨?_,?_,?_,?_,?_,?_,?_,?_⟩)
 ·have:=Walks.dictKeys (prog:=C.prog) (w:=C.w) (knd:=intKind C.prog C.w) hh s1.heap.objs.size a (Nat.ne_of_lt hlt) ((es.map (·.1)).zip xs) ep
  rw[hlen]at this ⊢
  exact this
 ·exact⟨⟨_,Heap.get?_push_size _ rfl,rfl,rfl⟩,hat.push _⟩
 ·intro b hb;simp at hb;clear hQ hat hd hh hl hlen hlt hsm;subst hb;exact⟨Dl k1,_,Heap.get?_push_size _ rfl⟩
 ·rintro i h ⟨⟨o',e',_,hd⟩,_⟩ b hb;simp at hb;clear hQ hat hh hl hlen hlt hsm k1 left right;subst hb;exact⟨o',_,e',hd⟩
 ·intro b hb;simp at hb;clear hQ hat hd hh hl hlen hlt hsm k1;rcases hb with rfl | rfl <;> simp
 ·intro b hb;simp at hb;clear hQ hd hh hl hlen hlt hsm k1;subst hb;obtain⟨o,es,ho,_⟩:=hat;exact⟨_,Heap.get?_push_of_some _ ho⟩
 ·rintro i x ⟨k,y,hx,hk⟩
  clear hQ hat hd hh hl hlen hlt hsm k1;obtain⟨t,rfl⟩:=Value.isInt_shape hk
  refine⟨.int k,?_,by simp[vRi]⟩
  have:=(List.getElem?_zip_eq_some.mp hx).1
  rw[List.getElem?_map]at this ⊢
  obtain⟨p,hp,rfl⟩:=Option.map_eq_some_iff.mp this
  rw[hp];rfl
 ·rintro i s target v Q E ⟨⟨o,ho,hc,hd⟩,_⟩ hQ
  exact Nm ho (by rw[hc];decide) hQ
noncomputable def bO (H:AH):AV->Option (List AV)
 | .ref a=>match H a with
  | some (.f (.dic true es))=>if es.length<=lim then some (es.map fun p=>AV.int p.1) else none
  | _=>none
 | _=>none
noncomputable def bQ (f:PF):LF:=fun ρ H=>match f ρ H with
 | some v=>bO H v
 | none=>none
theorem IterS.keys {e:Expr}(h:PureE C k sc e f):IterS C k sc e (bQ f):=by
 intro A env s ρ H G O vs hA F R hv
 unfold bQ at hv
 refine Hz hv ?_;clear hv;intro v hf hv
 refine wpAny_mono (h A env s ρ H G O v hA F R hf) (fun x s1 h1=>?_) fun z0 z0 x=>x
 obtain⟨rx,k1⟩:=h1
 have R':=R.keep k1.k
 unfold bO at hv
 refine Vt hv ?_;clear hv;intro a q1 hv;clear F R h hf;subst q1
 refine gX hv ?_;clear hv;intro es hH hv
 refine Bo hv ?_;clear hv;intro hz hv
 obtain rfl:=Option.some.inj hv
 simp only [vRr]at rx;subst rx
 obtain⟨_,hsm,hst,xs,hd,hr⟩:=R'.obj a _ hH
 have hlen:=hr.length
 exact bR hA.1 k1 hsm hd (by simpa using hlen) fun s2 I fp wr P St k2' k2 ok=>⟨k2,by simpa using hz,I,fp,wr,[a],P,St,rfl,ok,fun b hb=>by simp at hb;subst hb;exact .inr ⟨_,_,hH,rfl,.inl rfl⟩⟩
theorem Vo {A:Around}{s s1:Shared}{O:Addr->Prop}{G:Gh}{es:List (Int × AV)}{xs:List Value}{a V:Addr}{Q:Value->Shared->Prop}(hh:A.handled=none)(k1:Kp s s1)(hV:s1.heap.IsValuesView V a)
  (hd:s1.heap.DictOf (intKind C.prog C.w) a ((es.map (·.1)).zip xs)) (hr:VRels s1.heap O G (es.map (·.2)) xs)
  (hQ:∀ s2 I fp wr P St,Kp s s2->ItOK C A s s2 O G (es.map (·.2)) I fp wr [a] P St->Q (.ref I) s2):wpAny (model C.prog C.w) A (pyIter (.ref V)) Q (fun z0 z0=>False) s1:=by
 obtain⟨ep,hat⟩:=hd.dictAt
 have hlt:=hat.lt_size
 have hl:=hr.length
 have hlen:((es.map (·.1)).zip xs).length=(es.map (·.2)).length:=by simp at hl;simp[hl]
 refine wpAny_pyIter_values hV hat (hQ _ _ [s1.heap.objs.size,a] [s1.heap.objs.size] (fun i v=>∃ k,((es.map (·.1)).zip xs)[i]? = some (k,v)) (fun i h=>h.IsValIter s1.heap.objs.size a i ((es.map (·.1)).zip xs).length ep/\h.DictAt (intKind C.prog C.w) a ((es.map (·.1)).zip xs) ep) (k1.trans' .push) ⟨?_,?_,?_,?_,?_,?_,?_,?_⟩)
 ·have:=Walks.dictValues (prog:=C.prog) (w:=C.w) (knd:=intKind C.prog C.w) hh s1.heap.objs.size a (Nat.ne_of_lt hlt) ((es.map (·.1)).zip xs) ep
  rw[hlen]at this ⊢
  exact this
 ·exact⟨⟨_,Heap.get?_push_size _ rfl,rfl,rfl⟩,hat.push _⟩
 ·intro b hb;simp at hb;clear hQ hV hat hd hh hl hlen hlt hr;subst hb;exact⟨Dl k1,_,Heap.get?_push_size _ rfl⟩
 ·rintro i h ⟨⟨o',e',_,hd⟩,_⟩ b hb;simp at hb;clear hQ hV hat hh hl hlen hlt hr k1 left right;subst hb;exact⟨o',_,e',hd⟩
 ·intro b hb;simp at hb;clear hQ hV hat hd hh hl hlen hlt hr k1;rcases hb with rfl | rfl <;> simp
 ·intro b hb;simp at hb;clear hQ hV hd hh hl hlen hlt hr k1;subst hb;obtain⟨o,es,ho,_⟩:=hat;exact⟨_,Heap.get?_push_of_some _ ho⟩
 ·rintro i x ⟨k,hx⟩
  refine Ac fun PP ret=>?_
  have hx2:=(List.getElem?_zip_eq_some.mp hx).2
  have hi:i < (es.map (·.2)).length:=by
   have:=(List.getElem?_eq_some_iff.mp hx2).1
   rw[<- hl];exact this
  obtain⟨y,hy,hry⟩:=hr.get (List.getElem?_eq_getElem hi)
  rw[hx2]at hy;clear hQ hV hat hd hh hl hlen hlt hr hx hx2 k1;obtain rfl:=Option.some.inj hy
  refine ret ?_
  exact⟨_,List.getElem?_eq_getElem hi,hry.keep fun z0 z0 e=>Heap.get?_push_of_some _ e⟩
 ·rintro i s target v Q E ⟨⟨o,ho,hc,hd⟩,_⟩ hQ
  exact Nm ho (by rw[hc];decide) hQ
noncomputable def aJ (H:AH):AV->Option (List AV)
 | .ref a=>match H a with
  | some (.f (.dic _ es))=>if es.length<=lim then some (es.map (·.2)) else none
  | _=>none
 | _=>none
noncomputable def Ui (f:PF):LF:=fun ρ H=>match f ρ H with
 | some v=>aJ H v
 | none=>none
theorem IterE.values {o:Expr} {apos pos:Pos} (ho:PureE C k sc o f) (hbase:∀ env,attributeBase o "values" env (eval o env)=eval o env:=by intro _;rfl)
  (hline:(apos.endLine == pos.line)=true:=by rfl):IterE C k sc (.Call (.Attribute o "values" apos) [] [] pos) (Ui f):=by
 intro A env s ρ H G O vs hA F R hv
 unfold Ui at hv
 refine Hz hv ?_;clear hv;intro v hf hv
 unfold aJ at hv
 refine Vt hv ?_;clear hv;intro a q1 hv;subst q1
 refine gY hv ?_;clear hv;intro lk es hH hv
 refine Bo hv ?_;clear hv;intro hz hv
 obtain rfl:=Option.some.inj hv
 have hne:H a ≠ none:=by rw[hH];simp
 refine wpAny_Call_method (T:="dict") (id:="dict.values") (hbase env) rfl hline PySem.F.plainAttrs_dict PySem.F.slot_dict_values PySem.F.type_dict_values (wpAny_mono (ho A env s ρ H G O _ hA F R hf) (fun x s1 h1=>?_) fun z0 z0 x=>x)
 refine Ac fun PP ret=>?_
 obtain⟨rx,k1⟩:=h1
 simp only [vRr]at rx;clear hbase hf hline ho hv;subst rx
 have R1:=R.keep k1.k
 obtain⟨_,hsm,hst,xs,hd,hr⟩:=R1.obj a _ hH
 have hl:=hr.length
 refine ret ?_
 refine⟨hd.typeIs,hd.mapOf.noDict,?_⟩
 refine(?_:wpAny _ _ (callWith pos (.builtin "dict.values") [.ref a] [] []) _ _ s1)
 refine method_meetsIn PySem.F.slot_dict_values PySem.F.entry_dict_values rfl (PySem.evalArgs_none ⟨rfl,hd.typeIs,PySem.F.args_dict_values_1 _,_,meets_dict_values (intKind C.prog C.w) a hsm,⟨_,hd⟩,?_⟩)
 have kk:Kp s { s1 with heap:=s1.heap.push { cls:=.type "dict_values",data:=.fields #[.ref a] } }:=k1.trans' .push
 exact Vo (s:=s) hA.1 kk ⟨_,Heap.get?_push_size _ rfl,rfl,rfl⟩ (hd.push _) (hr.keep fun z0 z0 e=>Heap.get?_push_of_some _ e) fun s2 I fp wr P St k2 ok =>
  ⟨k2,by simpa using hz,I,fp,wr,[a],P,St,rfl,ok,fun b hb=>by simp at hb;subst hb;exact⟨.ref b,.inr (.inl ⟨hne,rfl⟩)⟩⟩
noncomputable def Zj (H:AH) (ov iv:AV):Option AH:=match ov,iv with
 | .ref a,.int i=>match H a with
  | some (.f (.dic false es))=>if (es.lookup i).isSome=true/\es.length<=lim then some (upd H a (.f (.dic false (es.filter fun p=>decide (p.1 ≠ i))))) else none
  | _=>none
 | _,_=>none
theorem fJ {H:AH}{a:Addr}{i:Int}:Zj H (.ref a) (.int i)=match H a with | some (.f (.dic false es))=>if (es.lookup i).isSome=true/\es.length<=lim then some (upd H a (.f (.dic false (es.filter fun p=>decide (p.1 ≠ i))))) else none | _=>none:=rfl
theorem Pj {es:List (Int × AV)}{xs:List Value}{h O G}(hr:VRels h O G (es.map (·.2)) xs){i:Int} :
  ∃ ys,without ((es.map (·.1)).zip xs) i=((es.filter fun p=>decide (p.1 ≠ i)).map (·.1)).zip ys/\VRels h O G ((es.filter fun p=>decide (p.1 ≠ i)).map (·.2)) ys:=by
 induction es generalizing xs with
 | nil=>exact⟨[],rfl,.nil⟩
 | cons p r ih =>
  obtain⟨j,v⟩:=p
  simp only [List.map_cons,vSc]at hr
  obtain⟨x,ys,rfl,h1,h2⟩:=hr
  obtain⟨zs,e,h3⟩:=ih h2
  unfold without at e ⊢
  by_cases hj:j=i
  ·clear h1 h2 ih;subst hj
   refine⟨zs,?_,?_⟩
   ·simpa using e
   ·simpa using h3
  ·refine⟨x :: zs,?_,?_⟩
   ·simp only [List.map_cons,List.zip_cons_cons,List.filter_cons,hj,ne_eq,not_false_eq_true,decide_true,if_true]
    congr 1
   ·simp only [List.filter_cons,hj,ne_eq,not_false_eq_true,decide_true,if_true,List.map_cons]
    exact .cons h1 h3
theorem cD {A:Around}{s:Shared}{H H':AH}{G:Gh}{ov iv:AV}{x y:Value}{Q:Unit->Shared->Prop}(R:Rel C H G (own H G) s.heap)(hx:VRel s.heap (own H G) G ov x)(hy:VRel s.heap (own H G) G iv y)(e:Zj H ov iv=some H')
  (hQ:∀ s' G',Rel C H' G' (own H' G') s'.heap->Step (fun z0=>False) H G s H' G' s'->Q () s'):wpAny (model C.prog C.w) A (delItem x y) Q (fun z0 z0=>False) s:=by
 unfold Zj at e
 refine Iy e ?_;clear e;intro a i q1 q2 e;subst q1;subst q2
 refine cZ e ?_;clear e;intro es hH e
 refine Bo e ?_;clear e;intro hc e
 refine Ac fun PP ret=>?_
 obtain rfl:=Option.some.inj e
 simp only [vRi,vRr]at hx hy
 subst hx
 obtain⟨t,rfl⟩:=hy
 obtain⟨_,hsm,hst,xs,hd,hr⟩:=R.obj a _ hH
 have hlen:=hr.length
 obtain⟨v,hv⟩:=Option.isSome_iff_exists.mp hc.1
 obtain⟨z,hz,hvz⟩:=Hw hr hv
 refine ret ?_
 unfold delItem
 try with_reducible refine wpAny_holding ?_
 refine wpAny_bind (wpAny_sequenceKey hd.typeIs (by decide) ?_)
 refine wpAny_bind (wpAny_callSpecial?_slot (name:=Str.ofString "__delitem__") hd.typeIs PySem.F.slot_dict_delitem
  (call_meetsIn PySem.F.slot_dict_delitem hd.typeIs PySem.F.entry_dict_delitem (PySem.F.args_dict_delitem_2 _ _) (meets_dict_delitem_pairs (intKind C.prog C.w) a (k:=i) (intKind_is _ _ i t)) ⟨_,hd,?_,by rw[hz];rfl,fun h' hmm hs=>?_⟩))
 ·have:=Cj
  simp only [List.length_zip,List.length_map]at hlen ⊢
  lia
 ·refine Ac fun PP ret=>?_
  obtain⟨ys,e1,h1⟩:=Pj hr (i:=i)
  rw[e1]at hmm
  obtain⟨R',S'⟩:=Pm (tk:=s.toks + 1) R hH (by
   rw[stos_iff];intro u hu
   obtain⟨q,hq,rfl⟩:=List.mem_map.mp hu
   exact Bq hst (List.mem_map.mpr ⟨q,(List.mem_filter.mp hq).1,rfl⟩)) hmm (fun b ob hb e=>hs.extBut b ob hb e) h1
  refine ret ?_
  exact wpAny_pure (hQ _ G R' S')
noncomputable def dH (i:Nat) (f:PF):Wp Bool:=fun Q ρ H=>∃ v b,f ρ H=some v/\v.sto=true/\isN v=some b/\Q b (ρ.set i v) H
theorem ImpC.walrus {x:Str}{i:Nat}{e:Expr}{p p2 p3 pos:Pos}{j:Nat}(hx:(x,i) ∈ sc.vars)(he:PureE C k sc e f):ImpC C k sc (.Compare (.NamedExpr (.Name x p) e p2) [.Is] [.Constant .none j p3] pos) (dH i f):=by
 rintro A env s ρ H G Q hA F hs R ⟨v,b,hv,hsv,hb,hq⟩
 refine wpAny_isTrue_Compare1 (wpAny_NamedExpr (wpAny_mono (he A env s ρ H G _ v hA F R hv) (fun y s1 h1=>?_) fun z0 z0 x=>x)) 
 obtain⟨hy,k1⟩:=h1
 have F1:=F.keep k1.k
 have R1:=R.keep k1.k
 refine wpAny_assign_Name (Ds F1 hx hy fun s2 F2 fs hy2=>?_)
 have fs':=fs.mono fun z0=>Cq
 have R2:=R1.fs F1 fs'
 refine wpAny_Constant_none ?_
 have hc:=(CmpR.is (C:=C) (k:=k)) A s2 H G _ v .none (.bool b) y .none hA R2 hy2 (by simp[vRn]) (by simp[hb])
 refine wpAny_mono hc (fun z s3 h3=>?_) fun z0 z0 x=>x
 obtain⟨hz,k3⟩:=h3
 simp only [vRb]at hz;clear F hA hb hc he hv hx hy hy2;subst hz
 exact wpAny_truthy_bool ⟨_,H,G,hq,F2.keep k3.k,hs.set hsv,R2.keep k3.k,((Step.kp R k1).trans (.fs F1 R1 fs')).trans (.kp R2 k3)⟩
noncomputable def Zf (W:Wp AV) (fo fi:PF) (i:Nat):Wp AFlow:=fun Q=>W fun v ρ H=>∃ ov iv H',fo ρ H=some ov/\fi ρ H=some iv/\Od H ov iv v=some H'/\Q .next (ρ.set i v) H'
theorem StmtR.dset2 {o i e:Expr}{x:Str}{n:Nat}{p p2 pos:Pos}{W:Wp AV}(he:ImpE C k sc e W)(ho:PureE C k sc o f)(hi:PureE C k sc i f')(hx:(x,n) ∈ sc.vars)
  (hw:∀ env,swappedStores [.Subscript o i p,.Name x p2] e env=pure none:=by intro _;rfl) :
  StmtR C k sc (.Assign [.Subscript o i p,.Name x p2] e pos) (Zf W f f' n):=by
 intro A env s ρ H G Q hA F hs R hT
 refine wpAny_Assign_two (wpAny_mono (he A env s ρ H G _ hA F hs R hT) (fun z s1 h1=>?_) fun z0 z0 x=>x) rfl (hw env)
 refine Ac fun PP ret=>?_
 obtain⟨v,ρ1,H1,G1,⟨ov,iv,H2,hov,hiv,hset,hq⟩,hv,hsv,F1,hs1,R1,S1⟩:=h1
 refine ret ?_
 rw[assign_Subscript]
 refine wpAny_bind (wpAny_holding ?_)
 have:=PureE.two (K:=fun x y s2=>VRel s2.heap (own H1 G1) G1 ov x/\VRel s2.heap (own H1 G1) G1 iv y/\Kp s1 s2) ho hi hA F1 R1 hov hiv fun x y s2 hx hy k2=>⟨hx,hy,k2⟩
 refine wpAny_mono this (fun xo s2 h2=>wpAny_bind (wpAny_holding (wpAny_mono h2 (fun y s3 h3=>?_) fun z0 z0 x=>x))) fun z0 z0 x=>x
 obtain⟨hx',hy',k2⟩:=h3
 have R2:=R1.keep k2.k
 have F2:=F1.keep k2.k
 refine wpAny_bind (wpAny_standAt (wpAny_bind (wpAny_holding (Ub R2 hx' hy' (hv.keep k2.k) hset fun s4 G4 R4 S4=>wpAny_releaseD ?_))))
 have F4:=S4.wf F2 hs1
 have hv4:=S4.val hsv (hv.keep k2.k)
 refine wpAny_assign_Name (Ds F4 hx hv4 fun s5 F5 fs hy5=>?_)
 have fs':=fs.mono fun z0=>Cq
 exact⟨.next,_,H2,G4,hq,trivial,F5,hs1.set hsv,R4.fs F4 fs',((S1.trans (.kp R1 k2)).trans (S4.frm F2)).trans (.fs F4 R4 fs')⟩
end
end Mine
end
section
namespace Mine
theorem slot_li_ga:Slot "list_iterator" "__getattribute__" "object.__getattribute__" :=
 .of (owner:="object") (n:="__getattribute__") (by rw[typeLookup_type,builtinLookup_eq_fast];kernel_rfl) (by decide +kernel) (by decide +kernel) (by decide +kernel)
  (by first | exact .inl (by decide +kernel) | exact .inr (by decide +kernel)) (by rw[isSubtype_type];kernel_rfl)
theorem Sn:entryFor table "object.__getattribute__" = some Builtin.«object.__getattribute__»:=entryFor_of_tree (by kernel_rfl)
theorem Wi (a b:Value):argsOk "object.__getattribute__" ⟨[a,b],[]⟩:=by unfold argsOk;kernel_rfl
theorem Ey:typeOf (.builtin "list_iterator.__next__")=pure (.type "wrapper_descriptor"):=by refine(?_:builtinType _=_);rw[builtinType_eq_fast];kernel_rfl
theorem slot_wd_get:Slot "wrapper_descriptor" "__get__" "wrapper_descriptor.__get__" :=
 .of (owner:="wrapper_descriptor") (n:="__get__") (by rw[typeLookup_type,builtinLookup_eq_fast];kernel_rfl) (by decide +kernel) (by decide +kernel) (by decide +kernel)
  (by first | exact .inl (by decide +kernel) | exact .inr (by decide +kernel)) (by rw[isSubtype_type];kernel_rfl)
theorem Pd:entryFor table "wrapper_descriptor.__get__" = some Builtin.«wrapper_descriptor.__get__»:=entryFor_of_tree (by kernel_rfl)
theorem Qz (a b c:Value):argsOk "wrapper_descriptor.__get__" ⟨[a,b,c],[]⟩:=by unfold argsOk;kernel_rfl
theorem Xz:typeLookup (.type "wrapper_descriptor") "__set__" = pure none:=by rw[typeLookup_type,builtinLookup_eq_fast];kernel_rfl
theorem Yb:typeLookup (.type "wrapper_descriptor") "__delete__" = pure none:=by rw[typeLookup_type,builtinLookup_eq_fast];kernel_rfl
theorem On:isSubtype (.type "list_iterator") (.type (".".intercalate ("list_iterator.__next__".cutAt '.').dropLast))=pure true:=by
 have e0:"list_iterator.__next__".cutAt '.' = ["list_iterator","__next__"]:=by first | rfl | decide +kernel
 rw[e0,show (".".intercalate (["list_iterator","__next__"]:List String).dropLast) = "list_iterator" from by decide +kernel,isSubtype_type];kernel_rfl
section
variable {prog:Program} {w:World} {A:Around} {E:Value->Shared->Prop} {h:Heap} {g:Array GenState} {d:Drawn} {t:Nat} {os:OsState} {a:Addr} {o:Obj}
theorem dG {R:Result->Shared->Prop} (hx:h.get? a=some o) (hc:o.cls = .type "list_iterator") (hq:R (.ok (.ret (.ref h.objs.size))) ⟨h.push (Iu a),g,d,t,os⟩) :
  codeAny (model prog w) A (.call (.builtin "wrapper_descriptor.__get__") ⟨[.builtin "list_iterator.__next__",.ref a,.type "list_iterator"],[]⟩) R ⟨h,g,d,t,os⟩:=by
 have hT:(⟨h,g,d,t,os⟩:Shared).TypeIs (.ref a) "list_iterator":=⟨_,hx,hc⟩
 have hT5:(⟨h,g,d,t,os⟩:Shared).TypeIs (.builtin "list_iterator.__next__") "wrapper_descriptor":=Ey
 have f8:=On
 refine codeAny_call_builtin slot_wd_get.plain Pd (slot_wd_get.check _ _ _ _ _ _ _ _ hT5 (Qz _ _ _) ?_)
 repeat (any_goals (first | assumption | wp_step))
theorem Yn {tk:Tok} {vs:Array Value} {Q:Fin->Shared->Prop} (hx:h.get? a=some { cls:=.type "list_iterator",data:=.fields vs }) (hq:Q (.done (.ret (.ref h.objs.size))) ⟨h.push (Iu a),g,d,t,os⟩) :
  wpAny (model prog w) A (Builtin.«object.__getattribute__» ⟨[.ref a,.str "__next__" tk],[]⟩) Q E ⟨h,g,d,t,os⟩:=by
 have hT:(⟨h,g,d,t,os⟩:Shared).TypeIs (.ref a) "list_iterator":=⟨_,hx,rfl⟩
 have hT5:(⟨h,g,d,t,os⟩:Shared).TypeIs (.builtin "list_iterator.__next__") "wrapper_descriptor":=Ey
 have f4:=slot_listiter_next.lookup
 have f5:=Ey
 have f6:=slot_wd_get.lookup
 have f7:=Xz
 have f8:=Yb
 repeat (any_goals (first | assumption | wp_step))
 refine dG hx rfl ?_
 repeat (any_goals (first | assumption | wp_step))
theorem bM {tk:Tok} {vs:Array Value} {R:Result->Shared->Prop} (hx:h.get? a=some { cls:=.type "list_iterator",data:=.fields vs }) (hq:R (.ok (.ret (.ref h.objs.size))) ⟨h.push (Iu a),g,d,t,os⟩) :
  codeAny (model prog w) A (.call (.builtin "object.__getattribute__") ⟨[.ref a,.str "__next__" tk],[]⟩) R ⟨h,g,d,t,os⟩ :=
 codeAny_call_builtin slot_li_ga.plain Sn (slot_li_ga.check _ _ _ _ _ _ _ _ (show (⟨h,g,d,t,os⟩:Shared).TypeIs (.ref a) "list_iterator" from ⟨_,hx,rfl⟩) (Wi _ _) (Yn hx hq))
theorem bN {vs:Array Value} {Q:Value->Shared->Prop} (hx:h.get? a=some { cls:=.type "list_iterator",data:=.fields vs }) (hq:Q (.ref h.objs.size) ⟨h.push (Iu a),g,d,t + 1,os⟩) :
  wpAny (model prog w) A (getAttr (.ref a) "__next__" true) Q E ⟨h,g,d,t,os⟩:=by
 have hT:(⟨h,g,d,t + 1,os⟩:Shared).TypeIs (.ref a) "list_iterator":=⟨_,hx,rfl⟩
 have f2:=slot_li_ga.lookup
 have f3:=slot_li_ga.bind (.ref a)
 unfold getAttr
 repeat (any_goals (first | assumption | wp_step))
 refine bM hx ?_
 repeat (any_goals (first | assumption | wp_step))
end
end Mine
end
section
namespace Mine
section
variable {C:Cx} {k:Nat} {sc:Sc} {f f':PF}
noncomputable def Vg (f:PF):Rho->AH->Option FObj:=fun ρ H=>match f ρ H with
 | some (.ref a)=>match H a with
  | some (.f (.lst _ _))=>some (.nxt a 0)
  | _=>none
 | _=>none
theorem MakeE.next {x:Str} {e:Expr} {p cpos pos:Pos} (hx:x ∈ sc.globs) (hm:C.mg x=Option.none) (hb:C.mb x=some (.builtin "iter")) (he:PureE C k sc e f)
  (hs:∀ env,starEach [e] env=[(false,eval e env)]:=by intro _;rfl) (hns:Ig [e]:=by intro _;rfl) (hd:(x == ("__debug__":Str))=false:=by decide)
  (hbase:∀ env,attributeBase (.Call (.Name x p) [e] [] cpos) "__next__" env (eval (.Call (.Name x p) [e] [] cpos) env)=eval (.Call (.Name x p) [e] [] cpos) env:=by intro _;rfl) :
  MakeE C k sc (.Attribute (.Call (.Name x p) [e] [] cpos) "__next__" pos) (Vg f):=by
 intro A env s ρ H G O o hA F R ho
 unfold Vg at ho
 refine gQ ho ?_;clear ho;intro a hf ho
 refine bW ho ?_;clear ho;intro lk vs hH ho
 obtain rfl:=Option.some.inj ho
 rw[arm_eval_Attribute,hbase env]
 refine wpAny_bind ?_
 refine wpAny_Call_NameR (wpAny_Name (Cf F R hx (.inr ⟨hm,hb⟩) ?_) hd)
 refine Calls.callWith_builtin (Ct hns cpos env) (Dr (e:=e) (rest:=[]) (hs env) ?_)
 rw[hs env]
 refine Calls.spliced_cons (wpAny_mono (he A env s ρ H G O _ hA F R hf) (fun y s1 h1=>Calls.spliced_nil ?_) fun z0 z0 x=>x)
 obtain⟨ry,k1⟩:=h1
 simp only [vRr]at ry;subst ry
 have R1:=R.keep k1.k
 obtain⟨_,_,hz,n,items,hg,hr⟩:=R1.obj a _ hH
 refine Calls.call_function_entry (by decide +kernel) (by decide +kernel) kdk_entry_iter (kdk_args_iter _) ?_
 unfold Builtin.«iter»
 refine wpAny_bind (m:=someArgs "iter" 1 2 _) (wpAny_of_eq (a:=[Value.ref a]) (by first | rfl | kernel_rfl!) ?_)
 refine(?_:wpAny _ _ (pyIter (.ref a) >>= _) _ _ _)
 refine wpAny_bind (wpAny_pyIter_list (Aj hg) ?_)
 refine wpAny_pure ⟨_,rfl,?_⟩
 refine wpAny_bind (wpAny_standAt (wpAny_bind (wpAny_holding ?_)))
 obtain⟨hh,gg,dd,tt,os⟩:=s1
 refine bN (h:=hh.push _) (a:=hh.objs.size) (Heap.get?_push_size _ rfl) ?_
 refine wpAny_bind (wpAny_letTemporaryGo (wpAny_pure ?_))
 have hsz:(hh.push { cls:=Value.type "list_iterator",data:=Data.fields #[Value.ref a,Value.int 0 0] }).objs.size=hh.objs.size + 1:=Heap.size_push ..
 have kk:Kp s ⟨(hh.push { cls:=Value.type "list_iterator",data:=Data.fields #[Value.ref a,Value.int 0 0] }).push (Iu hh.objs.size),gg,dd,tt + 1,os⟩:=(k1.trans' (.push (s:=⟨hh,gg,dd,tt,os⟩) (o:={ cls:=Value.type "list_iterator",data:=Data.fields #[Value.ref a,Value.int 0 0] }))).trans' .pushT
 refine⟨hh.objs.size + 1,[hh.objs.size],by rw[hsz],⟨hh.objs.size,rfl,by rw[<- hsz];exact Heap.get?_push_size _ rfl,⟨_,Heap.get?_push_of_some _ (Heap.get?_push_size _ rfl),rfl,rfl⟩⟩,by simp,fun b hb=>?_,kk⟩
 have nn:∀ b,hh.objs.size<=b->s.heap.get? b=none:=fun b hb=>by
  cases e:s.heap.get? b with
  | none=>rfl
  | some o=>exact absurd (Heap.lt_size (k1.k b o e)) (Nat.not_lt.mpr hb)
 rcases hb with rfl | hb
 ·exact⟨nn _ (Nat.le_succ _),_,by rw[<- hsz];exact Heap.get?_push_size _ rfl⟩
 ·simp at hb;subst hb;exact⟨nn _ (Nat.le_refl _),_,Heap.get?_push_of_some _ (Heap.get?_push_size _ rfl)⟩
noncomputable def Rb (f:PF) (W:Wp AV):Wp AV:=fun Q ρ H=>∃ v vs0,f ρ H=some v/\v.sto=true/\Bf H v=some vs0/\W (fun x ρ1 H1=>∃ vs H',Bf H1 v=some vs/\He H1 v (vs++[x])=some H'/\Q .none ρ1 H') ρ H
theorem ImpE.appendI {o e:Expr} {apos pos:Pos} {W:Wp AV} (ho:PureE C k sc o f) (he:ImpE C k sc e W) (hbase:∀ env,attributeBase o "append" env (eval o env)=eval o env:=by intro _;rfl)
  (hfew:∀ env,((backTo pos (starEach [e] env)).all (fun x=>!x.1) && (backToKw pos (keywordEach [] env)).all (fun x=>x.1.isSome) && decide (([e]:List Expr).length + ([]:List Keyword).length + (if ([]:List Keyword).isEmpty then 0 else 1) < 30))=true:=by intro _;rfl)
  (hline:(apos.endLine == pos.line)=true:=by rfl) (htr:∀ env,starEach [e] env=[(false,eval e env)]:=by intro _;rfl):ImpE C k sc (.Call (.Attribute o "append" apos) [e] [] pos) (Rb f W):=by
 rintro A env s ρ H G Q hA F hs R ⟨v,vs0,hv,hsv,hvs0,hW⟩
 refine Es PySem.F.slot_list_append PySem.F.type_list_append (hbase env) (hfew env) hline (wpAny_mono (ho A env s ρ H G _ v hA F R hv) (fun ov s1 h1=>?_) fun z0 z0 x=>x)
 refine Ac fun PP ret=>?_
 obtain⟨rv,k1⟩:=h1
 have R1:=R.keep k1.k
 have F1:=F.keep k1.k
 obtain⟨a,n,items,rfl,hg,hr,hz⟩:=Ao R1 rv hvs0
 refine ret ?_
 refine⟨a,items,n,rfl,hg,?_⟩
 rw[htr env]
 refine P.append_list (wpAny_mono (he A env s1 ρ H G _ hA F1 hs R1 hW) (fun y s2 h2=>?_) fun z0 z0 x=>x)
 refine Ac fun PP ret=>?_
 obtain⟨x,ρ2,H2,G2,⟨vs,H',hvs,hp,hq⟩,ry,hsx,F2,hs2,R2,S2⟩:=h2
 have rv2:=S2.valF F1 hsv rv
 obtain⟨a',n2,items2,e',hg2,hr2,hz2⟩:=Ao R2 rv2 hvs
 cases e'
 have hl:=hr2.length
 refine ret ?_
 refine⟨items2.toArray,n2,by have:=Cj;simp;exact Ar.r95 hz2 hl this,hg2,?_⟩
 obtain⟨n',hg'⟩:=Eo (h':=s2.heap) (ys:=items2++[y]) (g:=fun xs=>xs.push y) hg2 (by simp)
 obtain⟨R3,S3⟩:=Ip (s':=s2) (tk:=s2.toks) (vs:=vs) (n:=n2) (items:=items2) R2 rv2 hp Cp hg' (hr2.append (.one ry))
 exact⟨.none,ρ2,H',G2,hq,by simp[vRn],rfl,S3.wf F2 hs2,hs2,R3,((Step.kp R k1).trans S2).trans (S3.frm F2)⟩
theorem Zq (it:Addr):checkBoundCall "list_iterator.__next__" ⟨[.ref it],[]⟩=pure ():=by first | kernel_rfl | rfl
theorem Zs {A:Around}{s:Shared}{nx it:Addr}{Q:Value->Shared->Prop}{E:Value->Shared->Prop}(hn:s.heap.get? nx=some (Iu it))
  (h:wpAny (model C.prog C.w) (A.under (.builtin "list_iterator.__next__" ⟨[.ref it],[]⟩)) (Builtin.«list_iterator.__next__» ⟨[.ref it],[]⟩) (fun fin s'=>∃ v,fin = .done (.ret v)/\Q v s') E s):wpAny (model C.prog C.w) A (call (.ref nx) []) Q E s:=by
 refine wpAny_call (codeAny_of_tree ?_)
 refine(?_:wpAny _ _ (callAny (.ref nx) _) _ _ _)
 unfold callAny
 refine wpAny_bind (wpAny_load hn ?_)
 refine(?_:wpAny _ _ (checkBoundCall "list_iterator.__next__" ⟨[.ref it],[]⟩ >>= _) _ _ _)
 rw[Zq]
 refine wpAny_bind (wpAny_pure ?_)
 refine wpAny_pure ⟨Code.quiet_builtin _ (by decide +kernel),codeAny_builtin entry_listiter_next (wpAny_mono h (fun fin s' z=>?_) fun z0 z0 z=>z)⟩
 obtain⟨v,rfl,q⟩:=z
 exact q
theorem Vi {A:Around}{s:Shared}{it l:Addr}{i:Nat}{items:List Value}{n:Nat}{x:Value}{Q:Fin->Shared->Prop}{E:Value->Shared->Prop}(hit:s.heap.IsListIter it l i)(hl:s.heap.get? l=some (Bt items n))(hx:items[i]? = some x)
  (hQ:∀ h',h'.IsListIter it l (i + 1)->Heap.SameBut it s.heap h'->Q (.done (.ret x)) { s with heap:=h' }):wpAny (model C.prog C.w) A (Builtin.«list_iterator.__next__» ⟨[.ref it],[]⟩) Q E s:=by
 refine Ac fun PP ret=>?_
 obtain⟨o,ho,hc,hd⟩:=id hit
 refine ret ?_
 refine(?_:wpAny _ _ (field (.ref it) 0 >>= _) _ _ s)
 refine wpAny_bind (wpAny_field ho hd (x:=.ref l) rfl ?_)
 refine(?_:wpAny _ _ (if (Value.ref l == Value.none)=true then _ else _) _ _ s)
 rw[if_neg (show ¬ ((Value.ref l == Value.none)=true) from Bool.false_ne_true)]
 refine(?_:wpAny _ _ (field (.ref it) 1 >>= _) _ _ s)
 refine wpAny_bind (wpAny_field ho hd (x:=.int i 0) rfl ?_)
 refine(?_:wpAny _ _ (seqItems? (.ref l) >>= _) _ _ s)
 refine wpAny_bind (wpAny_seqItems hl rfl ?_)
 have hx':items.toArray[i]? = some x:=by simpa using hx
 simp only [Int.toNat_natCast,hx']
 refine wpAny_bind (wpAny_setField ho hd (by simp) (wpAny_pure (hQ _ ?_ (Heap.SameBut.update ..))))
 exact⟨_,Heap.get?_update_self _ ho (Obj.isFreed_of_fields (Obj.data_mapFields hd _)),(Obj.cls_mapFields ..).trans hc,by
  rw[Obj.data_mapFields hd];simp[rawInt]⟩
structure NewX (h h':Heap) (it e:Addr):Prop where
 keep:∀ b o,b ≠ it->h.get? b=some o->h'.get? b=some o
 live:∃ o vs,h'.get? it=some o/\o.data = .fields vs
 new:h.get? e=none
 exc:∃ oe vs,h'.get? e=some oe/\oe.cls = .type "StopIteration"/\oe.data = .fields vs/\vs[1]? = some .none
theorem Yd {A:Around}{s:Shared}{it l:Addr}{i:Nat}{items:List Value}{n:Nat}{Q:Fin->Shared->Prop}{E:Value->Shared->Prop}(hh:A.handled=none)(hit:s.heap.IsListIter it l i)(hl:s.heap.get? l=some (Bt items n))(hx:items[i]? = none)
  (hE:∀ h' e,NewX s.heap h' it e->E (.ref e) { s with heap:=h' }):wpAny (model C.prog C.w) A (Builtin.«list_iterator.__next__» ⟨[.ref it],[]⟩) Q E s:=by
 refine Ac fun PP ret=>?_
 obtain⟨o,ho,hc,hd⟩:=id hit
 refine ret ?_
 refine(?_:wpAny _ _ (field (.ref it) 0 >>= _) _ _ s)
 refine wpAny_bind (wpAny_field ho hd (x:=.ref l) rfl ?_)
 refine(?_:wpAny _ _ (if (Value.ref l == Value.none)=true then _ else _) _ _ s)
 rw[if_neg (show ¬ ((Value.ref l == Value.none)=true) from Bool.false_ne_true)]
 refine(?_:wpAny _ _ (field (.ref it) 1 >>= _) _ _ s)
 refine wpAny_bind (wpAny_field ho hd (x:=.int i 0) rfl ?_)
 refine(?_:wpAny _ _ (seqItems? (.ref l) >>= _) _ _ s)
 refine wpAny_bind (wpAny_seqItems hl rfl ?_)
 have hx':items.toArray[i]? = none:=by simpa using hx
 simp only [Int.toNat_natCast,hx']
 refine wpAny_bind (wpAny_rule (wpAny_bind (wpAny_setField ho hd (by simp) ?_)))
 refine(?_:wpAny _ _ (newExc (.type "StopIteration") [] >>= _) _ _ _)
 refine wpAny_bind ?_
 simp only [newExc,newTuple]
 refine wpAny_bind (wpAny_newObj_type ?_ (by size_fits))
 refine wpAny_bind (m:=firstArgMember _ _) (wpAny_of_eq (a:=Value.none) (by first | rfl | (simp only [firstArgMember];rfl)) ?_)
 refine wpAny_newObj_type ?_ (by size_fits)
 simp only [raiseNew]
 refine wpAny_bind (wpAny_handled ?_)
 rw[hh]
 refine wpAny_bind (wpAny_pure (wpAny_throw (hE _ _ ⟨fun b o hb e=>?_,?_,?_,?_⟩)))
 ·exact((((Heap.SameBut.update ..).extBut.push _).push _) b o hb e)
 ·exact⟨_,_,Heap.get?_push_of_some _ (Heap.get?_push_of_some _ (Heap.get?_update_self _ ho (Obj.isFreed_of_fields (Obj.data_mapFields hd _)))),Obj.data_mapFields hd _⟩
 ·cases q:s.heap.get? ((s.heap.update it (Obj.mapFields fun x=>x.setIfInBounds 0 Value.none)).push { cls:=.type "tuple",data:=.seq #[] }).objs.size with
  | none=>rfl
  | some o' =>
   have:=Heap.lt_size q
   rw[Heap.size_push,Heap.size_after_update]at this
   exact absurd this (Nat.not_lt.mpr (Nat.le_succ _))
 ·exact⟨_,_,Heap.get?_push_size _ rfl,rfl,rfl,rfl⟩
theorem bG {M:Model}{A:Around}{s:Shared}{env:Env}{outer:List Env}{L e:Addr}{oe:Obj}{vs:Array Value}{base:Heap}{Q:Unit->Shared->Prop}{E:Value->Shared->Prop}(hfr:A.frames=some (env :: outer))(hl:s.heap.FunFrames base (env :: outer))(hf:env.frame=some L)
  (he:s.heap.get? e=some oe) (hd:oe.data = .fields vs) (h1:vs[1]? = some .none)
  (hQ:∀ h' T oT ts oe',(∀ b o,b ≠ e->b ∉ (env :: outer).filterMap (·.frame)->s.heap.get? b=some o->h'.get? b=some o)->(∀ b o,b ≠ e->s.heap.get? b=some o->∃ sl,h'.get? b=some { o with slots:=sl }) ->
   s.heap.get? T=none->h'.get? T=some oT->oT.data = .fields ts->3 < ts.size->h'.get? e=some oe'->oe'.cls=oe.cls->oe'.data = .fields (vs.setIfInBounds 1 (.ref T))->Q () { s with heap:=h' }):wpAny M A (noteFrame (.ref e) env) Q E s:=by
 have hsz:1 < vs.size:=(Array.getElem?_eq_some_iff.mp h1).1
 have hene:e ∉ (env :: outer).filterMap (·.frame):=fun hm=>by
  obtain⟨_,o,ho,hnf⟩:=hl.mem hm
  rw[he]at ho;injection ho with ho;subst ho;exact hnf vs hd
 unfold noteFrame
 simp only [hf]
 refine wpAny_bind (wpAny_field he hd h1 ?_)
 rw[if_neg (by decide)]
 refine wpAny_bind (wpAny_frameOf_fun hfr hl hf fun h₁ hs₁=>?_)
 refine wpAny_bind (wpAny_entryPlaceOf fun pl hpl=>?_)
 unfold EntryCells.newEntry newFields
 refine wpAny_bind (wpAny_newObj_type ?_ (hpl.sizeOk5 _ _ _ _ _))
 have he₁:h₁.get? e=some oe:=(hs₁.2.1 e hene).trans he
 have he₂:=Heap.get?_push_of_some (h:=h₁) { cls:=.type "traceback",dict:=none,data:=.fields ([Value.none,.ref L,.none,rawInt L,.none]++(if pl.isEmpty then List.replicate 6 Value.none else pl)).toArray } he₁
 have hTe:h₁.objs.size ≠ e:=Nat.ne_of_gt (Heap.lt_size he₁)
 have hd₃:=Obj.data_mapFields hd (·.setIfInBounds 1 (Value.ref h₁.objs.size))
 refine wpAny_setField he₂ hd hsz (hQ _ h₁.objs.size { cls:=.type "traceback",dict:=none,data:=.fields ([Value.none,.ref L,.none,rawInt L,.none]++(if pl.isEmpty then List.replicate 6 Value.none else pl)).toArray } ([Value.none,.ref L,.none,rawInt L,.none]++(if pl.isEmpty then List.replicate 6 Value.none else pl)).toArray _ (fun b o hb hbf eb=>?_) (fun b o hb eb=>?_) ?_ ?_ rfl ?_ (Heap.get?_update_self _ he₂ (Obj.isFreed_of_fields hd₃)) (Obj.cls_mapFields _ _) hd₃)
 ·rw[Heap.get?_update_other _ _ (Ne.symm hb)]
  exact Heap.get?_push_of_some _ ((hs₁.2.1 b hbf).trans eb)
 ·obtain⟨sl,q⟩:=hs₁.2.2 b o eb
  exact⟨sl,by rw[Heap.get?_update_other _ _ (Ne.symm hb)];exact Heap.get?_push_of_some _ q⟩
 ·cases q:s.heap.get? h₁.objs.size with
  | none=>rfl
  | some o'=>have:=Heap.lt_size q;rw[hs₁.1]at this;exact absurd this (Nat.lt_irrefl _)
 ·rw[Heap.get?_update_other _ _ (Ne.symm hTe)];exact Heap.get?_push_size _ rfl
 ·simp only [List.size_toArray,List.length_append,List.length_cons,List.length_nil];exact Ar.r213
end
end Mine
end
section
namespace Mine
section
variable {C:Cx} {k:Nat} {sc:Sc} {f f':PF}
theorem Qv {A:Around}{s:Shared}{nx it:Addr}{pos:Pos}{Q:Value->Shared->Prop}{E:Value->Shared->Prop}(hn:s.heap.get? nx=some (Iu it))(h:wpAny (model C.prog C.w) A (call (.ref nx) []) Q E s) :
  wpAny (model C.prog C.w) A (callWith pos (.ref nx) [] [] []) Q E s:=by
 unfold callWith
 refine wpAny_bind (wpAny_holding (PySem.evalArgs_none (wpAny_bind (wpAny_standAt ?_))))
 refine wpAny_bind ?_
 unfold keeperOf
 refine wpAny_bind (wpAny_load hn ?_)
 refine wpAny_pure ?_
 refine wpAny_bind ?_
 exact wpAny_mono h (fun r s₂ hr=>wpAny_bind (wpAny_holding (wpAny_point (wpAny_pure hr)))) fun z0 z0 x=>x
theorem WF.mark {A:Around}{env:Env}{ρ:Rho}{G:Gh}{O:Addr->Prop}{h:Heap}(F:WF C A sc env ρ G O h)(x:Option Value):WF C (A.mark x) sc env ρ G O h:=⟨F.kind,F.glob,F.bui,F.ns,F.cells,F.celk,F.gl,F.apart,F.cnl,F.cli,F.nol,F.noc,F.nbs,F.scnd,F.scinj,F.frs,F.top⟩
theorem Tj {A:Around}{env:Env}{s:Shared}{ρ:Rho}{H:AH}{G:Gh}{x:Str}{i:Nat}{a:Addr}{vs:List AV}{v:AV}{p apos pos:Pos}{Q:Value->Shared->Prop}{E:Value->Shared->Prop}(F:WF C A sc env ρ G (own H G) s.heap)(R:Rel C H G (own H G) s.heap)(hx:(x,i) ∈ sc.vars)(hv:ρ i = .ref a)(hH:H a=some (.f (.lst false (vs++[v]))))(hsv:v.sto=true)
  (hQ:∀ y s',Rel C (upd H a (.f (.lst false vs))) G (own (upd H a (.f (.lst false vs))) G) s'.heap->Step (fun z0=>False) H G s (upd H a (.f (.lst false vs))) G s'->VRel s'.heap (own (upd H a (.f (.lst false vs))) G) G v y->Q y s')
  (hd:(x == ("__debug__":Str))=false:=by decide) (hcd:(x == ("__classdict__":Str))=false:=by decide) (hline:(apos.endLine == pos.line)=true:=by rfl) :
  wpAny (model C.prog C.w) A (eval (.Call (.Attribute (.Name x p) "pop" apos) [] [] pos) env) Q E s:=by
 refine Ac fun PP ret=>?_
 obtain⟨_,hst,hz,n,items,hg,hr⟩:=R.obj a _ hH
 have rv:VRel s.heap (own H G) G (.ref a) (.ref a):=by simp[vRr]
 refine ret ?_
 refine wpAny_Call_method rfl rfl hline PySem.F.plainAttrs_list PySem.F.slot_list_pop PySem.F.type_list_pop (wpAny_Name (Ox F hx hv (by simp) (fun y hy=>?_) hcd) hd)
 simp only [vRr]at hy;subst hy
 refine⟨⟨_,hg,rfl⟩,fun b hb=>by cases hb;exact⟨_,hg,rfl⟩,?_⟩
 have hl:=hr.length
 have hlen:items.length=vs.length + 1:=by rw[hl];simp
 obtain⟨y,hy,hry⟩:=hr.get (i:=vs.length) (v:=v) (by simp)
 refine P.pop_list (items:=items.toArray) (n:=n) (y:=y) hg (by rw[List.size_toArray,hlen];simpa using hy) ?_ (by have:=Cj;simp;exact Ar.r95 hz hl this)
 have htk:=hr.take vs.length
 have e1:(vs++[v]).take vs.length=vs:=by simp
 rw[e1]at htk
 obtain⟨n',hg'⟩:=Eo (h':=s.heap) (ys:=items.take vs.length) (g:=fun xs=>xs.eraseIdxIfInBounds (items.toArray.size - 1)) hg (by
  simp only [List.size_toArray,hlen,Nat.add_sub_cancel]
  rw[Array.eraseIdxIfInBounds]
  have hlt:vs.length < items.toArray.size:=by simp;exact Ar.r20 hlen
  simp only [hlt,dif_pos]
  rw[List.eraseIdx_toArray]
  congr 1
  rw[List.eraseIdx_eq_take_drop_succ]
  have:items.drop (vs.length + 1)=[]:=List.drop_of_length_le (by exact Ar.r19 hlen)
  rw[this];simp)
 have hst':AV.stos vs=true:=by
  rw[stos_iff]at hst ⊢;intro u hu;exact hst u (List.mem_append_left _ hu)
 obtain⟨R3,S3⟩:=Ji (lk:=false) (tk:=s.toks) R hH hst' (by simp at hz;exact Ar.r59 hz) hg' Cp htk
 exact hQ _ _ R3 S3 (S3.val hsv hry)
theorem Rel.drop {H:AH}{G:Gh}{h h':Heap}{a:Addr}{o:AObj}(R:Rel C H G (own H G) h)(ha:H a=some o)(hk:∀ b ob,b ≠ a->b ∉ G a->(∃ x,H x ≠ none/\(b=x\/b ∈ G x))\/(∃ xs n,ob.data = .seq xs n)\/(∃ o0,C.h0.get? b=some o0)->h.get? b=some ob->h'.get? b=some ob) :
  Rel C (del H a) G (own (del H a) G) h':=by
 have hne:H a ≠ none:=by rw[ha];simp
 have un:∀ x,del H a x ≠ none->H x ≠ none/\x ≠ a:=fun x hx=>by
  unfold del at hx
  set_option tactic.hygienic true in split at hx
  ·exact absurd rfl hx
  ·rename_i q;exact⟨hx,q⟩
 have sub:∀ b,own (del H a) G b->own H G b:=fun b ⟨x,hx,hb⟩=>⟨x,(un x hx).1,hb⟩
 have off:∀ b,own (del H a) G b->b ≠ a/\b ∉ G a:=fun b ⟨x,hx,hb⟩ =>
  ⟨fun q=>R.dj x a b (un x hx).1 hne (un x hx).2 hb (.inl q),fun q=>R.dj x a b (un x hx).1 hne (un x hx).2 hb (.inr q)⟩
 refine⟨fun z0 x=>x,fun x o' hx=>?_,fun x hx=>R.nd x (un x hx).1,fun x y z hx hy=>R.dj x y z (un x hx).1 (un y hy).1,fun b o' e=>?_,fun b hb=>?_⟩
 ·have hx':=un x (by rw[hx];simp)
  have hxo:H x=some o':=by simpa [del,hx'.2]using hx
  refine(R.obj x o' hxo).mono (fun b ob xs n e hd hb=>⟨hk b ob (fun q=>hb (q ▸ ⟨a,hne,.inl rfl⟩)) (fun q=>hb ⟨a,hne,.inr q⟩) (.inr (.inl ⟨xs,n,hd⟩)) e,fun q=>hb (sub b q)⟩) fun b ob hb e=>?_
  have:=off b ⟨x,by rw[hx];simp,hb⟩
  exact hk b ob this.1 this.2 (.inl ⟨x,hx'.1,hb⟩) e
 ·have:=R.base b o' e
  exact⟨hk b o' (fun q=>this.2 (q ▸ ⟨a,hne,.inl rfl⟩)) (fun q=>this.2 ⟨a,hne,.inr q⟩) (.inr (.inr ⟨o',e⟩)) this.1,fun q=>this.2 (sub b q)⟩
 ·obtain⟨ob,e⟩:=R.live b (sub b hb)
  have:=off b hb
  obtain⟨x,hx,hb'⟩:=hb
  exact⟨ob,hk b ob this.1 this.2 (.inl ⟨x,(un x hx).1,hb'⟩) e⟩
end
end Mine
end
section
namespace Mine
theorem Xd:isSubtype (.type "StopIteration") (.type "BaseException")=pure true:=by rw[isSubtype_type];kernel_rfl
theorem aV:isSubtype (.type ((Manifest.find? "StopIteration").elim "type" fun x=>x.metatype)) (.type "tuple")=pure false:=by
 have e:((Manifest.find? "StopIteration").elim "type" fun x=>x.metatype) = "type":=by rw[find?_eq_fast];kernel_rfl
 rw[e,isSubtype_type];kernel_rfl
theorem Vq (l:List AV)(x:AV):Js (l++[x]) (-1)=some x:=by
 unfold Js
 rw[seqIndex_neg (by decide) (by simp;lia)]
 have:(-1 + ((l++[x]).length:Int)).toNat=l.length:=by simp;lia
 simp only [Option.bind_some,this]
 simp
section
variable {C:Cx} {k:Nat} {sc:Sc} {f f':PF}
inductive TryN (iS iD:Nat) (aI:Addr) (itl:List AV) (n:Addr) (Q:AFlow->Rho->AH->Prop) (ρ:Rho) (H:AH):Prop
 | mk (aS aD:Addr) (stl:List AV) (x:Int) (es:List (Int × AV)) (h1:ρ iS = .ref aS) (h2:ρ iD = .ref aD) (h3:H aS=some (.f (.lst false (stl++[.int x])))) (h4:H aD=some (.f (.dic false es))) (h5:(es.lookup x).isSome=true) (h6:es.length<=lim) (h7:aS ≠ aI)
   (hq:Q .next ρ (upd (upd (upd (del H n) aS (.f (.lst false stl))) aD (.f (.dic false (es.filter fun p=>decide (p.1 ≠ x))))) aI (.f (.lst false itl))))
inductive TryP (iI iS iD iN:Nat) (Q:AFlow->Rho->AH->Prop) (ρ:Rho) (H:AH):Prop
 | mk (aI:Addr) (itl:List AV) (n src:Addr) (pos:Nat) (lk:Bool) (vs:List AV) (h1:ρ iI = .ref aI) (h2:H aI=some (.f (.lst false (itl++[.ref n])))) (h3:H n=some (.f (.nxt src pos))) (h4:H src=some (.f (.lst lk vs)))
   (h5:(∃ v,vs[pos]? = some v/\Q .brk (ρ.set iN v) (upd H n (.f (.nxt src (pos + 1)))))\/(vs[pos]? = none/\TryN iS iD aI itl n Q ρ H))
noncomputable def Rj (iI iS iD iN:Nat):Wp AFlow:=TryP iI iS iD iN
theorem StmtR.tryNext {itn stn dn nn xn:Str} {iI iS iD iN:Nat} {j:Nat} {pn pi p1 p2 p3 pc pa pb px pd ps pap pcp psu pdel pi2 pap2 pcp2 pe ph pos:Pos} (hI:(itn,iI) ∈ sc.vars) (hS:(stn,iS) ∈ sc.vars) (hD:(dn,iD) ∈ sc.vars) (hN:(nn,iN) ∈ sc.vars) (hX:xn ∈ sc.globs) (hm:C.mg xn=Option.none) (hb:C.mb xn=some (.type "StopIteration")) (htop:sc.top=true)
  (hx1:(itn == ("__debug__":Str))=false:=by decide) (hx2:(itn == ("__classdict__":Str))=false:=by decide) (hx3:(stn == ("__debug__":Str))=false:=by decide) (hx4:(stn == ("__classdict__":Str))=false:=by decide)
  (hx5:(dn == ("__debug__":Str))=false:=by decide) (hx6:(dn == ("__classdict__":Str))=false:=by decide) (hx7:(xn == ("__debug__":Str))=false:=by decide) (hl1:(pap.endLine == pcp.line)=true:=by rfl) (hl2:(pap2.endLine == pcp2.line)=true:=by rfl)
  (hsw:∀ env,swapsWith (.Call (.Subscript (.Name itn pi) (.UnaryOp .USub (.Constant (.int 1) j p1) p2) p3) [] [] pc) (some (.Name nn pn)) pa.line env=pure false:=by intro _;rfl)
  (hsw2:∀ env,swapsWith (.Call (.Attribute (.Name itn pi2) "pop" pap2) [] [] pcp2) none pe.line env=pure false:=by intro _;rfl) :
  StmtR C k sc (.Try [.Assign [.Name nn pn] (.Call (.Subscript (.Name itn pi) (.UnaryOp .USub (.Constant (.int 1) j p1) p2) p3) [] [] pc) pa,.Break pb]
   [.ExceptHandler (some (.Name xn px)) none [.Delete [.Subscript (.Name dn pd) (.Call (.Attribute (.Name stn ps) "pop" pap) [] [] pcp) psu] pdel,.Expr (.Call (.Attribute (.Name itn pi2) "pop" pap2) [] [] pcp2) pe] ph] [] [] pos) (Rj iI iS iD iN):=by
 rintro A env s ρ H G Q hA F hs R ⟨aI,itl,n,src,q0,lk,vs,hρI,hHI,hHn,hHs,hT⟩
 have hsub:PureE C k sc (.Subscript (.Name itn pi) (.UnaryOp .USub (.Constant (.int 1) j p1) p2) p3) _:=PureE.sub (PureE.var hI hx1 hx2) (PureE.neg PureE.int)
 refine wpAny_Try_except (wpAny_execs_cons (wpAny_Assign_Name ?_ (hsw env)))
 refine(?_:wpAny _ _ (eval (.Subscript (.Name itn pi) (.UnaryOp .USub (.Constant (.int 1) j p1) p2) p3) env >>= fun f=>callWith pc f [] (backTo pc (starEach [] env)) (backToKw pc (keywordEach [] env))) _ _ _)
 refine dA fun Q' E' hQ' hE'=>?_
 have hval:opP idx (vP iI) (fun ρ H=>match cP (.int 1) ρ H with | some (.int a)=>some (.int (-a)) | _=>Option.none) ρ H=some (.ref n):=by
  have e1:vP iI ρ H=some (.ref aI):=by simp[vP,hρI]
  simp only [opP,e1,cP]
  simp only [Yt,hHI]
  exact Vq _ _
 refine wpAny_bind (wpAny_mono (hsub A env s ρ H G _ (.ref n) hA F R hval) (fun fx s1 hs1=>?_) fun z0 z0 x=>x.elim)
 have k1:=hs1.2
 have rx:fx = .ref n:=hs1.1
 rw[rx]
 have R1:=R.keep k1.k
 have F1:=F.keep k1.k
 obtain⟨it,hGn,hnx,hit⟩:=R1.obj n _ hHn
 obtain⟨_,hstv,hz,m,items,hg,hr⟩:=R1.obj src _ hHs
 have hne:H n ≠ none:=by rw[hHn];simp
 have hnit:n ≠ it:=by
  have:=R1.nd n hne
  rw[hGn]at this
  simp at this
  exact this
 refine Qv hnx (Zs hnx ?_)
 refine Ac fun PP hP=>?_
 rcases hT with ⟨v,hv,hq⟩ | ⟨hend,aS,aD,stl,x,es,hρS,hρD,hHS,hHD,hlk,hzl,hSI,hq⟩
 ·obtain⟨y,hy,hry⟩:=hr.get hv
  have hsv:v.sto=true:=Bq hstv (List.mem_of_getElem? hv)
  refine hP (Vi hit hg hy fun h' hit' hsb=>⟨y,rfl,hQ' _ _ ?_⟩)
  have hk:∀ b ob,b ≠ n->b ∉ G n->s1.heap.get? b=some ob->h'.get? b=some ob:=fun b ob z0 hb e=>hsb.extBut b ob (fun q=>hb (by rw[hGn,q];simp)) e
  have hn':h'.get? n=some (Iu it):=hsb.extBut n _ hnit hnx
  have R2:Rel C (upd H n (.f (.nxt src (q0 + 1)))) G (own (upd H n (.f (.nxt src (q0 + 1)))) G) h':=R1.change hHn hk ⟨it,hGn,hn',hit'⟩ (fun b hb=>by
   rw[hGn]at hb
   clear F F1 R R1 hA hD hE' hGn hHI hHn hHs hI hN hP hQ' hS hX hg hit hk hl1 hl2 hm hne hnit hnx hq hr hry hs hs1 hsb hstv hsub hsv hsw hsw2 htop hv hval hx1 hx2 hx3 hx4 hx5 hx6 hx7 hy hz hρI k1 left rx;rcases hb with rfl | hb
   ·exact⟨_,hn'⟩
   ·simp at hb;subst hb;obtain⟨o,ho,_⟩:=hit';exact⟨o,ho⟩)
  have S2:Step (fun z0=>False) H G s1 (upd H n (.f (.nxt src (q0 + 1)))) G { s1 with heap:=h',toks:=s1.toks }:=.turn R1 hHn rfl hk
  have F2:=S2.wf F1 hs
  have ry2:=S2.val hsv hry
  refine Ds F2 hN ry2 fun s3 F3 fs z0=>?_
  have fs':=fs.mono fun z0=>Cq
  refine wpAny_execs_cons (wpAny_Break ?_)
  exact⟨.brk,_,_,G,hq,trivial,F3,hs.set hsv,Rel.fs R2 F2 fs',((Step.kp R k1).trans (S2.frm F1)).trans (.fs F2 R2 fs')⟩
 ·have hx0:items[q0]? = none:=by
   rw[List.getElem?_eq_none_iff]at hend ⊢
   rw[hr.length];exact hend
  refine hP (Yd (by exact hA.1) hit hg hx0 fun h' e hN'=>hE' _ _ ?_)
  refine dA fun Q2 E2 hQ2 hE2=>?_
  obtain⟨hkN,hlN,hnewN,oe,evs,heN,hecl,hed,he1⟩:=hN'
  obtain⟨hfL,outer,hfr⟩:=F.top htop
  -- the frames
  have hfrs:∀ b,b ∈ (env :: outer).filterMap (·.frame)->¬ own H G b/\C.h0.get? b=none/\∃ o es ep,s.heap.get? b=some o/\o.data = .dict es ep:=fun b hb=>by
   obtain⟨l,el,f1,f2⟩:=F.frs
   rw[hfr]at el;clear F F1 R R1 hA hD hE' hE2 hGn hHD hHI hHS hHn hHs hI hN hP hQ' hQ2 hS hSI hX he1 heN hecl hed hend hfL hfr hg hit hkN hl1 hl2 hlN hlk hm hne hnewN hnit hnx hq hr hs hs1 hstv hsub hsw hsw2 htop hval hx0 hx1 hx2 hx3 hx4 hx5 hx6 hx7 hz hzl hρD hρI hρS k1 left rx;obtain rfl:=Option.some.inj el
   exact⟨(f2 b hb).1,(f1.mem hb).1,(f2 b hb).2⟩
  have hitf:it ∉ (env :: outer).filterMap (·.frame):=fun hb=>by
   exact(hfrs it hb).1 ⟨n,hne,.inr (by rw[hGn];simp)⟩
  obtain⟨oi,hoi,_,hdi⟩:=hit
  have hff:h'.FunFrames C.h0 (env :: outer):=by
   obtain⟨l,el,f1⟩:=F1.frs
   rw[hfr]at el;clear F F1 R R1 hA hD hE' hE2 hGn hHD hHI hHS hHn hHs hI hN hP hQ' hQ2 hS hSI hX hdi he1 heN hecl hed hend hfL hfr hfrs hg hl1 hl2 hlN hlk hm hne hnewN hnit hnx hoi hq hr hs hs1 hstv hsub hsw hsw2 htop hval hx0 hx1 hx2 hx3 hx4 hx5 hx6 hx7 hz hzl hρD hρI hρS k1 left left_1 rx;obtain rfl:=Option.some.inj el
   refine(f1.mono' (O':=own H G) (h':=h') fun b hb o es ep eb hd hO=>⟨⟨o,es,ep,hkN b o (fun q=>by rw[q]at hb;exact hitf hb) eb,hd⟩,hO⟩).1
  refine bG (base:=C.h0) hfr hff hfL heN hed he1 fun h3 T oT ts oe' k3 k3' hTn hT3 hTd hTs he3 hec3 hed3=>hQ2 _ _ ?_
  have hev:(evs.setIfInBounds 1 (Value.ref T))[1]? = some (.ref T):=by
   have:1 < evs.size:=(Array.getElem?_eq_some_iff.mp he1).1
   simp[this]
  have heT:e ≠ T:=fun q=>by rw[<- q]at hTn;rw[hTn]at heN;exact nqa heN
  refine wpAny_setFlight_none he3 hed3 hev hT3 hTd hTs ?_
  have hT4:=Heap.get?_update_self (Obj.mapFields (·.setIfInBounds 3 Value.none)) hT3 (Obj.isFreed_of_fields (Obj.data_mapFields hTd (·.setIfInBounds 3 Value.none)))
  have he4:(h3.update T (Obj.mapFields (·.setIfInBounds 3 Value.none))).get? e=some oe':=by rw[Heap.get?_update_other _ _ (Ne.symm heT)];exact he3
  have hTd4:=Obj.data_mapFields hTd (·.setIfInBounds 3 Value.none)
  have hT5:=Heap.get?_update_self (Obj.mapFields (·.setIfInBounds 3 Value.none)) hT4 (Obj.isFreed_of_fields (Obj.data_mapFields hTd4 (·.setIfInBounds 3 Value.none)))
  -- the heap behind it all
  have eN:∀ b o,s.heap.get? b=some o->b ≠ e:=fun b o eb q=>by
   have:=k1.k b o eb;rw[q,hnewN]at this;exact nqa this
  have TN:∀ b o,s.heap.get? b=some o->b ≠ it->b ≠ T:=fun b o eb hbi q=>by
   have:=hkN b o hbi (k1.k b o eb);rw[q,hTn]at this;exact nqa this
  let h5:=(h3.update T (Obj.mapFields (·.setIfInBounds 3 Value.none))).update T (Obj.mapFields (·.setIfInBounds 3 Value.none))
  have k5:∀ b o,b ≠ it->b ∉ (env :: outer).filterMap (·.frame)->s.heap.get? b=some o->h5.get? b=some o:=fun b o hbi hbf eb=>by
   have hbT:=TN b o eb hbi
   refine(?_:((h3.update T _).update T _).get? b=_)
   rw[Heap.get?_update_other _ _ (Ne.symm hbT),Heap.get?_update_other _ _ (Ne.symm hbT)]
   exact k3 b o (eN b o eb) hbf (hkN b o hbi (k1.k b o eb))
  have k5':∀ b o,b ≠ it->s.heap.get? b=some o->∃ sl,h5.get? b=some { o with slots:=sl }:=fun b o hbi eb=>by
   have hbT:=TN b o eb hbi
   obtain⟨sl,q⟩:=k3' b o (eN b o eb) (hkN b o hbi (k1.k b o eb))
   refine⟨sl,?_⟩
   refine(?_:((h3.update T _).update T _).get? b=_)
   rw[Heap.get?_update_other _ _ (Ne.symm hbT),Heap.get?_update_other _ _ (Ne.symm hbT)]
   exact q
  have hown_it:own H G it:=⟨n,hne,.inr (by rw[hGn];simp)⟩
  have R5:Rel C (del H n) G (own (del H n) G) h5:=by
   refine R.drop hHn fun b ob hbn hbg hor eb=>k5 b ob (fun q=>hbg (by rw[hGn,q];simp)) (fun hbf=>?_) eb
   obtain⟨q1,q2,o',es',ep',q3,q4⟩:=hfrs b hbf
   rcases hor with q | ⟨xs,n',q⟩ | ⟨o0,q⟩
   ·exact q1 q
   ·rw[eb]at q3;cases q3;rw[q]at q4;cases q4
   ·rw[q2]at q;exact nqa q
  have sub5:∀ b,own (del H n) G b->own H G b:=fun b ⟨z,hz,hb⟩=>by
   refine⟨z,?_,hb⟩
   unfold del at hz
   split at hz
   ·exact absurd rfl hz
   ·exact hz
  have S5:∀ tk,Step (fun z0=>False) H G s (del H n) G { s with heap:=h5,toks:=tk }:=fun tk=>by
   refine⟨⟨h5,tk,rfl⟩,fun b o hb z0 eb=>?_,fun z0 z0 z=>z.elim,fun b hb=>.inl (sub5 b hb),fun a oa ea la=>?_⟩
   ·have hbi:b ≠ it:=fun q=>hb (q ▸ hown_it)
    by_cases hbf:b ∈ (env :: outer).filterMap (·.frame)
    ·obtain⟨_,_,o',es',ep',q3,q4⟩:=hfrs b hbf
     rw[eb]at q3;clear F F1 R R1 R5 TN eN hA hD hE' hE2 hGn hHD hHI hHS hHn hHs hI hN hP hQ' hQ2 hS hSI hT3 hT4 hT5 hTd hTd4 hTn hTs hX hb hbf hdi he1 he3 he4 heN heT hec3 hecl hed hed3 hend hev hfL hff hfr hfrs hg hitf hkN hl1 hl2 hlN hlk hm hne hnewN hnit hnx hoi hown_it hq hr hs hs1 hstv hsub hsw hsw2 htop hval hx0 hx1 hx2 hx3 hx4 hx5 hx6 hx7 hz hzl hρD hρI hρS k1 k3 k3' k5 left left_1 left_2 left_3 rx sub5 z0;obtain rfl:=Option.some.inj q3
     obtain⟨sl,q⟩:=k5' b o hbi eb
     exact⟨_,q,.inr ⟨⟨es',ep',q4⟩,sl,rfl⟩⟩
    ·exact⟨o,k5 b o hbi hbf eb,.refl o⟩
   ·have han:a ≠ n:=fun qq=>by first | (rw[<- qq,hHn]at ea;obtain rfl:=fI ea;exact nqd la) | (rw[qq,hHn]at ea;clear F F1 R1 R5 TN eN hA hD hE' hE2 hHD hHI hHS hHn hHs hI hN hP hQ' hQ2 hS hSI hT3 hT4 hT5 hTd hTd4 hTn hTs hX hdi he1 he3 he4 heN heT hec3 hecl hed hed3 hend hev hfL hff hfr hg hitf hkN hl1 hl2 hlN hlk hm hnewN hnit hnx hoi hown_it hq hr hs hs1 hstv hsub hsw hsw2 htop hval hx0 hx1 hx2 hx3 hx4 hx5 hx6 hx7 hz hzl hρD hρI hρS k1 k3 k3' k5' left left_1 qq rx sub5;obtain rfl:=fI ea;exact nqd la)
    refine⟨by simpa [del,han]using ea,rfl,fun b hb=>?_⟩
    have hane:H a ≠ none:=by rw[ea];simp
    obtain⟨ob,eb⟩:=R.live b ⟨a,hane,hb⟩
    refine(?_:h5.get? b=_)
    rw[eb]
    refine k5 b ob (fun q=>?_) (fun hbf=>(hfrs b hbf).1 ⟨a,hane,hb⟩) eb
    exact R.dj a n b hane hne han hb (.inr (by rw[q,hGn];simp))
  have sm:∃ tk,({ s1 with heap:=h5 }:Shared)={ s with heap:=h5,toks:=tk }:=by
   obtain⟨hh,tt,e1⟩:=k1.same;exact⟨tt,by rw[e1]⟩
  obtain⟨tk,sm⟩:=sm
  have S5':Step (fun z0=>False) H G s (del H n) G { s1 with heap:=h5 }:=by rw[sm];exact S5 tk
  have R5':Rel C (del H n) G (own (del H n) G) ({ s1 with heap:=h5 }:Shared).heap:=R5
  have F5:=S5'.wf F hs
  -- the handler
  have he5:(⟨{ s1 with heap:=h3.update T (Obj.mapFields (·.setIfInBounds 3 Value.none)) }.heap,s1.gens,s1.drawn,s1.toks,s1.os⟩:Shared).TypeIs (.ref e) "StopIteration":=⟨oe',he4,by rw[hec3,hecl]⟩
  have R4:∀ b o,C.h0.get? b=some o->(h3.update T (Obj.mapFields (·.setIfInBounds 3 Value.none))).get? b=some o:=fun b o eb=>by
   have q:=(R.base b o eb)
   have hbi:b ≠ it:=fun z=>q.2 (z ▸ hown_it)
   rw[Heap.get?_update_other _ _ (Ne.symm (TN b o q.1 hbi))]
   exact k3 b o (eN b o q.1) (fun hbf=>by rw[(hfrs b hbf).2.1]at eb;exact nqa eb) (hkN b o hbi (k1.k b o q.1))
  have n1:(h3.update T (Obj.mapFields (·.setIfInBounds 3 Value.none))).Ns env.globals C.mg:=F.glob ▸ C.ns.keeps R4
  have n2:(h3.update T (Obj.mapFields (·.setIfInBounds 3 Value.none))).Ns env.builtins C.mb:=F.bui ▸ C.nb.keeps R4
  refine wpAny_handleBy_builtin (X:="StopIteration") (T:="StopIteration") (b:=true) Xd aV isSubtype_stop (wpAny_Name (Nz F.kind (F.gl xn hX) n1 n2 (.inr ⟨hm,hb⟩) ⟨rfl,he5,?_⟩) hx7)
  simp only [if_true]
  refine wpAny_setFlight_none he4 hed3 hev hT4 hTd4 (by simpa using hTs) ?_
  -- its body
  have hnS:n ≠ aS:=by first | exact Ai hHn hHS rfl | exact Ai hHS hHn rfl
  have hnD:n ≠ aD:=by first | exact Ai hHn hHD rfl | exact Ai hHD hHn rfl
  have hnI:n ≠ aI:=by first | exact Ai hHn hHI rfl | exact Ai hHI hHn rfl
  have hSD:aS ≠ aD:=by first | exact Ai hHS hHD rfl | exact Ai hHD hHS rfl
  have hID:aI ≠ aD:=by first | exact Ai hHI hHD rfl | exact Ai hHD hHI rfl
  have d1:(del H n) aS=some (.f (.lst false (stl++[.int x]))):=by simp[del,Ne.symm hnS,hHS]
  have d2:(upd (del H n) aS (.f (.lst false stl))) aD=some (.f (.dic false es)):=by rw[Aa (Ne.symm hSD)];simp[del,Ne.symm hnD,hHD]
  have d3:(upd (upd (del H n) aS (.f (.lst false stl))) aD (.f (.dic false (es.filter fun p=>decide (p.1 ≠ x))))) aI=some (.f (.lst false (itl++[.ref n]))):=by
   rw[Aa hID,Aa (Ne.symm hSI)];simp[del,Ne.symm hnI,hHI]
  refine wpAny_execs_cons (wpAny_Delete (wpAny_deleteEach_cons (delete_Subscript (wpAny_Name (Ox (F5.mark _) hD hρD (by simp) (fun y hy=>?_) hx6) hx5))))
  refine Tj (F5.mark _) R5' hS hρS d1 rfl (fun z s6 R6 S6 rz=>?_) hx3 hx4 hl1
  have F6:=S6.wf F5 hs
  have ry6:VRel s6.heap (own (upd (del H n) aS (.f (.lst false stl))) G) G (.ref aD) y:=S6.val rfl hy
  refine wpAny_mono (cD R6 ry6 rz (H':=upd (upd (del H n) aS (.f (.lst false stl))) aD (.f (.dic false (es.filter fun p=>decide (p.1 ≠ x))))) (by simp only [Sp,fJ,d2];rw[if_pos ⟨hlk,hzl⟩]) (Q:=fun z0 s7=>∃ G7,Rel C (upd (upd (del H n) aS (.f (.lst false stl))) aD (.f (.dic false (es.filter fun p=>decide (p.1 ≠ x))))) G7 (own (upd (upd (del H n) aS (.f (.lst false stl))) aD (.f (.dic false (es.filter fun p=>decide (p.1 ≠ x))))) G7) s7.heap/\Step (fun z0=>False) (upd (del H n) aS (.f (.lst false stl))) G s6 (upd (upd (del H n) aS (.f (.lst false stl))) aD (.f (.dic false (es.filter fun p=>decide (p.1 ≠ x))))) G7 s7) fun s7 G7 R7 S7=>⟨G7,R7,S7⟩) (fun z0 s7 hs7=>?_) fun z0 z0 x=>x.elim
  obtain⟨G7,R7,S7⟩:=hs7
  have F7:=S7.wf F6 hs
  refine wpAny_deleteEach_nil ?_
  refine wpAny_execs_cons (wpAny_Expr_any (Tj (F7.mark _) R7 hI hρI d3 rfl (fun z s8 R8 S8 rz=>?_) hx1 hx2 hl2) (by simp[interactive,F.kind]) (hsw2 env))
  refine wpAny_execs_nil ?_
  have F8:=S8.wf F7 hs
  exact⟨.next,ρ,_,G7,hq,trivial,F8,hs,R8,(((S5'.trans S6).trans S7).trans S8).frm F⟩
end
end Mine
end
section
namespace Mine
theorem La:isSubtype (.type "range_iterator") (.type "reversed")=pure false:=by rw[isSubtype_type];kernel_rfl
section
variable {prog:Program} {w:World} {A:Around} {E:Value->Shared->Prop} {s:Shared}
noncomputable def Ht (x n c:Int):Obj:={ cls:=.type "range_iterator",data:=.fields #[rawInt x,rawInt n,rawInt c] }
theorem Hi {r:Addr}{b:Int}{t u v:Tok}{Q:Value->Shared->Prop}(hr:IsRange s.heap r 0 b 1 t u v)(hb:-1000000000 < b/\b < 1000000000)
  (h:Q (.ref s.heap.objs.size) { s with heap:=s.heap.push (Ht (Builtin.Range.rangeSize 0 b 1 - 1) (Builtin.Range.rangeSize 0 b 1) (-1)) }):wpAny (model prog w) A (call (.builtin "range.__reversed__") [.ref r]) Q E s:=by
 have hT:s.TypeIs (.ref r) "range":=⟨_,hr,rfl⟩
 refine wpAny_call_entry PySem.F.slot_range_reversed hT PySem.F.entry_range_reversed ?_ (PySem.F.args_range_reversed_1 _)
 unfold Builtin.«range.__reversed__»
 refine wpAny_bind (wpAny_of_eq (a:=Value.ref r) rfl ?_)
 refine wpAny_bind ?_
 unfold Builtin.Range.rangeFields
 refine wpAny_bind (wpAny_field hr rfl (x:=.int 0 t) rfl ?_)
 refine wpAny_bind (wpAny_of_eq (a:=some 0) (by first | rfl | kernel_rfl) ?_)
 refine wpAny_bind (wpAny_field hr rfl (x:=.int b u) rfl ?_)
 refine wpAny_bind (wpAny_of_eq (a:=some b) (by first | rfl | kernel_rfl) ?_)
 refine wpAny_bind (wpAny_field hr rfl (x:=.int 1 v) rfl ?_)
 refine wpAny_bind (wpAny_of_eq (a:=some 1) (by first | rfl | kernel_rfl) ?_)
 refine wpAny_pure ?_
 dsimp only
 have hn:0<=Builtin.Range.rangeSize 0 b 1/\Builtin.Range.rangeSize 0 b 1 < 1000000001:=by
  unfold Builtin.Range.rangeSize
  simp only [show (1:Int) > 0 from by decide,if_true,Int.ediv_one]
  set_option tactic.hygienic true in split <;> lia
 have hs:(Builtin.Range.rangeFitsLong 0 && Builtin.Range.rangeFitsLong b && Builtin.Range.rangeFitsLong 1 && Builtin.Range.rangeFitsLong (-1) && Builtin.Range.rangeFitsLong (0 - 1) && Builtin.Range.rangeFitsLong (Builtin.Range.rangeSize 0 b 1))=true:=by
  simp only [Builtin.Range.rangeFitsLong,Bool.and_eq_true,decide_eq_true_eq]
  refine⟨⟨⟨⟨⟨?_,?_⟩,?_⟩,?_⟩,?_⟩,?_⟩ <;> constructor <;> lia
 simp only [hs,Bool.not_true,Bool.false_eq_true,if_false,if_true]
 unfold newFields
 refine wpAny_bind (wpAny_newObj_type ?_)
 have e:(0 + (Builtin.Range.rangeSize 0 b 1 - 1) * 1)=Builtin.Range.rangeSize 0 b 1 - 1:=by lia
 rw[e]
 exact wpAny_pure ⟨_,rfl,h⟩
theorem Hg {r:Addr}{b:Int}{t u v:Tok}{Q₁:Value->Shared->Prop}(hr:IsRange s.heap r 0 b 1 t u v)(hb:-1000000000 < b/\b < 1000000000)
  (h:Q₁ (.ref s.heap.objs.size) { s with heap:=s.heap.push (Ht (Builtin.Range.rangeSize 0 b 1 - 1) (Builtin.Range.rangeSize 0 b 1) (-1)) }) :
  codeAny (model prog w) A (.call (.builtin "reversed.__new__") ⟨[.type "reversed",.ref r],[]⟩) (wants Q₁ E) s:=by
 have hT:s.TypeIs (.ref r) "range":=⟨_,hr,rfl⟩
 refine codeAny_of_tree ?_
 refine(?_:wpAny _ A.in1 (do checkBuiltinCall "reversed.__new__" ⟨[.type "reversed",.ref r],[]⟩;again (.builtin "reversed.__new__" ⟨[.type "reversed",.ref r],[]⟩)) _ _ s)
 refine wpAny_bind (wpAny_of_eq (PySem.F.newCall_reversed_1 _) (wpAny_pure ⟨plainId_quiet PySem.F.plain_reversed_new _,codeAny_builtin PySem.F.entry_reversed_new ?_⟩))
 rw[Around.under_plainId PySem.F.plain_reversed_new _]
 unfold Builtin.«reversed.__new__»
 refine wpAny_bind (wpAny_of_eq (newClass_reversed _) ?_)
 try dsimp only
 refine wpAny_bind (wpAny_of_eq (a:=()) (by first | rfl | kernel_rfl) ?_)
 refine wpAny_bind (wpAny_of_eq (a:=()) (by first | rfl | kernel_rfl) ?_)
 try dsimp only
 refine wpAny_bind (wpAny_specialOf hT PySem.F.slot_range_reversed.lookup ?_)
 try dsimp only
 refine wpAny_bind (wpAny_of_eq (PySem.F.slot_range_reversed.bind _) ?_)
 try dsimp only
 first
 | rw[if_neg (show ¬ ((Value.builtin "range.__reversed__" == Value.none)=true) from Bool.false_ne_true)]
 | (refine(?_:wpAny _ _ (if (Value.builtin "range.__reversed__" == Value.none)=true then _ else _) _ _ _);rw[if_neg (show ¬ ((Value.builtin "range.__reversed__" == Value.none)=true) from Bool.false_ne_true)])
 refine wpAny_bind (wpAny_rule ?_)
 refine wpAny_bind (m:=runValue (.call (.builtin "range.__reversed__") ⟨[.ref r],[]⟩)) (show wpAny _ _ (call (.builtin "range.__reversed__") [.ref r]) _ _ _ from Hi hr hb ?_)
 first
 | exact wpAny_pure h
 | exact wpAny_bind (wpAny_pure (wpAny_pure h))
theorem Hh {r:Addr}{b:Int}{t u v:Tok}{Q:Value->Shared->Prop}(hr:IsRange s.heap r 0 b 1 t u v)(hb:-1000000000 < b/\b < 1000000000)
  (h:Q (.ref s.heap.objs.size) { s with heap:=s.heap.push (Ht (Builtin.Range.rangeSize 0 b 1 - 1) (Builtin.Range.rangeSize 0 b 1) (-1)) }):wpAny (model prog w) A (call (.type "reversed") [.ref r]) Q E s:=by
 refine callType_other (U:="range_iterator") (Q₁:=fun obj s₁=>obj = .ref s.heap.objs.size/\s₁={ s with heap:=s.heap.push (Ht (Builtin.Range.rangeSize 0 b 1 - 1) (Builtin.Range.rangeSize 0 b 1) (-1)) }) (by decide +kernel) PySem.F.create_reversed ⟨_,_,PySem.F.mro_reversed⟩ PySem.F.made_reversed La (PySem.F.typeCall_reversed_1 _) (Hg hr hb ⟨rfl,rfl⟩) ?_
 rintro obj s₁ ⟨rfl,rfl⟩
 exact⟨⟨_,Heap.get?_push_size _ rfl,rfl⟩,h⟩
end
section
variable {C:Cx} {k:Nat} {sc:Sc} {f f':PF}
noncomputable def bF (fs:LF):LF:=fun ρ H=>match fs ρ H with
 | some [.int n]=>if Dh 0 n 1 then some ((Bs 0 n 1).reverse.map .int) else none
 | _=>none
theorem Rx {b:Int}{i:Nat}(hi:i < (Builtin.Range.rangeSize 0 b 1).toNat):(Bs 0 b 1).reverse[i]? = some (Builtin.Range.rangeSize 0 b 1 - 1 + (i:Int) * -1):=by
 have hn:=Cg (a:=0) (b:=b) (c:=1) (by decide)
 rw[List.getElem?_reverse (by simpa [Bs]using hi)]
 simp only [Bs,List.length_map,List.length_range,List.getElem?_map]
 rw[List.getElem?_range (by omega)]
 simp
 omega
theorem IterS.revRange {x y:Str} {p p2 pos pos2:Pos} {e:Expr} {fs:LF} (hx:x ∈ sc.globs) (hm:C.mg x=Option.none) (hb:C.mb x=some (.type "reversed")) (hy:y ∈ sc.globs) (hm2:C.mg y=Option.none) (hb2:C.mb y=some (.type "range")) (ha:ArgsF C k sc [e] fs)
  (hns:Ig [e]:=by intro _;rfl) (hd:(x == ("__debug__":Str))=false:=by decide) (hd2:(y == ("__debug__":Str))=false:=by decide):IterS C k sc (.Call (.Name x p) [.Call (.Name y p2) [e] [] pos2] [] pos) (bF fs):=by
 intro A env s ρ H G O vs hA F R hv
 unfold bF at hv
 refine eU hv ?_;clear hv;intro n hfs hv
 refine Bo hv ?_;clear hv;intro hok hv
 obtain rfl:=Option.some.inj hv
 refine wpAny_Call_NameR (wpAny_Name (Cf F R hx (.inr ⟨hm,hb⟩) ?_) hd)
 refine PySem.callWith_type rfl (Dr (e:=.Call (.Name y p2) [e] [] pos2) (rest:=[]) rfl ?_)
 refine Calls.spliced_cons ?_
 refine wpAny_Call_NameR (wpAny_Name (Cf F R hy (.inr ⟨hm2,hb2⟩) ?_) hd2)
 refine PySem.callWith_type (Ct hns pos2 env) (wpAny_mono (ha (.type "range") pos2 A env s ρ H G O _ hA F R hfs) (fun a s1 h1=>?_) fun z0 z0 x=>x)
 refine Ac fun PP ret=>?_
 obtain⟨xs,rfl,r1,k1⟩:=h1
 simp only [vSn,vSc,vRi]at r1
 obtain⟨z,_,rfl,⟨t,rfl⟩,rfl⟩:=r1
 refine ret ?_
 refine call_range_1 (Calls.spliced_nil ?_)
 have kr:=k1.trans' (Kp.pushT (s:=s1) (o:={ cls:=.type "range",data:=.fields #[.int 0 s1.toks,.int n t,.int 1 (s1.toks + 1)] }) (n:=s1.toks + 1 + 1))
 have hnn:=Cg (a:=0) (b:=n) (c:=1) (by decide)
 have hok':=hok
 simp only [Dh,Bool.and_eq_true,decide_eq_true_eq]at hok'
 have hzz:(Builtin.Range.rangeSize 0 n 1).toNat<=lim:=hok'.2
 refine Hh (IsRange.new ..) ⟨by omega,by omega⟩ ?_
 generalize ({ s1 with heap:=s1.heap.push { cls:=.type "range",data:=.fields #[.int 0 s1.toks,.int n t,.int 1 (s1.toks + 1)] },toks:=s1.toks + 1 + 1 }:Shared)=s2 at kr ⊢
 have kp:=kr.trans' (.push (o:=Ht (Builtin.Range.rangeSize 0 n 1 - 1) (Builtin.Range.rangeSize 0 n 1) (-1)))
 have hget:(s2.heap.push (Ht (Builtin.Range.rangeSize 0 n 1 - 1) (Builtin.Range.rangeSize 0 n 1) (-1))).get? s2.heap.objs.size=some (Ht (Builtin.Range.rangeSize 0 n 1 - 1) (Builtin.Range.rangeSize 0 n 1) (-1)):=Heap.get?_push_size _ rfl
 refine wpAny_pyIter_rangeiter (it:=s2.heap.objs.size) (x:=Builtin.Range.rangeSize 0 n 1 - 1) (left:=Builtin.Range.rangeSize 0 n 1) (step:=-1) hget ?_
 refine⟨kp,by simpa [Bs]using hzz,s2.heap.objs.size,[s2.heap.objs.size],[s2.heap.objs.size],[],(fun i x=>i < (Builtin.Range.rangeSize 0 n 1).toNat/\∃ t,x = .int (Builtin.Range.rangeSize 0 n 1 - 1 + i * (-1)) t),(fun i h=>IsRangeIter h s2.heap.objs.size (Builtin.Range.rangeSize 0 n 1 - 1 + (i:Nat) * (-1)) (((Builtin.Range.rangeSize 0 n 1).toNat:Int) - (i:Nat)) (-1)),rfl,⟨?_,?_,?_,?_,?_,?_,?_,?_⟩,fun b hb=>by simp at hb⟩
 ·have:=(Walks.range (prog:=C.prog) (w:=C.w) hA.1 s2.heap.objs.size (Builtin.Range.rangeSize 0 n 1 - 1) (-1) (Builtin.Range.rangeSize 0 n 1).toNat).bound
  simpa [Bs]using this
 ·show IsRangeIter _ _ _ _ _
  have e1:Builtin.Range.rangeSize 0 n 1 - 1 + ((0:Nat):Int) * (-1)=Builtin.Range.rangeSize 0 n 1 - 1:=by simp
  have e2:((Builtin.Range.rangeSize 0 n 1).toNat:Int) - ((0:Nat):Int)=Builtin.Range.rangeSize 0 n 1:=by rw[Int.toNat_of_nonneg hnn];simp
  rw[e1,e2]
  exact hget
 ·intro b hb;simp at hb;subst hb;exact⟨Dl kr,_,hget⟩
 ·intro i h st b hb;simp at hb;subst hb;have st':h.get? _=some _:=st;exact⟨_,_,st',rfl⟩
 ·intro b hb;simp at hb;subst hb;simp
 ·intro b hb;simp at hb
 ·rintro i x ⟨hi,t,rfl⟩
  refine⟨.int (Builtin.Range.rangeSize 0 n 1 - 1 + i * (-1)),?_,by simp[vRi]⟩
  rw[List.getElem?_map,Rx hi];rfl
 ·rintro i s target v Q E ho hQ
  exact Nm (show s.heap.get? _=some _ from ho) (show Sm (Value.type "range_iterator")=true by decide) hQ
noncomputable def BoolsR (C:Cx) (k:Nat) (sc:Sc) (op:BoolOp) (es:List Expr) (W:Wp AV):Prop :=
 ∀ (pos:Pos) (A:Around) (env:Env) (s:Shared) (ρ:Rho) (H:AH) (G:Gh) (Q:AV->Rho->AH->Prop),AOk k A->WF C A sc env ρ G (own H G) s.heap->stoR sc ρ->Rel C H G (own H G) s.heap->W Q ρ H ->
  wpAny (model C.prog C.w) A (boolOp pos op (evalEach es env)) (PostE C A sc env s H G Q) (fun z0 z0=>False) s
theorem BoolsR.one {op:BoolOp}{e:Expr}{W:Wp AV}(h:ImpE C k sc e W):BoolsR C k sc op [e] W:=fun pos A env s ρ H G Q hA F hs R hW=>h A env s ρ H G Q hA F hs R hW
noncomputable def Uf (o:Bool) (W W':Wp AV):Wp AV:=fun Q=>W fun v ρ H=>∃ b,Nn H v=some b/\if b=o then Q v ρ H else W' Q ρ H
theorem BoolsR.and {x y:Expr}{rest:List Expr}{W W':Wp AV}(h:ImpE C k sc x W)(h':BoolsR C k sc .And (y :: rest) W'):BoolsR C k sc .And (x :: y :: rest) (Uf false W W'):=by
 intro pos A env s ρ H G Q hA F hs R hW
 refine(?_:wpAny _ _ (boolOp pos .And (eval x env :: evalEach (y :: rest) env)) _ _ _)
 refine wpAny_bind (wpAny_mono (h A env s ρ H G _ hA F hs R hW) (fun z s1 h1=>?_) fun z0 z0 x=>x)
 refine Ac fun PP ret=>?_
 obtain⟨v,ρ1,H1,G1,⟨b,hb,hq⟩,hv,hsv,F1,hs1,R1,S1⟩:=h1
 refine ret ?_
 refine wpAny_bind (wpAny_standAt (wpAny_bind (wpAny_holding (Ii hA R1 hv hb fun tk=>?_))))
 cases b with
 | false =>
  simp only [if_true]at hq
  exact wpAny_pure ⟨v,ρ1,H1,G1,hq,hv,hsv,F1,hs1,R1,S1.trans (.kp R1 .tok)⟩
 | true =>
  simp only [Bool.true_eq_false,if_false]at hq
  refine wpAny_mono (h' pos A env { s1 with toks:=tk } ρ1 H1 G1 Q hA F1 hs1 R1 hq) (fun z s2 h2=>?_) fun z0 z0 x=>x
  refine Ac fun PP ret=>?_
  obtain⟨v,ρ2,H2,G2,hq,hv,hsv,F2,hs2,R2,S2⟩:=h2
  refine ret ?_
  exact⟨v,ρ2,H2,G2,hq,hv,hsv,F2,hs2,R2,(S1.trans (.kp R1 .tok)).trans S2⟩
theorem BoolsR.or {x y:Expr}{rest:List Expr}{W W':Wp AV}(h:ImpE C k sc x W)(h':BoolsR C k sc .Or (y :: rest) W'):BoolsR C k sc .Or (x :: y :: rest) (Uf true W W'):=by
 intro pos A env s ρ H G Q hA F hs R hW
 refine(?_:wpAny _ _ (boolOp pos .Or (eval x env :: evalEach (y :: rest) env)) _ _ _)
 refine wpAny_bind (wpAny_mono (h A env s ρ H G _ hA F hs R hW) (fun z s1 h1=>?_) fun z0 z0 x=>x)
 refine Ac fun PP ret=>?_
 obtain⟨v,ρ1,H1,G1,⟨b,hb,hq⟩,hv,hsv,F1,hs1,R1,S1⟩:=h1
 refine ret ?_
 refine wpAny_bind (wpAny_standAt (wpAny_bind (wpAny_holding (Ii hA R1 hv hb fun tk=>?_))))
 cases b with
 | true =>
  simp only [if_true]at hq
  exact wpAny_pure ⟨v,ρ1,H1,G1,hq,hv,hsv,F1,hs1,R1,S1.trans (.kp R1 .tok)⟩
 | false =>
  simp only [Bool.false_eq_true,if_false]at hq
  refine wpAny_mono (h' pos A env { s1 with toks:=tk } ρ1 H1 G1 Q hA F1 hs1 R1 hq) (fun z s2 h2=>?_) fun z0 z0 x=>x
  refine Ac fun PP ret=>?_
  obtain⟨v,ρ2,H2,G2,hq,hv,hsv,F2,hs2,R2,S2⟩:=h2
  refine ret ?_
  exact⟨v,ρ2,H2,G2,hq,hv,hsv,F2,hs2,R2,(S1.trans (.kp R1 .tok)).trans S2⟩
theorem ImpE.bools {op:BoolOp}{es:List Expr}{pos:Pos}{W:Wp AV}(h:BoolsR C k sc op es W):ImpE C k sc (.BoolOp op es pos) W:=fun A env s ρ H G Q hA F hs R hW=>h pos A env s ρ H G Q hA F hs R hW
noncomputable def AllR (C:Cx) (k:Nat) (sc:Sc) (op:BoolOp) (es:List Expr) (W:Wp Bool):Prop :=
 ∀ (A:Around) (env:Env) (s:Shared) (ρ:Rho) (H:AH) (G:Gh) (Q:Bool->Rho->AH->Prop),AOk k A->WF C A sc env ρ G (own H G) s.heap->stoR sc ρ->Rel C H G (own H G) s.heap->W Q ρ H ->
  wpAny (model C.prog C.w) A (allTrue op es env) (PostC C A sc env s H G Q) (fun z0 z0=>False) s
noncomputable def Om (b:Bool):Wp Bool:=fun Q ρ H=>Q b ρ H
theorem AllR.andNil:AllR C k sc .And [] (Om true):=fun A env s ρ H G Q hA F hs R hW=>wpAny_allTrue_And_nil ⟨ρ,H,G,hW,F,hs,R,.refl s⟩
theorem AllR.orNil:AllR C k sc .Or [] (Om false):=fun A env s ρ H G Q hA F hs R hW=>wpAny_allTrue_Or_nil ⟨ρ,H,G,hW,F,hs,R,.refl s⟩
noncomputable def Wz (W W':Wp Bool):Wp Bool:=fun Q=>W fun b ρ H=>if b=true then W' Q ρ H else Q false ρ H
noncomputable def aP (W W':Wp Bool):Wp Bool:=fun Q=>W fun b ρ H=>if b=true then Q true ρ H else W' Q ρ H
theorem AllR.and {x:Expr}{rest:List Expr}{W W':Wp Bool}(h:ImpC C k sc x W)(h':AllR C k sc .And rest W'):AllR C k sc .And (x :: rest) (Wz W W'):=by
 intro A env s ρ H G Q hA F hs R hW
 refine wpAny_allTrue_And_cons (wpAny_mono (h A env s ρ H G _ hA F hs R hW) (fun b s1 h1=>?_) fun z0 z0 x=>x)
 obtain⟨ρ1,H1,G1,hq,F1,hs1,R1,S1⟩:=h1
 cases b with
 | false=>simp only [Bool.false_eq_true,if_false]at hq ⊢;exact⟨ρ1,H1,G1,hq,F1,hs1,R1,S1⟩
 | true =>
  simp only [if_true]at hq ⊢
  refine wpAny_mono (h' A env s1 ρ1 H1 G1 Q hA F1 hs1 R1 hq) (fun b s2 h2=>?_) fun z0 z0 x=>x
  obtain⟨ρ2,H2,G2,hq,F2,hs2,R2,S2⟩:=h2
  exact⟨ρ2,H2,G2,hq,F2,hs2,R2,S1.trans S2⟩
theorem AllR.or {x:Expr}{rest:List Expr}{W W':Wp Bool}(h:ImpC C k sc x W)(h':AllR C k sc .Or rest W'):AllR C k sc .Or (x :: rest) (aP W W'):=by
 intro A env s ρ H G Q hA F hs R hW
 refine wpAny_allTrue_Or_cons (wpAny_mono (h A env s ρ H G _ hA F hs R hW) (fun b s1 h1=>?_) fun z0 z0 x=>x)
 obtain⟨ρ1,H1,G1,hq,F1,hs1,R1,S1⟩:=h1
 cases b with
 | true=>simp only [if_true]at hq ⊢;exact⟨ρ1,H1,G1,hq,F1,hs1,R1,S1⟩
 | false =>
  simp only [Bool.false_eq_true,if_false]at hq ⊢
  refine wpAny_mono (h' A env s1 ρ1 H1 G1 Q hA F1 hs1 R1 hq) (fun b s2 h2=>?_) fun z0 z0 x=>x
  obtain⟨ρ2,H2,G2,hq,F2,hs2,R2,S2⟩:=h2
  exact⟨ρ2,H2,G2,hq,F2,hs2,R2,S1.trans S2⟩
theorem ImpC.all {op:BoolOp}{es:List Expr}{pos:Pos}{W:Wp Bool}(h:AllR C k sc op es W):ImpC C k sc (.BoolOp op es pos) W:=fun A env s ρ H G Q hA F hs R hW=>wpAny_isTrue_BoolOp (h A env s ρ H G Q hA F hs R hW)
theorem ImpE.two {l r:Expr}{A:Around}{env:Env}{s:Shared}{ρ:Rho}{H:AH}{G:Gh}{Wl Wr:Wp AV}{Q:AV->AV->Rho->AH->Prop}{K:Value->Value->Shared->Prop}(hl:ImpE C k sc l Wl)(hr:ImpE C k sc r Wr)(hA:AOk k A)(F:WF C A sc env ρ G (own H G) s.heap)(hs:stoR sc ρ)(R:Rel C H G (own H G) s.heap)
  (hW:Wl (fun u=>Wr (Q u)) ρ H)
  (hK:∀ u v x y s' ρ' H' G',Q u v ρ' H'->VRel s'.heap (own H' G') G' u x->VRel s'.heap (own H' G') G' v y->u.sto=true->v.sto=true->WF C A sc env ρ' G' (own H' G') s'.heap->stoR sc ρ'->Rel C H' G' (own H' G') s'.heap->Step (fr env) H G s H' G' s'->K x y s') :
  wpAny (model C.prog C.w) A (eval l env) (fun x s₁=>wpAny (model C.prog C.w) A (eval r env) (fun y s₂=>K x y s₂) (fun z0 z0=>False) s₁) (fun z0 z0=>False) s:=by
 refine wpAny_mono (hl A env s ρ H G _ hA F hs R hW) (fun x s1 h1=>?_) fun z0 z0 x=>x
 obtain⟨u,ρ1,H1,G1,hq,hu,hsu,F1,hs1,R1,S1⟩:=h1
 refine wpAny_mono (hr A env s1 ρ1 H1 G1 _ hA F1 hs1 R1 hq) (fun y s2 h2=>?_) fun z0 z0 x=>x
 obtain⟨v,ρ2,H2,G2,hq,hv,hsv,F2,hs2,R2,S2⟩:=h2
 exact hK u v x y s2 ρ2 H2 G2 hq (S2.valF F1 hsu hu) hv hsu hsv F2 hs2 R2 (S1.trans S2)
noncomputable def iC (g:AH->AV->AV->Option Bool) (Wl Wr:Wp AV):Wp AV:=fun Q=>Wl fun u=>Wr fun v ρ H=>∃ b,g H u v=some b/\Q (.bool b) ρ H
theorem ImpE.cmp {l r:Expr}{op:CmpOp}{pos:Pos}{Wl Wr:Wp AV}{g:AH->AV->AV->Option Bool}(hl:ImpE C k sc l Wl)(hr:ImpE C k sc r Wr)(hg:CmpR C k op g)
  (hm:behindInMarks op r=false:=by with_unfolding_all rfl):ImpE C k sc (.Compare l [op] [r] pos) (iC g Wl Wr):=by
 intro A env s ρ H G Q hA F hs R hW
 refine wpAny_Compare1 (ImpE.two hl hr hA F hs R hW fun u v x y s2 ρ2 H2 G2 hq hu hv hsu hsv F2 hs2 R2 S2=>?_) hm
 obtain⟨b,hb,hq⟩:=hq
 refine wpAny_mono (hg A s2 H2 G2 _ u v (.bool b) x y hA R2 hu hv (by simp[hb])) (fun z s3 h3=>?_) fun z0 z0 x=>x
 obtain⟨hz,k3⟩:=h3
 exact⟨.bool b,ρ2,H2,G2,hq,hz,rfl,F2.keep k3.k,hs2,R2.keep k3.k,S2.trans (.kp R2 k3)⟩
noncomputable def cJ (g:AH->AV->AV->Option Bool) (Wl Wr:Wp AV):Wp Bool:=fun Q=>Wl fun u=>Wr fun v ρ H=>∃ b,g H u v=some b/\Q b ρ H
theorem ImpC.cmp {l r:Expr}{op:CmpOp}{pos:Pos}{Wl Wr:Wp AV}{g:AH->AV->AV->Option Bool}(hl:ImpE C k sc l Wl)(hr:ImpE C k sc r Wr)(hg:CmpR C k op g)
  (hm:behindInMarks op r=false:=by with_unfolding_all rfl):ImpC C k sc (.Compare l [op] [r] pos) (cJ g Wl Wr):=by
 intro A env s ρ H G Q hA F hs R hW
 refine wpAny_isTrue_Compare1 (ImpE.two hl hr hA F hs R hW fun u v x y s2 ρ2 H2 G2 hq hu hv hsu hsv F2 hs2 R2 S2=>?_) hm
 obtain⟨b,hb,hq⟩:=hq
 refine wpAny_mono (hg A s2 H2 G2 _ u v (.bool b) x y hA R2 hu hv (by simp[hb])) (fun z s3 h3=>?_) fun z0 z0 x=>x
 obtain⟨hz,k3⟩:=h3
 simp only [vRb]at hz;subst hz
 exact wpAny_truthy_bool ⟨ρ2,H2,G2,hq,F2.keep k3.k,hs2,R2.keep k3.k,S2.trans (.kp R2 k3)⟩
noncomputable def fP (W:Wp AV) (f:PF):Wp AV:=fun Q=>W fun v ρ H=>∃ i r,f ρ H=some i/\idx H v i=some r/\r.sto=true/\Q r ρ H
end
end Mine
end
section
namespace Mine
section
variable {C:Cx} {k:Nat} {sc:Sc} {f f':PF} {K:Frag} {ts ni:Addr}
noncomputable def notC (c:CF):CF:=fun ρ H=>(c ρ H).map (!·)
theorem TestE.notC {x:Expr}{pos:Pos}{c:CF}(h:TestE C k sc x c):TestE C k sc (.UnaryOp .Not x pos) (Mine.notC c):=TestE.not h
noncomputable def neG (H:AH) (u v:AV):Option Bool:=(eqV H u v).map (!·)
theorem CmpR.neG:CmpR C k .NotEq Mine.neG:=CmpR.ne
noncomputable def isG (H:AH) (u v:AV):Option Bool:=match v with
 | .none=>isN u
 | _=>none
noncomputable def isNotG (H:AH) (u v:AV):Option Bool:=match v with
 | .none=>(isN u).map (!·)
 | _=>none
theorem CmpR.isG:CmpR C k .Is Mine.isG:=CmpR.is
theorem CmpR.isNotG:CmpR C k .IsNot Mine.isNotG:=CmpR.isNot
noncomputable def gtG:AH->AV->AV->Option Bool:=Vr fun a b=>decide (b < a)
theorem CmpR.gtG:CmpR C k .Gt Mine.gtG:=CmpR.gtI
theorem PureE.getA {o:Expr}{name:Str}{pos:Pos}{ga:AH->AV->Option AV}(hga:GetAR C k name ga)(ho:PureE C k sc o f)(hbase:∀ env,attributeBase o name env (eval o env)=eval o env:=by intro _;rfl):PureE C k sc (.Attribute o name pos) (Aq ga f):=by
 intro A env s ρ H G O r hA F R hr
 obtain⟨v,hv,hg⟩:=Vv hr
 rw[arm_eval_Attribute,hbase env]
 refine wpAny_bind (wpAny_mono (ho A env s ρ H G O v hA F R hv) (fun x s1 h1=>?_) fun z0 z0 x=>x)
 obtain⟨rx,k1⟩:=h1
 have R1:=R.keep k1.k
 refine wpAny_bind (wpAny_standAt (wpAny_bind (wpAny_holding (hga A s1 H G O v r x true _ hA R1 rx hg fun y hy=>?_))))
 exact wpAny_bind (wpAny_letTemporaryGo (wpAny_pure ⟨hy,k1.trans' .tok⟩))
noncomputable def gl (K:Frag) (x:Str):Option (Option Value):=(K.lookup 3).bind (lookIn x)
structure Env0 (C:Cx) (K:Frag) (ts ni:Addr):Prop where
 hK:K.In C.h0
 hts:C.tsC=ts
 hni:C.niC=ni
 hb:∀ x:Str,x ≠ "__name__"->C.mb x=bootBuiltins x
theorem Env0.glob (E:Env0 C K ts ni){x:Str}{v:Option Value}(h:gl K x=some v):C.mg x=v:=by
 unfold gl at h
 obtain⟨o,ho,h⟩:=Option.bind_eq_some_iff.mp h
 have h1:=E.hK 3 o ho
 obtain⟨od,hod,hl⟩:=Gp C.ns
 have:od=o:=by
  have e:C.h0.get? 3=some od:=hod
  rw[e]at h1;clear E e h hl ho hod;obtain rfl:=Option.some.inj h1;rfl
 clear E h1 ho hod;subst this
 rw[hl x]at h
 exact Option.some.inj h
theorem Env0.bi (E:Env0 C K ts ni) {x:Str} {v:Value} (h:bootBuiltins x=some v) (hx:(x == ("__name__":Str))=false:=by decide +kernel):C.mb x=some v:=by
 rw[E.hb x (fun e=>by rw[e]at hx;simp at hx)];exact h
noncomputable def Ej (K:Frag) (a:Addr):Option FuncData:=match K.lookup a with
 | some o=>match o.data with
  | .func fd=>some fd
  | _=>none
 | none=>none
noncomputable def Zn (K:Frag) (fd:FuncData):Bool:=match fd.code with
 | .ref c=>match K.lookup c with
  | some o=>match o.data with
   | .fields (vs:Array Value)=>match (vs[1]?:Option Value) with
    | some (.str q _)=>q == fd.qualname
    | _=>false
   | _=>false
  | none=>false
 | _=>false
noncomputable def Bz (K:Frag) (a:Addr):List Stmt:=match Ej K a with
 | some fd=>match fd.body with
  | .stmts b=>b
  | _=>[]
 | none=>[]
noncomputable def Ll (K:Frag) (a:Addr):Scope:=match Ej K a with
 | some fd=>fd.scope
 | none=>default
noncomputable def gZ (K:Frag) (a:Addr):Bool:=match Ej K a with
 | some fd=>Zn K fd && (match fd.body with | .stmts _=>true | _=>false) && fd.closure.isEmpty && fd.globals == mainGlobals && fd.builtins == builtinsNs && !fd.scope.isCoroutine && !fd.scope.isGenerator
 | none=>false
theorem Jv {a:Addr}{fd:FuncData}(h:Ej K a=some fd):∃ o,K.lookup a=some o/\o.data = .func fd:=by
 unfold Ej at h
 generalize K.lookup a=w at h
 cases w with
 | none=>exact nqa h
 | some o =>
  dsimp only at h
  generalize hd:o.data=d at h
  refine⟨o,rfl,hd.trans ?_⟩
  clear hd;revert h
  cases d <;> first | exact nqa | exact fun h=>congrArg _ (Option.some.inj h)
theorem CallR.fnK {a:Addr}{fd:FuncData}{params:List Str}{b:List AV->Option (List AV)}{T:Wp AFlow}(E:Env0 C K ts ni)(hf:Ej K a=some fd)(hok:gZ K a=true)(hsc:Za (Ll K a) sc params=true)(hkind:(Ll K a).kind = .function)
  (hbind:BindR C fd params b) (hT:StmtsR C k sc (Bz K a) T):CallR C (k + 1) (.ref a) (Bi b T):=by
 obtain⟨o,ho,hd⟩:=Jv hf
 simp only [gZ,hf,Bool.and_eq_true]at hok
 obtain⟨⟨⟨⟨⟨⟨h1,h2⟩,h3⟩,h4⟩,h5⟩,h6⟩,h7⟩:=hok
 have hS:Ll K a=fd.scope:=by simp[Ll,hf]
 rw[hS]at hsc hkind
 have hB:∃ bd,fd.body = .stmts bd/\Bz K a=bd:=by
  cases hbb:fd.body with
  | stmts bd=>exact⟨bd,rfl,by simp[Bz,hf,hbb]⟩
  | _=>rw[hbb]at h2;exact nqd h2
 obtain⟨bd,hb1,hb2⟩:=hB
 rw[hb2]at hT
 refine CallR.fn (E.hK a o ho) hd ?_ hb1 (by simpa using h3) (by simpa using h4) (by simpa using h5) (FnSc.of hkind hsc) hbind hT (by simpa using h6) (by simpa using h7)
 unfold Zn at h1
 revert h1
 generalize hc:fd.code=w
 set_option tactic.hygienic true in cases w <;> first | exact nqd | skip
 rename_i c
 dsimp only
 generalize hoc:K.lookup c=w
 cases w with
 | none=>exact nqd
 | some oc =>
  dsimp only
  generalize hv:oc.data=w
  set_option tactic.hygienic true in cases w <;> first | exact nqd | skip
  rename_i vs
  dsimp only
  generalize hq:vs[1]? = w
  cases w with
  | none=>exact nqd
  | some w =>
   set_option tactic.hygienic true in cases w <;> first | exact nqd | skip
   rename_i q t
   exact fun h1=>⟨c,oc,vs,t,rfl,E.hK c oc hoc,hv,by rw[hq];simpa using h1⟩
theorem Dw {α:Type}{xs:List α}{n:Nat}(h:xs.length=n + 1):∃ x r,xs=x :: r/\r.length=n:=by
 cases xs with
 | nil=>exact Nat.noConfusion h
 | cons x r=>exact⟨x,r,rfl,Nat.succ.inj h⟩
theorem BindR.p1 {fd:FuncData}{p0:Str}(h:∀ x0:Value,bindArgs fd ⟨[x0],[]⟩=pure [(p0,x0)]):BindR C fd [p0] (Dx 1):=BindR.plain fun xs hl=>by
 obtain⟨x0,r0,rfl,h0⟩:=Dw hl
 clear hl;obtain rfl:=List.length_eq_zero_iff.mp h0
 exact h x0
theorem BindR.p2 {fd:FuncData}{p0 p1:Str}(h:∀ x0 x1:Value,bindArgs fd ⟨[x0,x1],[]⟩=pure [(p0,x0),(p1,x1)]):BindR C fd [p0,p1] (Dx 2):=BindR.plain fun xs hl=>by
 obtain⟨x0,r0,rfl,h0⟩:=Dw hl
 clear hl;obtain⟨x1,r1,rfl,h1⟩:=Dw h0
 obtain rfl:=List.length_eq_zero_iff.mp h1
 exact h x0 x1
theorem BindR.p3 {fd:FuncData}{p0 p1 p2:Str}(h:∀ x0 x1 x2:Value,bindArgs fd ⟨[x0,x1,x2],[]⟩=pure [(p0,x0),(p1,x1),(p2,x2)]):BindR C fd [p0,p1,p2] (Dx 3):=BindR.plain fun xs hl=>by
 obtain⟨x0,r0,rfl,h0⟩:=Dw hl
 clear hl;obtain⟨x1,r1,rfl,h1⟩:=Dw h0
 obtain⟨x2,r2,rfl,h2⟩:=Dw h1
 obtain rfl:=List.length_eq_zero_iff.mp h2
 exact h x0 x1 x2
end
end Mine
end
section
namespace Mine
theorem mm {α:Type}{l:List α}{x:α}(i:Nat)(h:l[i]? = some x):x ∈ l:=List.mem_of_getElem? h
section
variable {C:Cx} {k:Nat} {sc:Sc} {f f':PF} {K:Frag} {ts ni:Addr}
theorem AOk.le {k k':Nat}{A:Around}(h:AOk k' A)(hk:k<=k'):AOk k A:=by obtain⟨h1,h2,h3⟩:=h;exact⟨h1,by exact Ar.r97 hk h2,by exact Ar.r98 hk h3⟩
theorem CallR.le {k k':Nat}{g:Value}{W:FW}(h:CallR C k g W)(hk:k<=k'):CallR C k' g W:=fun A s H G vs xs Q hA=>h A s H G vs xs Q (hA.le hk)
theorem ImpE.callK {x:Str}{p pos:Pos}{args:List Expr}{fs:LF}{a:Addr}{W:FW}(E:Env0 C K ts ni)(hx:x ∈ sc.globs)(hm:C.mg x=some (.ref a))(hd:(Ej K a).isSome=true)(hargs:ArgsF C k sc args fs)(hf:CallR C k (.ref a) W)
  (hdb:(x == ("__debug__":Str))=false:=by decide):ImpE C k sc (.Call (.Name x p) args [] pos) (Ci fs W):=by
 refine Ac fun PP ret=>?_
 obtain⟨fd,hfd⟩:=Option.isSome_iff_exists.mp hd
 obtain⟨o,ho,hod⟩:=Jv hfd
 refine ret ?_
 exact ImpE.call hx hm (E.hK a o ho) hod hargs hf hdb
noncomputable def dM (W:Wp AV):Wp Bool:=fun Q=>W fun v ρ H=>∃ b,Nn H v=some b/\Q b ρ H
theorem ImpC.truV {e:Expr}{W:Wp AV}(h:ImpE C k sc e W)(ht:∀ (env:Env) (whole:Sem Value),isTrue e env whole=(do let v <- whole;standAt e.pos;holding [v] (truthy v)):=by intros;rfl):ImpC C k sc e (dM W):=ImpC.val h ht
noncomputable def Xx (p:Arguments) (as:List Str) (va:Option Str):Bool:=p.posonlyargs.isEmpty && (p.args.map (·.arg) == as) && (p.vararg.map (·.arg) == va) && p.kwonlyargs.isEmpty && p.kw_defaults.isEmpty && p.kwarg.isNone
theorem Xw {p:Arguments}{as:List Str}{va:Option Str}(h:Xx p as va=true):∃ l v,p={ posonlyargs:=[],args:=l,vararg:=v,kwonlyargs:=[],kw_defaults:=[],kwarg:=none,defaults:=p.defaults }/\l.map (·.arg)=as/\v.map (·.arg)=va:=by
 obtain⟨a,b,c,d,e,f,g⟩:=p
 simp only [Xx,Bool.and_eq_true,List.isEmpty_iff,beq_iff_eq,Option.isNone_iff_eq_none]at h
 obtain⟨⟨⟨⟨⟨h1,h2⟩,h3⟩,h4⟩,h5⟩,h6⟩:=h
 subst h1 h4 h5 h6
 exact⟨b,c,rfl,h2,h3⟩
theorem iT {l:List Arg}{a b:Str}(h:l.map (·.arg)=[a,b]):∃ x z,l=[x,z]/\x.arg=a/\z.arg=b:=by
 refine Ac fun PP ret=>?_
 obtain⟨x,r,rfl,h3⟩:=Dw (n:=1) ((List.length_map (as:=l) (·.arg)).symm.trans (congrArg List.length h))
 obtain⟨z,r,rfl,h4⟩:=Dw (n:=0) h3
 obtain rfl:=List.length_eq_zero_iff.mp h4
 refine ret ?_
 injection h with h1 h2
 injection h2 with h2 h3
 exact⟨x,z,rfl,h1,h2⟩
theorem BindR.dflt1K {fd:FuncData}{a b:Str}{t:Addr}{n:Nat}(E:Env0 C K ts ni)(h:Xx fd.params [a,b] none=true)(h2:fd.defaults = .ref t)(h3:K.lookup t=some (Kz [.none] n))(hne:(b == a)=false):BindR C fd [a,b] Pg:=by
 refine Ac fun PP ret=>?_
 obtain⟨l,w,e,hl,hw⟩:=Xw h
 clear h;obtain rfl:=Option.map_eq_none_iff.mp hw
 obtain⟨x,z,rfl,hl1,hl2⟩:=iT hl
 cases hl1;cases hl2
 refine ret ?_
 exact BindR.dflt1 e h2 (E.hK t _ h3) (by simpa using hne)
end
end Mine
end
section
namespace Mine
noncomputable def Ps:Sc:={ vars:=[("heap",0),("startpos",1),("pos",2),("newitem",3),("parentpos",4),("parent",5)],cel:=[],globs:=[],top:=true }
noncomputable def Ic:Wp AFlow :=
 (Ab (Bj 3 (Am (opP idx (vP 0) (vP 2)))) (Ab (Dy (Az (Aw gtG (vP 2) (vP 1))) (Ab (Bj 4 (Am (opP (iop aY) (opP (iop subI) (vP 2) (cP (.int 1))) (cP (.int 1))))) (Ab (Bj 5 (Am (opP idx (vP 0) (vP 4)))) (Ab (ifT (Az (Aw ltV (vP 3) (vP 5))) (Ab (Nb (Am (vP 5)) (vP 0) (vP 2)) (Ab (Bj 2 (Am (vP 4))) (Ab Zk Ag))) Ag) (Ab Qw Ag)))) Ag) (Ab (Nb (Am (vP 3)) (vP 0) (vP 2)) Ag)))
noncomputable def Dp:FW:=Bi (Dx 3) Ic
noncomputable def Uv:Sc:={ vars:=[("heap",0),("pos",1),("endpos",2),("startpos",3),("newitem",4),("childpos",5),("rightpos",6)],cel:=[],globs:=["len","_siftdown"],top:=true }
noncomputable def Mu:Wp AFlow :=
 (Ab (Bj 2 (Am (bP' Fw (Af (vP 0) Ak)))) (Ab (Bj 3 (Am (vP 1))) (Ab (Bj 4 (Am (opP idx (vP 0) (vP 1)))) (Ab (Bj 5 (Am (opP (iop Fy) (opP (iop Le) (cP (.int 2)) (vP 1)) (cP (.int 1))))) (Ab (Dy (Az (Aw ltV (vP 5) (vP 2))) (Ab (Bj 6 (Am (opP (iop Fy) (vP 5) (cP (.int 1))))) (Ab (ifT (Az (Wj (Aw ltV (vP 6) (vP 2)) (notC (Aw ltV (opP idx (vP 0) (vP 5)) (opP idx (vP 0) (vP 6)))))) (Ab (Bj 5 (Am (vP 6))) Ag) Ag) (Ab (Nb (Am (opP idx (vP 0) (vP 5))) (vP 0) (vP 1)) (Ab (Bj 1 (Am (vP 5))) (Ab (Bj 5 (Am (opP (iop Fy) (opP (iop Le) (cP (.int 2)) (vP 1)) (cP (.int 1))))) Ag))))) Ag) (Ab (Nb (Am (vP 4)) (vP 0) (vP 1)) (Ab (Av (Ci (Af (vP 0) (Af (vP 3) (Af (vP 1) Ak))) Dp)) Ag)))))))
noncomputable def Ek:FW:=Bi (Dx 2) Mu
noncomputable def Pt:Sc:={ vars:=[("heap",0),("item",1)],cel:=[],globs:=["_siftdown","len"],top:=true }
noncomputable def Ie:Wp AFlow :=
 (Ab (Av (Ms (vP 0) (vP 1))) (Ab (Av (Ci (Af (vP 0) (Af (cP (.int 0)) (Af (opP (iop subI) (bP' Fw (Af (vP 0) Ak)) (cP (.int 1))) Ak))) Dp)) Ag))
noncomputable def Co:FW:=Bi (Dx 2) Ie
noncomputable def Rq:Sc:={ vars:=[("heap",0),("lastelt",1),("returnitem",2)],cel:=[],globs:=["_siftup"],top:=true }
noncomputable def Kd:Wp AFlow :=
 (Ab (Bj 1 (gJ (vP 0))) (Ab (ifT (Az (Fz (vP 0))) (Ab (Bj 2 (Am (opP idx (vP 0) (cP (.int 0))))) (Ab (Nb (Am (vP 1)) (vP 0) (cP (.int 0))) (Ab (Av (Ci (Af (vP 0) (Af (cP (.int 0)) Ak)) Ek)) (Ab (Hd (Am (vP 2))) Ag)))) Ag) (Ab (Hd (Am (vP 1))) Ag)))
noncomputable def Dq:FW:=Bi (Dx 1) Kd
noncomputable def Rs:Sc:={ vars:=[("x",0),("n",1),("i",2)],cel:=[],globs:=["len","reversed","range","_siftup"],top:=true }
noncomputable def Ke:Wp AFlow :=
 (Ab (Bj 1 (Am (bP' Fw (Af (vP 0) Ak)))) (Ab (Ib (bF (Af (opP (iop Hm) (vP 1) (cP (.int 2))) Ak)) (.one 2) (Ab (Av (Ci (Af (vP 0) (Af (vP 2) Ak)) Ek)) Ag)) Ag))
noncomputable def Gy:FW:=Bi (Dx 1) Ke
noncomputable def Rp:Sc:={ vars:=[("self",0),("node",1)],cel:=[],globs:=[],top:=true }
noncomputable def Kc (C:Cx):Wp AFlow :=
 (Ab (Fh (Ha C 0) (Am (vP 1)) (vP 0)) (Ab (Fh (Ha C 1) (Am (cP (.int 0))) (vP 0)) (Ab (Fh (Ha C 2) (Eh (Ec Ak)) (vP 0)) Ag)))
noncomputable def Gx (C:Cx):FW:=Bi (Dx 2) (Kc C)
noncomputable def El (C:Cx):FW:=eE (.slots C.niC []) (Gx C)
noncomputable def Hs:Sc:={ vars:=[("self",0),("node",1),("result",2)],cel:=[],globs:=["_NodeInfo"],top:=true }
noncomputable def Cb (C:Cx):Wp AFlow :=
 (Ab (ifT (dH 2 (opP Ku (Aq (attrD C "_node2info") (vP 0)) (vP 1))) (Ab (Zf (Ci (Af (vP 1) Ak) (El C)) (Aq (attrD C "_node2info") (vP 0)) (vP 1) 2) Ag) Ag) (Ab (Hd (Am (vP 2))) Ag))
noncomputable def An (C:Cx):FW:=Bi (Dx 2) (Cb C)
noncomputable def Uu:Sc:={ vars:=[("self",0),("node",1),("predecessors",2),("nodeinfo",3),("pred",4),("pred_info",5)],cel:=[],globs:=["len"],top:=true }
noncomputable def Mt (C:Cx):Wp AFlow :=
 (Ab (ifT (Az (Aw isNotG (Aq (attrD C "_ready_nodes") (vP 0)) (cP .none))) noT Ag) (Ab (Bj 3 (Bv C "_get_nodeinfo" (vP 0) (Af (vP 1) Ak) (An C))) (Ab (Jc (attrS C 1) (Ha C 1) (vP 3) (bP' Fw (Af (vP 2) Ak)) (iop Fy)) (Ab (Ib (Ix (vP 2)) (.one 4) (Ab (Bj 5 (Bv C "_get_nodeinfo" (vP 0) (Af (vP 4) Ak) (An C))) (Ab (Av (Ms (Aq (attrS C 2) (vP 5)) (vP 1))) Ag))) Ag))))
noncomputable def Jd (C:Cx):FW:=Bi (Kv 2) (Mt C)
noncomputable def Rn:Sc:={ vars:=[("self",0),("graph",1),("node",2),("predecessors",3)],cel:=[],globs:=[],top:=true }
noncomputable def Ka (C:Cx):Wp AFlow :=
 (Ab (Fh (Il C "_node2info") (Eh fF) (vP 0)) (Ab (Fh (Il C "_ready_nodes") (Am (cP .none)) (vP 0)) (Ab (Fh (Il C "_npassedout") (Am (cP (.int 0))) (vP 0)) (Ab (Fh (Il C "_nfinished") (Am (cP (.int 0))) (vP 0)) (Ab (ifT (Az (Aw isNotG (vP 1) (cP .none))) noT Ag) Ag)))))
noncomputable def Jy (C:Cx):FW:=Bi Pg (Ka C)
noncomputable def Bg (C:Cx):FW:=eE (.inst C.tsC []) (Jy C)
noncomputable def Jo:Sc:={ vars:=[("self",0),("n2i",1),("stack",2),("itstack",3),("seen",4),("node2stacki",5),("node",6)],cel:=[],globs:=["set","iter","len","StopIteration"],top:=true }
noncomputable def Eb (C:Cx):Wp AFlow :=
 (Ab (Bj 1 (Am (Aq (attrD C "_node2info") (vP 0)))) (Ab (Bj 2 (Eh (Ec Ak))) (Ab (Bj 3 (Eh (Ec Ak))) (Ab (Bj 4 (Eh set0)) (Ab (Bj 5 (Eh fF)) (Ab (Tt (Ib (bQ (vP 1)) (.one 6) (Ab (ifT (Az (Aw inV (vP 6) (vP 4))) (Ab Zk Ag) Ag) (Ab (Dy (Az (Fz (cP (.bool true)))) (Ab (ifT (Az (Aw inV (vP 6) (vP 4))) (Ab (ifT (Az (Aw inV (vP 6) (vP 5))) noT Ag) Ag) (Ab (Av (Ti (vP 4) (vP 6))) (Ab (Av (Rb (vP 3) (Eh (Vg (Aq (attrS C 2) (opP idx (vP 1) (vP 6))))))) (Ab (Uc (Am (bP' Fw (Af (vP 2) Ak))) (vP 5) (vP 6)) (Ab (Av (Ms (vP 2) (vP 6))) Ag))))) (Ab (Dy (Az (Fz (vP 2))) (Ab (Rj 3 2 5 6) Ag) (Ab Qw Ag)) Ag)) Ag) Ag)))) (Ab (Hd (Am (cP .none))) Ag)))))))
noncomputable def Cn (C:Cx):FW:=Bi (Dx 1) (Eb C)
noncomputable def Nc:Sc:={ vars:=[("self",0),("cycle",1)],cel:=[],globs:=[],top:=true }
noncomputable def Jn:Sc:={ vars:=[("i",2)],cel:=[],globs:=[],top:=false }
noncomputable def Fg (C:Cx):Wp AFlow :=
 (Ab (ifT (Az (Aw isNotG (Aq (attrD C "_ready_nodes") (vP 0)) (cP .none))) noT Ag) (Ab (Fh (Il C "_ready_nodes") (Eh (Fr (Ui (Aq (attrD C "_node2info") (vP 0))) (.one 2) (Aw eqV (Aq (attrS C 1) (vP 2)) (cP (.int 0))) (Fx (Aq (attrS C 0) (vP 2))) (.lst false []))) (vP 0)) (Ab (Bj 1 (Bv C "_find_cycle" (vP 0) Ak (Cn C))) (Ab (ifT (Az (Fz (vP 1))) noT Ag) Ag))))
noncomputable def Ee (C:Cx):FW:=Bi (Dx 1) (Fg C)
noncomputable def Ld:Sc:={ vars:=[("self",0),("result",1),("n2i",2),("node",3)],cel:=[],globs:=["tuple","_NODE_OUT","len"],top:=true }
noncomputable def En (C:Cx):Wp AFlow :=
 (Ab (ifT (Az (Aw isG (Aq (attrD C "_ready_nodes") (vP 0)) (cP .none))) noT Ag) (Ab (Bj 1 (Am (bP' Oj (Af (Aq (attrD C "_ready_nodes") (vP 0)) Ak)))) (Ab (Bj 2 (Am (Aq (attrD C "_node2info") (vP 0)))) (Ab (Ib (Ix (vP 1)) (.one 3) (Ab (Fh (Ha C 1) (Am (cP (.int (-1)))) (opP idx (vP 2) (vP 3))) Ag)) (Ab (Av (Pe (Aq (attrD C "_ready_nodes") (vP 0)))) (Ab (Jc (attrD C "_npassedout") (Il C "_npassedout") (vP 0) (bP' Fw (Af (vP 1) Ak)) (iop Fy)) (Ab (Hd (Am (vP 1))) Ag)))))))
noncomputable def Dg (C:Cx):FW:=Bi (Dx 1) (En C)
noncomputable def Lc:Sc:={ vars:=[("self",0)],cel:=[],globs:=["bool"],top:=true }
noncomputable def Em (C:Cx):Wp AFlow :=
 (Ab (ifT (Az (Aw isG (Aq (attrD C "_ready_nodes") (vP 0)) (cP .none))) noT Ag) (Ab (Hd (Uf true (Am (bP (Aw ltV (Aq (attrD C "_nfinished") (vP 0)) (Aq (attrD C "_npassedout") (vP 0))))) (Am (bP' Ug (Af (Aq (attrD C "_ready_nodes") (vP 0)) Ak))))) Ag))
noncomputable def Df (C:Cx):FW:=Bi (Dx 1) (Em C)
noncomputable def Ro:Sc:={ vars:=[("self",0),("nodes",1),("n2i",2),("node",3),("nodeinfo",4),("stat",5),("successor",6),("successor_info",7)],cel:=[],globs:=["_NODE_OUT","_NODE_DONE"],top:=true }
noncomputable def Kb (C:Cx):Wp AFlow :=
 (Ab (ifT (Az (Aw isG (Aq (attrD C "_ready_nodes") (vP 0)) (cP .none))) noT Ag) (Ab (Bj 2 (Am (Aq (attrD C "_node2info") (vP 0)))) (Ab (Ib (Ix (vP 1)) (.one 3) (Ab (ifT (dH 4 (opP Ku (vP 2) (vP 3))) noT Ag) (Ab (Bj 5 (Am (Aq (attrS C 1) (vP 4)))) (Ab (ifT (Az (Aw neG (vP 5) (cP (.int (-1))))) noT Ag) (Ab (Fh (Ha C 1) (Am (cP (.int (-2)))) (vP 4)) (Ab (Tt (Ib (Ix (Aq (attrS C 2) (vP 4))) (.one 6) (Ab (Bj 7 (Am (opP idx (vP 2) (vP 6)))) (Ab (Jc (attrS C 1) (Ha C 1) (vP 7) (cP (.int 1)) (iop subI)) (Ab (ifT (Az (Aw eqV (Aq (attrS C 1) (vP 7)) (cP (.int 0)))) (Ab (Av (Ms (Aq (attrD C "_ready_nodes") (vP 0)) (vP 6))) Ag) Ag) Ag))))) (Ab (Jc (attrD C "_nfinished") (Il C "_nfinished") (vP 0) (cP (.int 1)) (iop Fy)) Ag))))))) Ag)))
noncomputable def Gw (C:Cx):FW:=Bi (Kv 1) (Kb C)
end Mine
end
section
namespace Mine
section
variable {α:Type}
noncomputable def sdF [Inhabited α] (lt:α->α->Bool) (sp:Nat) (item:α) (xs:List α) (pos:Nat):List α :=
 if h:sp < pos then
  if lt item (xs.getD ((pos - 1) / 2) default) then sdF lt sp item (xs.set pos (xs.getD ((pos - 1) / 2) default)) ((pos - 1) / 2)
  else xs.set pos item
 else xs.set pos item
termination_by pos
decreasing_by exact Ar.r196 h
noncomputable def suF [Inhabited α] (lt:α->α->Bool) (xs:List α) (pos:Nat):List α × Nat :=
 if h:2 * pos + 1 < xs.length then
  if 2 * pos + 2 < xs.length/\lt (xs.getD (2 * pos + 1) default) (xs.getD (2 * pos + 2) default)=false then suF lt (xs.set pos (xs.getD (2 * pos + 2) default)) (2 * pos + 2)
  else suF lt (xs.set pos (xs.getD (2 * pos + 1) default)) (2 * pos + 1)
 else (xs,pos)
termination_by xs.length - pos
decreasing_by all_goals (simp only [List.length_set];lia)
noncomputable def Ap [Inhabited α] (lt:α->α->Bool) (xs:List α) (pos:Nat):List α :=
 sdF lt pos (xs.getD pos default) ((suF lt xs pos).1.set (suF lt xs pos).2 (xs.getD pos default)) (suF lt xs pos).2
noncomputable def Ly [Inhabited α] (lt:α->α->Bool) (xs:List α) (x:α):List α:=sdF lt 0 x (xs++[x]) xs.length
noncomputable def Bn [Inhabited α] (lt:α->α->Bool) (xs:List α):α × List α :=
 match xs.dropLast with
 | []=>(xs.getLastD default,[])
 | y :: ys=>(y,Ap lt (xs.getLastD default :: ys) 0)
noncomputable def Bm [Inhabited α] (lt:α->α->Bool) (xs:List α):List α:=((List.range (xs.length / 2)).reverse).foldl (fun l i=>Ap lt l i) xs
theorem Rm [Inhabited α]{lt:α->α->Bool}{sp item}:∀ (pos:Nat) (xs:List α),(sdF lt sp item xs pos).length=xs.length:=by
 intro pos
 induction pos using Nat.strongRecOn with
 | ind pos ih =>
  intro xs
  unfold sdF
  set_option tactic.hygienic true in split
  ·set_option tactic.hygienic true in split
   ·rw[ih _ (by exact Ar.r196 (by assumption))];simp
   ·simp
  ·simp
theorem Hq [Inhabited α]{lt:α->α->Bool}:∀ (n:Nat) (xs:List α) (pos:Nat),xs.length - pos=n->(suF lt xs pos).1.length=xs.length:=by
 intro n
 induction n using Nat.strongRecOn with
 | ind n ih =>
  intro xs pos hn
  unfold suF
  set_option tactic.hygienic true in split
  ·set_option tactic.hygienic true in split
   ·rw[ih _ (by rw[<- hn,List.length_set];exact Ar.r132 (by assumption)) _ _ rfl];simp
   ·rw[ih _ (by rw[<- hn,List.length_set];exact Ar.r131 (by assumption)) _ _ rfl];simp
  ·rfl
end
noncomputable def AV.isVal:AV->Bool
 | .int _=>true
 | .str _=>true
 | .tup _=>true
 | .fl _=>true
 | _=>false
theorem bL {H:AH}{u v:AV}(hu:u.isVal=true)(hv:v.isVal=true):ltV H u v=ltA 7 u v:=by
 set_option tactic.hygienic true in cases u <;> first | exact nqd hu | (cases v <;> first | exact nqd hv | rfl)
structure Emb (α:Type) where
 e:α->AV
 lt:α->α->Bool
 hlt:∀ x y,ltA 7 (e x) (e y)=some (lt x y)
 val:∀ x,(e x).isVal=true
 sto:∀ x,(e x).sto=true
theorem Emb.ne {α:Type}(M:Emb α)(x:α):M.e x ≠ .undef:=by intro h;have:=M.val x;rw[h]at this;exact nqd this
structure EmbA (H:AH) (a:Addr) (α:Type) where
 e:α->AV
 lt:α->α->Bool
 cmp:∀ (o:AObj) x y,ltV (upd H a o) (e x) (e y)=some (lt x y)
 ne:∀ x,e x ≠ .undef
 sto:∀ x,(e x).sto=true
theorem Cw {H:AH}{a:Addr}{o o':AObj}:upd (upd H a o) a o' = upd H a o':=by funext b;unfold upd;set_option tactic.hygienic true in split <;> rfl
noncomputable def Emb.at {α:Type} (M:Emb α) (H:AH) (a:Addr):EmbA H a α:=⟨M.e,M.lt,fun _ x y=>(bL (M.val x) (M.val y)).trans (M.hlt x y),M.ne,M.sto⟩
noncomputable def EmbA.on {α:Type} {H:AH} {a:Addr} (M:EmbA H a α) (o:AObj):EmbA (upd H a o) a α:=⟨M.e,M.lt,fun o' x y=>by rw[Cw];exact M.cmp o' x y,M.ne,M.sto⟩
theorem EmbA.stos {α:Type}{H:AH}{a:Addr}(M:EmbA H a α)(xs:List α):AV.stos (xs.map M.e)=true:=by rw[stos_iff];intro v hv;obtain⟨x,_,rfl⟩:=List.mem_map.mp hv;exact M.sto x
theorem Mz {α:Type}{H0:AH}{a0:Addr}(M:EmbA H0 a0 α){i:Nat}{ρ:Rho}{H:AH}{x:α}(h:ρ i=M.e x):vP i ρ H=some (M.e x):=by
 unfold vP;rw[h]
 have:=M.ne x
 set_option tactic.hygienic true in split
 ·rename_i q;exact absurd q this
 ·rfl
theorem Ah {i:Nat}{ρ:Rho}{H:AH}{x:Int}(h:ρ i = .int x):vP i ρ H=some (.int x):=by unfold vP;rw[h]
theorem Ae {i:Nat}{ρ:Rho}{H:AH}{x:Addr}(h:ρ i = .ref x):vP i ρ H=some (.ref x):=by unfold vP;rw[h]
theorem Yu {vs:List AV}{i:Nat}(h:i < vs.length):Js vs (i:Int)=some vs[i]:=by
 unfold Js
 have:seqIndex? (i:Int) vs.length=some i:=by
  unfold seqIndex?
  simp only [show ¬ ((i:Int) < 0) by exact Ar.r255,if_false]
  rw[if_pos (by simp;exact Ar.r194 h)]
  simp
 simp[this,h]
theorem Et {H:AH}{a:Addr}{lk:Bool}{vs:List AV}{i:Nat}(ha:H a=some (.f (.lst lk vs)))(h:i < vs.length):idx H (.ref a) (.int i)=some vs[i]:=by
 simp only [Yt,ha];exact Yu h
theorem Ev {H:AH}{a:Addr}{vs:List AV}{i:Nat}{v:AV}(ha:H a=some (.f (.lst false vs)))(h:i < vs.length)(hv:v.sto=true):Xh H (.ref a) (.int i) v=some (upd H a (.f (.lst false (vs.set i v)))):=by
 unfold Xh Xk;simp only [ha]
 rw[if_pos ⟨by exact Ar.r254,by lia,hv⟩];simp
theorem Lq {H:AH}{a:Addr}{o:AObj}(h:H a=some o):upd H a o=H:=by
 funext b;unfold upd;set_option tactic.hygienic true in split
 ·rename_i e;rw[e,h]
 ·rfl
section
variable {α:Type} [Inhabited α]
inductive SdI {H0:AH} {a0:Addr} (M:EmbA H0 a0 α) (H:AH) (a:Addr) (sp:Nat) (it:α) (r:List α) (p:Nat) (ρ:Rho) (H':AH):Prop
 | mk (ys:List α) (h0:ρ 0 = .ref a) (h1:ρ 1 = .int sp) (h2:ρ 2 = .int p) (h3:ρ 3=M.e it) (hl:p < ys.length) (hH:H' = upd H a (.f (.lst false (ys.map M.e)))) (hs:sdF M.lt sp it ys p=r)
inductive SuI {H0:AH} {a0:Addr} (M:EmbA H0 a0 α) (H:AH) (a:Addr) (pos L:Nat) (it:α) (r:List α × Nat) (n:Nat) (ρ:Rho) (H':AH):Prop
 | mk (ys:List α) (p:Nat) (hn:n=L - p) (h0:ρ 0 = .ref a) (h1:ρ 1 = .int p) (h2:ρ 2 = .int L) (h3:ρ 3 = .int pos) (h4:ρ 4=M.e it) (h5:ρ 5 = .int ((2 * p + 1:Nat))) (hp:p < L) (hl:ys.length=L) (hH:H' = upd H a (.f (.lst false (ys.map M.e)))) (hs:suF M.lt ys p=r)
theorem Ga {H:AH}{a:Addr}(M:EmbA H a α){xs:List α}{sp pos:Nat}{Q:AV->AH->Prop}(ha:H a=some (.f (.lst false (xs.map M.e))))(hp:pos < xs.length)
  (hQ:Q .none (upd H a (.f (.lst false ((sdF M.lt sp (xs.getD pos default) xs pos).map M.e))))):Dp [.ref a,.int sp,.int pos] Q H:=by
 unfold Dp Bi
 refine⟨_,rfl,?_⟩
 unfold Ic
 have hge:∀ (ys:List α) (i:Nat) (h:i < ys.length),(ys.map M.e)[i]'(by simpa using h)=M.e (ys.getD i default):=fun ys i h=>by simp[List.getD,h]
 refine⟨M.e (xs.getD pos default),?_,M.sto _,?_⟩
 ·simp only [opP,Ae (i:=0) (ρ:=fun i=>([.ref a,.int sp,.int pos]:List AV).getD i .undef) rfl,Ah (i:=2) (ρ:=fun i=>([.ref a,.int sp,.int pos]:List AV).getD i .undef) (x:=pos) rfl]
  rw[Et ha (by simpa using hp),hge xs pos hp]
 ·refine(?_:Dy _ _ _ _ _ _)
  refine⟨SdI M H a sp (xs.getD pos default) (sdF M.lt sp (xs.getD pos default) xs pos),pos,⟨xs,rfl,rfl,rfl,by simp,hp,(Lq ha).symm,rfl⟩,?_⟩
  rintro p ρ H' ⟨ys,h0,h1,h2,h3,hpl,rfl,hsd⟩
  have hH:(upd H a (.f (.lst false (ys.map M.e)))) a=some (.f (.lst false (ys.map M.e))):=Ad
  by_cases hlt:sp < p
  ·refine⟨true,?_,?_⟩
   ·simp only [Aw,Ah h1,Ah h2,gtG,Vr];simp[hlt]
   ·simp only [if_true]
    have hpp:(p - 1) / 2 < ys.length:=by exact Ar.r195 hpl
    refine⟨.int (((p - 1) / 2:Nat)),?_,rfl,?_⟩
    ·simp only [opP,Ah h2,cP,iop,subI,aY]
     simp
     lia
    ·refine⟨M.e (ys.getD ((p - 1) / 2) default),?_,M.sto _,?_⟩
     ·simp only [opP,Ae (i:=0) (ρ:=ρ.set 4 (.int (((p - 1) / 2:Nat)))) (x:=a) (by simp[Rho.set,h0]),Ah (i:=4) (ρ:=ρ.set 4 (.int (((p - 1) / 2:Nat)))) (x:=((p - 1) / 2:Nat)) (by simp)]
      rw[Et hH (by simpa using hpp),hge ys _ hpp]
     ·refine⟨M.lt (xs.getD pos default) (ys.getD ((p - 1) / 2) default),?_,?_⟩
      ·simp only [Aw,Mz M (i:=3) (ρ:=(ρ.set 4 (.int (((p - 1) / 2:Nat)))).set 5 (M.e (ys.getD ((p - 1) / 2) default))) (x:=xs.getD pos default) (by simp[Rho.set,h3]),Mz M (i:=5) (ρ:=(ρ.set 4 (.int (((p - 1) / 2:Nat)))).set 5 (M.e (ys.getD ((p - 1) / 2) default))) (x:=ys.getD ((p - 1) / 2) default) (by simp)]
       rw[M.cmp]
      ·dsimp only
       set_option tactic.hygienic true in split
       ·rename_i hl
        refine⟨M.e (ys.getD ((p - 1) / 2) default),Mz M (by simp),M.sto _,.ref a,.int p,_,Ae (by simp[Rho.set,h0]),Ah (by simp[Rho.set,h2]),Ev hH (by simpa using hpl) (M.sto _),?_⟩
        refine⟨.int (((p - 1) / 2:Nat)),Ah (by simp[Rho.set]),rfl,?_⟩
        refine⟨(p - 1) / 2,by exact Ar.r196 hlt,ys.set p (ys.getD ((p - 1) / 2) default),by simp[Rho.set,h0],by simp[Rho.set,h1],by simp,by simp[Rho.set,h3],by simp;exact Ar.r198 hpp,?_,?_⟩
        ·rw[Cw,List.map_set]
        ·rw[<- hsd]
         conv=>rhs;unfold sdF
         rw[dif_pos hlt,if_pos hl]
       ·rename_i hl
        simp only [Ag,Ab,Qw,Nb]
        refine⟨M.e (xs.getD pos default),Mz M (by simp[Rho.set,h3]),M.sto _,.ref a,.int p,_,Ae (by simp[Rho.set,h0]),Ah (by simp[Rho.set,h2]),Ev hH (by simpa using hpl) (M.sto _),?_⟩
        refine(?_:Q .none _)
        rw[Cw]
        have:(ys.map M.e).set p (M.e (xs.getD pos default))=(sdF M.lt sp (xs.getD pos default) xs pos).map M.e:=by
         rw[<- hsd]
         unfold sdF
         have hl':M.lt (xs.getD pos default) (ys.getD ((p - 1) / 2) default)=false:=by simpa using hl
         simp only [hlt,dif_pos,hl',Bool.false_eq_true,if_false]
         rw[List.map_set]
        rw[this];exact hQ
  ·refine⟨false,?_,?_⟩
   ·simp only [Aw,Ah h1,Ah h2,gtG,Vr];simp[hlt]
   ·simp only [Bool.false_eq_true,if_false,Ag,Ab,Nb]
    refine⟨M.e (xs.getD pos default),Mz M h3,M.sto _,.ref a,.int p,_,Ae h0,Ah h2,Ev hH (by simpa using hpl) (M.sto _),?_⟩
    refine(?_:Q .none _)
    rw[Cw]
    have:(ys.map M.e).set p (M.e (xs.getD pos default))=(sdF M.lt sp (xs.getD pos default) xs pos).map M.e:=by
     rw[<- hsd]
     unfold sdF
     simp only [hlt,dif_neg,not_false_eq_true]
     rw[List.map_set]
    rw[this];exact hQ
theorem Jb {H0:AH}{a0:Addr}(M:EmbA H0 a0 α)(ys:List α){i:Nat}(h:i < ys.length):(ys.map M.e)[i]'(by simpa using h)=M.e (ys.getD i default):=by simp[List.getD,h]
theorem Ez {H:AH}{a:Addr}(M:EmbA H a α){xs:List α}{pos:Nat}{Q:AV->AH->Prop}(ha:H a=some (.f (.lst false (xs.map M.e))))(hp:pos < xs.length)(hz:xs.length<=lim)
  (hQ:Q .none (upd H a (.f (.lst false ((Ap M.lt xs pos).map M.e))))):Ek [.ref a,.int pos] Q H:=by
 unfold Ek Bi
 refine⟨_,rfl,?_⟩
 unfold Mu
 generalize hρ:(fun i=>([.ref a,.int pos]:List AV).getD i .undef)=ρ0
 change Rho at ρ0
 have r0:ρ0 0 = .ref a:=by rw[<- hρ];rfl
 have r1:ρ0 1 = .int pos:=by rw[<- hρ];rfl
 refine⟨.int xs.length,?_,rfl,?_⟩
 ·simp only [bP',Af,Ak,Ae r0,Tp,To,ha,Option.map_some,List.length_map]
 refine⟨.int pos,Ah (by simp[Rho.set,r1]),rfl,?_⟩
 refine⟨M.e (xs.getD pos default),?_,M.sto _,?_⟩
 ·simp only [opP,Ae (i:=0) (ρ:=(ρ0.set 2 (.int xs.length)).set 3 (.int pos)) (x:=a) (by simp[Rho.set,r0]),Ah (i:=1) (ρ:=(ρ0.set 2 (.int xs.length)).set 3 (.int pos)) (x:=pos) (by simp[Rho.set,r1])]
  rw[Et ha (by simpa using hp),Jb M xs hp]
 refine⟨.int ((2 * pos + 1:Nat)),?_,rfl,?_⟩
 ·simp only [opP,cP,Ah (i:=1) (ρ:=((ρ0.set 2 (.int xs.length)).set 3 (.int pos)).set 4 (M.e (xs.getD pos default))) (x:=pos) (by simp[Rho.set,r1]),iop,Fy,Le]
  simp
 refine(?_:Dy _ _ _ _ _ _)
 refine⟨SuI M H a pos xs.length (xs.getD pos default) (suF M.lt xs pos),
  xs.length - pos,⟨xs,pos,rfl,by simp[Rho.set,r0],by simp[Rho.set,r1],by simp[Rho.set],by simp[Rho.set],by simp[Rho.set],by simp[Rho.set],hp,rfl,(Lq ha).symm,rfl⟩,?_⟩
 rintro n ρ H' ⟨ys,p,rfl,h0,h1,h2,h3,h4,h5,hpl,hyl,rfl,hsu⟩
 have hH:(upd H a (.f (.lst false (ys.map M.e)))) a=some (.f (.lst false (ys.map M.e))):=Ad
 by_cases hlt:2 * p + 1 < xs.length
 ·refine⟨true,?_,?_⟩
  ·simp only [Aw,Ah h5,Ah h2]
   show some (decide _)=_
   simp only [Option.some.injEq,decide_eq_true_eq];lia
  ·simp only [if_true]
   have hc1:2 * p + 1 < ys.length:=by exact Ar.r35 hyl hlt
   refine⟨.int ((2 * p + 2:Nat)),?_,rfl,?_⟩
   ·simp only [opP,cP,Ah h5,iop,Fy];simp;lia
   -- the choice of the child
   have key:∀ c:Nat,c < ys.length->c > p->suF M.lt (ys.set p (ys.getD c default)) c=suF M.lt xs pos->∀ ρ1:Rho,ρ1 0 = .ref a->ρ1 1 = .int p->ρ1 2 = .int xs.length->ρ1 3 = .int pos->ρ1 4=M.e (xs.getD pos default)->ρ1 5 = .int c ->
     (Ab (Nb (Am (opP idx (vP 0) (vP 5))) (vP 0) (vP 1)) (Ab (Bj 1 (Am (vP 5))) (Ab (Bj 5 (Am (opP (iop Fy) (opP (iop Le) (cP (.int 2)) (vP 1)) (cP (.int 1))))) Ag)))
      (fun f ρ2 H2=>match f with
       | .next=>∃ m,m < xs.length - p/\SuI M H a pos xs.length (xs.getD pos default) (suF M.lt xs pos) m ρ2 H2
       | .cont=>∃ m,m < xs.length - p/\SuI M H a pos xs.length (xs.getD pos default) (suF M.lt xs pos) m ρ2 H2
       | .brk=>(Ab (Nb (Am (vP 4)) (vP 0) (vP 1)) (Ab (Av (Ci (Af (vP 0) (Af (vP 3) (Af (vP 1) Ak))) Dp)) Ag)) (fun fl z0 H'=>match fl with | .ret v=>Q v H' | .next=>Q .none H' | _=>False) ρ2 H2
       | .ret v=>Q v H2) ρ1 (upd H a (.f (.lst false (ys.map M.e)))):=by
    intro c hc hcp hsc ρ1 e0 e1 e2 e3 e4 e5
    refine⟨M.e (ys.getD c default),?_,M.sto _,.ref a,.int p,_,Ae e0,Ah e1,Ev hH (by simp;exact Ar.r186 hc hcp) (M.sto _),?_⟩
    ·simp only [opP,Ae e0,Ah e5]
     rw[Et hH (by simpa using hc),Jb M ys hc]
    refine⟨.int c,Ah e5,rfl,?_⟩
    refine⟨.int ((2 * c + 1:Nat)),?_,rfl,?_⟩
    ·simp only [opP,cP,Ah (i:=1) (ρ:=ρ1.set 1 (.int c)) (x:=c) (by simp),iop,Fy,Le];simp
    refine⟨xs.length - c,by exact Ar.r129 hlt hcp,ys.set p (ys.getD c default),c,rfl,by simp[Rho.set,e0],by simp[Rho.set],by simp[Rho.set,e2],by simp[Rho.set,e3],by simp[Rho.set,e4],by simp,by exact Ar.r37 hyl hc,by simp[hyl],?_,hsc⟩
    rw[Cw,List.map_set]
   have hr0:(ρ.set 6 (.int ((2 * p + 2:Nat)))) 0 = .ref a:=by simp[Rho.set,h0]
   have hr2:(ρ.set 6 (.int ((2 * p + 2:Nat)))) 2 = .int xs.length:=by simp[Rho.set,h2]
   have hr5:(ρ.set 6 (.int ((2 * p + 2:Nat)))) 5 = .int ((2 * p + 1:Nat)):=by simp[Rho.set,h5]
   have hr6:(ρ.set 6 (.int ((2 * p + 2:Nat)))) 6 = .int ((2 * p + 2:Nat)):=by simp
   have t1:∀ H',Aw ltV (vP 6) (vP 2) (ρ.set 6 (.int ((2 * p + 2:Nat)))) H' = some (decide (2 * p + 2 < xs.length)):=fun H'=>by
    simp only [Aw,Ah hr6,Ah hr2]
    show some (decide _)=_
    congr 1
    simp only [decide_eq_decide];exact Ar.r266
   by_cases hr:2 * p + 2 < xs.length
   ·have hc2:2 * p + 2 < ys.length:=by exact Ar.r36 hyl hr
    have t2:notC (Aw ltV (opP idx (vP 0) (vP 5)) (opP idx (vP 0) (vP 6))) (ρ.set 6 (.int ((2 * p + 2:Nat)))) (upd H a (.f (.lst false (ys.map M.e))))=some (!M.lt (ys.getD (2 * p + 1) default) (ys.getD (2 * p + 2) default)):=by
     simp only [notC,Aw,opP,Ae hr0,Ah hr5,Ah hr6]
     rw[Et hH (by simpa using hc1),Et hH (by simpa using hc2),Jb M ys hc1,Jb M ys hc2]
     simp only [M.cmp,Option.map_some]
    cases hl:M.lt (ys.getD (2 * p + 1) default) (ys.getD (2 * p + 2) default) with
    | false =>
     refine⟨true,?_,?_⟩
     ·simp only [Wj,t1,t2,hr,decide_true,hl,Bool.not_false]
     ·simp only [if_true]
      refine⟨.int ((2 * p + 2:Nat)),Ah hr6,rfl,?_⟩
      refine key (2 * p + 2) hc2 (by exact Ar.r215) ?_ _ (by simp[Rho.set,h0]) (by simp[Rho.set,h1]) (by simp[Rho.set,h2]) (by simp[Rho.set,h3]) (by simp[Rho.set,h4]) (by simp)
      rw[<- hsu]
      conv=>rhs;unfold suF
      rw[dif_pos (by exact Ar.r133 hc2),if_pos ⟨by exact Ar.r134 hc2,hl⟩]
    | true =>
     refine⟨false,?_,?_⟩
     ·simp only [Wj,t1,t2,hr,decide_true,hl,Bool.not_true]
     ·simp only [Bool.false_eq_true,if_false]
      refine key (2 * p + 1) hc1 (by exact Ar.r214) ?_ _ (by simp[Rho.set,h0]) (by simp[Rho.set,h1]) (by simp[Rho.set,h2]) (by simp[Rho.set,h3]) (by simp[Rho.set,h4]) (by simp[Rho.set,h5])
      rw[<- hsu]
      conv=>rhs;unfold suF
      rw[dif_pos (by exact Ar.r133 hc2),if_neg (by rw[hl];simp)]
   ·refine⟨false,?_,?_⟩
    ·simp only [Wj,t1,hr,decide_false]
    ·simp only [Bool.false_eq_true,if_false]
     refine key (2 * p + 1) hc1 (by exact Ar.r214) ?_ _ (by simp[Rho.set,h0]) (by simp[Rho.set,h1]) (by simp[Rho.set,h2]) (by simp[Rho.set,h3]) (by simp[Rho.set,h4]) (by simp[Rho.set,h5])
     rw[<- hsu]
     conv=>rhs;unfold suF
     rw[dif_pos (by exact Ar.r130 hc1),if_neg (by lia)]
 ·refine⟨false,?_,?_⟩
  ·simp only [Aw,Ah h5,Ah h2]
   show some (decide _)=_
   simp only [Option.some.injEq,decide_eq_false_iff_not];lia
  ·simp only [Bool.false_eq_true,if_false]
   refine⟨M.e (xs.getD pos default),Mz M h4,M.sto _,.ref a,.int p,_,Ae h0,Ah h1,Ev hH (by simp;exact Ar.r181 hpl hyl) (M.sto _),?_⟩
   refine⟨[.ref a,.int pos,.int p],?_,rfl,?_⟩
   ·simp only [Af,Ak,Ae h0,Ah h3,Ah h1]
   have hfin:suF M.lt xs pos=(ys,p):=by
    rw[<- hsu];unfold suF;rw[dif_neg (by exact Ar.r33 hyl hlt)]
   refine Ga ((M.on _).on _) (xs:=ys.set p (xs.getD pos default)) (by rw[Ad];exact congrArg (fun z=>some (AObj.f (.lst false z))) List.map_set.symm) (by simp;exact Ar.r181 hpl hyl) ?_
   refine(?_:Q .none (upd (upd (upd H a _) a _) a (.f (.lst false ((sdF M.lt pos ((ys.set p (xs.getD pos default)).getD p default) (ys.set p (xs.getD pos default)) p).map M.e)))))
   have:sdF M.lt pos ((ys.set p (xs.getD pos default)).getD p default) (ys.set p (xs.getD pos default)) p=Ap M.lt xs pos:=by
    unfold Ap
    rw[hfin]
    have:(ys.set p (xs.getD pos default)).getD p default=xs.getD pos default:=by simp[List.getD,show p < ys.length by exact Ar.r181 hpl hyl]
    rw[this]
   rw[this,Cw,Cw]
   exact hQ
theorem Ce {lt:α->α->Bool}{xs:List α}{pos:Nat}:(Ap lt xs pos).length=xs.length:=by
 unfold Ap;rw[Rm,List.length_set,Hq _ _ _ rfl]
theorem Mh {H:AH}{a:Addr}(M:EmbA H a α){xs:List α}{x:α}{Q:AV->AH->Prop}(ha:H a=some (.f (.lst false (xs.map M.e))))(hz:xs.length < lim)
  (hQ:Q .none (upd H a (.f (.lst false ((Ly M.lt xs x).map M.e))))):Co [.ref a,M.e x] Q H:=by
 unfold Co Bi
 refine⟨_,rfl,?_⟩
 unfold Ie
 generalize hρ:(fun i=>([.ref a,M.e x]:List AV).getD i .undef)=ρ0
 change Rho at ρ0
 have r0:ρ0 0 = .ref a:=by rw[<- hρ];rfl
 have r1:ρ0 1=M.e x:=by rw[<- hρ];rfl
 have hm:xs.map M.e++[M.e x]=(xs++[x]).map M.e:=by simp
 refine⟨.ref a,xs.map M.e,M.e x,upd H a (.f (.lst false ((xs++[x]).map M.e))),Ae r0,by simp[Dz,Eu,ha],Mz M r1,?_,?_⟩
 ·unfold He;simp only [ha];rw[hm,if_pos ⟨by simp;exact Ar.r188 hz,M.stos _⟩]
 refine⟨[.ref a,.int 0,.int xs.length],?_,rfl,?_⟩
 ·simp only [Af,Ak,Ae r0,cP,opP,bP',Tp,To,Ad,Option.map_some,iop,subI];simp
 refine Ga (M.on _) (sp:=0) (pos:=xs.length) (xs:=xs++[x]) Ad (by simp) ?_
 refine(?_:Q .none (upd (upd H a (.f (.lst false ((xs++[x]).map M.e)))) a (.f (.lst false ((sdF M.lt 0 ((xs++[x]).getD xs.length default) (xs++[x]) xs.length).map M.e)))))
 rw[Cw]
 have:(xs++[x]).getD xs.length default=x:=by simp[List.getD]
 rw[this];exact hQ
theorem Hl {H:AH}{a:Addr}(M:EmbA H a α){xs:List α}{Q:AV->AH->Prop}(ha:H a=some (.f (.lst false (xs.map M.e))))(hz:xs.length<=lim)(hne:xs ≠ [])
  (hQ:Q (M.e (Bn M.lt xs).1) (upd H a (.f (.lst false ((Bn M.lt xs).2.map M.e))))):Dq [.ref a] Q H:=by
 unfold Dq Bi
 refine⟨_,rfl,?_⟩
 unfold Kd
 generalize hρ:(fun i=>([.ref a]:List AV).getD i .undef)=ρ0
 change Rho at ρ0
 have r0:ρ0 0 = .ref a:=by rw[<- hρ];rfl
 have hxs:xs=xs.dropLast++[xs.getLastD default]:=by
  rw[List.getLastD_eq_getLast?,List.getLast?_eq_some_getLast hne];simp[List.dropLast_concat_getLast]
 have hdl:xs.dropLast.length<=lim:=by simp;exact Ar.r105 hz
 refine⟨.ref a,xs.dropLast.map M.e,M.e (xs.getLastD default),upd H a (.f (.lst false (xs.dropLast.map M.e))),Ae r0,?_,M.sto _,?_,?_⟩
 ·simp only [Dz,Eu,ha]
  conv=>lhs;rw[hxs]
  simp
 ·unfold He;simp only [ha];rw[if_pos ⟨by simpa using hdl,M.stos _⟩]
 have rr0:(ρ0.set 1 (M.e (xs.getLastD default))) 0 = .ref a:=by simp[Rho.set,r0]
 have rr1:(ρ0.set 1 (M.e (xs.getLastD default))) 1=M.e (xs.getLastD default):=by simp
 cases hd:xs.dropLast with
 | nil =>
  refine⟨false,?_,?_⟩
  ·simp only [Fz,Ae rr0,Ol,Ad,List.map_nil];rfl
  simp only [Bool.false_eq_true,if_false]
  refine⟨M.e (xs.getLastD default),Mz M rr1,M.sto _,?_⟩
  refine(?_:Q _ _)
  unfold Bn at hQ
  simp only [hd]at hQ
  exact hQ
 | cons y ys =>
  refine⟨true,?_,?_⟩
  ·simp only [Fz,Ae rr0,Ol,Ad,List.map_cons];rfl
  simp only [if_true]
  refine⟨M.e y,?_,M.sto _,?_⟩
  ·simp only [opP,Ae rr0,cP]
   have:=Et (H:=upd H a (.f (.lst false ((y :: ys).map M.e)))) (i:=0) Ad (by simp)
   simpa using this
  refine⟨M.e (xs.getLastD default),Mz M (by simp[Rho.set]),M.sto _,.ref a,.int 0,_,Ae (by simp[Rho.set,r0]),rfl,Ev (i:=0) Ad (by simp) (M.sto _),?_⟩
  refine⟨[.ref a,.int 0],?_,rfl,?_⟩
  ·simp only [Af,Ak,Ae (i:=0) (ρ:=(ρ0.set 1 (M.e (xs.getLastD default))).set 2 (M.e y)) (x:=a) (by simp[Rho.set,r0]),cP]
  refine Ez ((M.on _).on _) (pos:=0) (xs:=xs.getLastD default :: ys) (by rw[Ad];rfl) (by simp) (by rw[hd]at hdl;simpa using hdl) ?_
  refine⟨M.e y,Mz M (by simp),M.sto _,?_⟩
  refine(?_:Q _ _)
  rw[Cw,Cw]
  unfold Bn at hQ
  simp only [hd]at hQ
  exact hQ
theorem Lx (n:Nat):Bs 0 (n:Int) 1=(List.range n).map fun (i:Nat)=>(i:Int):=by
 have:(Builtin.Range.rangeSize 0 (n:Int) 1).toNat=n:=by
  unfold Builtin.Range.rangeSize
  simp only [show (1:Int) > 0 from by decide,if_true,Int.ediv_one]
  set_option tactic.hygienic true in split <;> lia
 unfold Bs
 rw[this]
 congr 1
 funext i;exact Ar.r253
theorem Nq {n:Nat}(h:n<=1000000):Dh 0 (n:Int) 1=true:=by
 have:(Builtin.Range.rangeSize 0 (n:Int) 1).toNat=n:=by
  unfold Builtin.Range.rangeSize
  simp only [show (1:Int) > 0 from by decide,if_true,Int.ediv_one]
  set_option tactic.hygienic true in split <;> lia
 simp only [Dh,this,Bool.and_eq_true,decide_eq_true_eq,Au]
 lia
theorem Ng {H:AH}{a:Addr}(M:EmbA H a α){xs:List α}{Q:AV->AH->Prop}(ha:H a=some (.f (.lst false (xs.map M.e))))(hz:xs.length<=1000000)
  (hQ:Q .none (upd H a (.f (.lst false ((Bm M.lt xs).map M.e))))):Gy [.ref a] Q H:=by
 unfold Gy Bi
 refine⟨_,rfl,?_⟩
 unfold Ke
 generalize hρ:(fun i=>([.ref a]:List AV).getD i .undef)=ρ0
 change Rho at ρ0
 have r0:ρ0 0 = .ref a:=by rw[<- hρ];rfl
 refine⟨.int xs.length,?_,rfl,?_⟩
 ·simp only [bP',Af,Ak,Ae r0,Tp,To,ha,Option.map_some,List.length_map]
 have hz2:xs.length / 2<=1000000:=by exact Ar.r79 hz
 refine⟨(((List.range (xs.length / 2)).reverse).map fun (i:Nat)=>AV.int (i:Int)),?_,?_,?_⟩
 ·have e1:Af (opP (iop Hm) (vP 1) (cP (.int 2))) Ak (ρ0.set 1 (.int xs.length)) H=some [.int ((xs.length / 2:Nat):Int)]:=by
   simp only [Af,Ak,opP,Ah (i:=1) (ρ:=ρ0.set 1 (.int xs.length)) (x:=xs.length) (by simp),cP,iop,Hm]
   simp
  unfold bF
  rw[e1]
  simp only [Nq hz2,if_true,Lx]
  simp[List.map_reverse,Function.comp_def]
 ·rw[stos_iff];intro v hv;obtain⟨i,_,rfl⟩:=List.mem_map.mp hv;rfl
 unfold Bm at hQ
 have hb:∀ i ∈ (List.range (xs.length / 2)).reverse,i < xs.length:=fun i hi=>by simp at hi;exact Ar.r197 hi
 generalize (List.range (xs.length / 2)).reverse=l at hQ hb
 have main:∀ (l:List Nat) (ys:List α) (ρ:Rho) (H':AH),ys.length=xs.length->(∀ i ∈ l,i < xs.length)->ρ 0 = .ref a->H' = upd H a (.f (.lst false (ys.map M.e)))->Q .none (upd H a (.f (.lst false ((l.foldl (fun l i=>Ap M.lt l i) ys).map M.e)))) ->
   Di (.one 2) (Ab (Av (Ci (Af (vP 0) (Af (vP 2) Ak)) Ek)) Ag) (fun f ρ H=>match f with
    | .next=>Ag (fun fl z0 H'=>match fl with | .ret v=>Q v H' | .next=>Q .none H' | _=>False) ρ H
    | f=>(match f with | .ret v=>Q v H | .next=>Q .none H | _=>False)) (l.map fun (i:Nat)=>AV.int (i:Int)) ρ H':=by
  intro l
  induction l with
  | nil=>intro ys ρ H' hl hb h0 hH hq;subst hH;exact hq
  | cons i l ih =>
   intro ys ρ H' hl hb h0 hH hq
   subst hH
   refine⟨ρ.set 2 (.int i),rfl,?_⟩
   refine⟨[.ref a,.int i],?_,rfl,?_⟩
   ·simp only [Af,Ak,Ae (i:=0) (ρ:=ρ.set 2 (.int i)) (x:=a) (by simp[Rho.set,h0]),Ah (i:=2) (ρ:=ρ.set 2 (.int i)) (x:=i) (by simp)]
   refine Ez (M.on _) (xs:=ys) Ad (by have:=hb i (by simp);exact Ar.r38 hl this) (by rw[Au];exact Ar.r78 hz hl) ?_
   refine ih (Ap M.lt ys i) _ _ (by rw[Ce,hl]) (fun j hj=>hb j (by simp[hj])) (by simp[Rho.set,h0]) Cw hq
 exact main l xs _ _ rfl hb (by simp[Rho.set,r0]) (Lq ha).symm hQ
theorem Nf (M:Emb α){H:AH}{a:Addr}{xs:List α}{x:α}{Q:AV->AH->Prop}(ha:H a=some (.f (.lst false (xs.map M.e))))(hz:xs.length < lim)
  (hQ:Q .none (upd H a (.f (.lst false ((Ly M.lt xs x).map M.e))))):Co [.ref a,M.e x] Q H:=Mh (M.at H a) ha hz hQ
theorem Iz (M:Emb α){H:AH}{a:Addr}{xs:List α}{Q:AV->AH->Prop}(ha:H a=some (.f (.lst false (xs.map M.e))))(hz:xs.length<=lim)(hne:xs ≠ [])
  (hQ:Q (M.e (Bn M.lt xs).1) (upd H a (.f (.lst false ((Bn M.lt xs).2.map M.e))))):Dq [.ref a] Q H:=Hl (M.at H a) ha hz hne hQ
end
end Mine
end
section
namespace Mine
section
variable {α:Type} [Inhabited α]
theorem bX (xs:List α)(i j:Nat)(v:α):(xs.set i v).getD j default=if i=j/\i < xs.length then v else xs.getD j default:=by
 simp only [List.getD_eq_getElem?_getD,List.getElem?_set]
 by_cases h:i=j
 ·subst h
  by_cases hl:i < xs.length
  ·simp[hl]
  ·simp[hl]
 ·simp[h]
theorem Cu {xs:List α}{i:Nat}{v:α}(h:i < xs.length):(xs.set i v).getD i default=v:=by rw[bX];simp[h]
theorem Bc {xs:List α}{i j:Nat}{v:α}(h:i ≠ j):(xs.set i v).getD j default=xs.getD j default:=by rw[bX];simp[h]
theorem Jj {xs:List α}{i j:Nat}{v:α}(hi:i < xs.length)(hj:j < xs.length)(hij:i ≠ j):((xs.set i (xs.getD j default)).set j v).Perm (xs.set i v):=by
 have:=List.set_set_perm (as:=xs.set i v) (i:=i) (j:=j) (by simpa using hi) (by simpa using hj)
 have e1:(xs.set i v)[j]'(by simpa using hj)=xs.getD j default:=by
  rw[List.getElem_set_ne hij];simp[List.getD,hj]
 have e2:(xs.set i v)[i]'(by simpa using hi)=v:=by simp
 rw[e1,e2,List.set_set]at this
 exact this
theorem Pq {lt:α->α->Bool}{sp:Nat}{item:α}:∀ (pos:Nat) (xs:List α),pos < xs.length->(sdF lt sp item xs pos).Perm (xs.set pos item):=by
 intro pos
 induction pos using Nat.strongRecOn with
 | ind pos ih =>
  intro xs hp
  unfold sdF
  set_option tactic.hygienic true in split
  ·rename_i hs
   set_option tactic.hygienic true in split
   ·refine(ih _ (by exact Ar.r196 hs) _ (by simp;exact Ar.r195 hp)).trans ?_
    exact Jj hp (by exact Ar.r195 hp) (by exact Ar.r192 hs)
   ·exact .refl _
  ·exact .refl _
theorem dO {lt:α->α->Bool}:∀ (n:Nat) (xs:List α) (pos:Nat),xs.length - pos=n->pos < xs.length->(suF lt xs pos).2 < xs.length:=by
 intro n
 induction n using Nat.strongRecOn with
 | ind n ih =>
  intro xs pos hn hp
  unfold suF
  set_option tactic.hygienic true in split
  ·set_option tactic.hygienic true in split
   ·rename_i h
    have:=ih _ (by rw[<- hn,List.length_set];exact Ar.r132 (by assumption)) (xs.set pos (xs.getD (2 * pos + 2) default)) (2 * pos + 2) rfl (by simpa using h.1)
    simpa using this
   ·have:=ih _ (by rw[<- hn,List.length_set];exact Ar.r131 (by assumption)) (xs.set pos (xs.getD (2 * pos + 1) default)) (2 * pos + 1) rfl (by simp;exact Ar.r130 (by assumption))
    simpa using this
  ·exact hp
theorem Xb {lt:α->α->Bool}{item:α}:∀ (n:Nat) (xs:List α) (pos:Nat),xs.length - pos=n->pos < xs.length->((suF lt xs pos).1.set (suF lt xs pos).2 item).Perm (xs.set pos item):=by
 intro n
 induction n using Nat.strongRecOn with
 | ind n ih =>
  intro xs pos hn hp
  unfold suF
  set_option tactic.hygienic true in split
  ·set_option tactic.hygienic true in split
   ·rename_i h
    refine(ih _ (by rw[<- hn,List.length_set];exact Ar.r132 (by assumption)) _ _ rfl (by simpa using h.1)).trans ?_
    exact Jj hp h.1 (by exact Ar.r209)
   ·rename_i h _
    refine(ih _ (by rw[<- hn,List.length_set];exact Ar.r131 h) _ _ rfl (by simpa using h)).trans ?_
    exact Jj hp h (by exact Ar.r208)
  ·exact .refl _
theorem Na {xs:List α}{i:Nat}(h:i < xs.length):xs.set i (xs.getD i default)=xs:=by
 have:xs.getD i default=xs[i]:=by simp[List.getD,h]
 rw[this];exact List.set_getElem_self h
theorem Ij {lt:α->α->Bool}{xs:List α}{pos:Nat}(hp:pos < xs.length):(Ap lt xs pos).Perm xs:=by
 unfold Ap
 have h1:=dO (lt:=lt) _ xs pos rfl hp
 have h2:=Hq (lt:=lt) _ xs pos rfl
 refine(Pq _ _ (by rw[List.length_set,h2];exact h1)).trans ?_
 rw[List.set_set]
 refine(Xb _ xs pos rfl hp).trans ?_
 rw[Na hp]
theorem pushF_perm {lt:α->α->Bool}{xs:List α}{x:α}:(Ly lt xs x).Perm (x :: xs):=by
 unfold Ly
 refine(Pq _ _ (by simp)).trans ?_
 have:(xs++[x]).set xs.length x=xs++[x]:=by simp[List.set_append]
 rw[this]
 exact List.perm_append_comm
theorem Nr {lt:α->α->Bool}{xs:List α}(hne:xs ≠ []):((Bn lt xs).1 :: (Bn lt xs).2).Perm xs:=by
 have hxs:xs=xs.dropLast++[xs.getLastD default]:=by
  rw[List.getLastD_eq_getLast?,List.getLast?_eq_some_getLast hne];simp[List.dropLast_concat_getLast]
 unfold Bn
 set_option tactic.hygienic true in split
 ·rename_i h
  conv=>rhs;rw[hxs,h]
  exact .refl _
 ·rename_i y ys h
  conv=>rhs;rw[hxs,h]
  refine((Ij (lt:=lt) (xs:=xs.getLastD default :: ys) (pos:=0) (by simp)).cons y).trans ?_
  simp only [List.cons_append]
  refine List.Perm.cons y ?_
  exact(List.perm_append_comm (l₁:=[xs.getLastD default]) (l₂:=ys))
theorem Fo {lt:α->α->Bool}:∀ (l:List Nat) (xs:List α),(∀ i ∈ l,i < xs.length)->(l.foldl (fun l i=>Ap lt l i) xs).Perm xs
 | [],_,_=>.refl _
 | i :: l,xs,h=>by
  have h1:=Ij (lt:=lt) (xs:=xs) (pos:=i) (h i (by simp))
  refine(Fo l (Ap lt xs i) (fun j hj=>by rw[Ce];exact h j (by simp[hj]))).trans h1
theorem Nh {lt:α->α->Bool}{xs:List α}:(Bm lt xs).Perm xs:=Fo _ _ fun i hi=>by simp at hi;exact Ar.r197 hi
structure Ord (lt:α->α->Bool):Prop where
 irr:∀ x,lt x x=false
 tr:∀ x y z,lt x y=true->lt y z=true->lt x z=true
 nt:∀ x y z,lt y x=false->lt z y=false->lt z x=false
theorem Ord.asym {lt:α->α->Bool}(o:Ord lt){x y:α}(h:lt x y=true):lt y x=false:=by
 cases h':lt y x with
 | false=>rfl
 | true=>have:=o.tr x y x h h';rw[o.irr]at this;exact nqd this
theorem Ord.mix {lt:α->α->Bool}(o:Ord lt){x y z:α}(h:lt z y=false)(h':lt x y=true):lt z x=false:=by
 cases h'':lt z x with
 | false=>rfl
 | true=>have:=o.tr z x y h'' h';rw[h]at this;exact nqd this
noncomputable def Ex (lt:α->α->Bool) (s:Nat) (xs:List α):Prop:=∀ i,0 < i->i < xs.length->s<=(i - 1) / 2->lt (xs.getD i default) (xs.getD ((i - 1) / 2) default)=false
noncomputable abbrev Cc (lt:α->α->Bool) (xs:List α):Prop:=Ex lt 0 xs
inductive Sub (s:Nat):Nat->Prop
 | here:Sub s s
 | left {p}:Sub s p->Sub s (2 * p + 1)
 | right {p}:Sub s p->Sub s (2 * p + 2)
theorem Sub.up {s p:Nat}(h:Sub s p)(hne:p ≠ s):Sub s ((p - 1) / 2)/\s<=(p - 1) / 2:=by
 have ge:∀ {p},Sub s p->s<=p:=by
  intro p h
  induction h with
  | here=>exact Nat.le_refl _
  | left _ ih=>exact Ar.r103 ih
  | right _ ih=>exact Ar.r104 ih
 cases h with
 | here=>exact absurd rfl hne
 | @left q h=>rw[show (2 * q + 1 - 1) / 2=q by exact Ar.r5];exact⟨h,ge h⟩
 | @right q h=>rw[show (2 * q + 2 - 1) / 2=q by exact Ar.r6];exact⟨h,ge h⟩
theorem Sub.ge {s p:Nat}(h:Sub s p):s<=p:=by
 induction h with
 | here=>exact Nat.le_refl _
 | left _ ih=>exact Ar.r103 ih
 | right _ ih=>exact Ar.r104 ih
theorem Sub.zero (p:Nat):Sub 0 p:=by
 induction p using Nat.strongRecOn with
 | ind p ih =>
  rcases Nat.eq_zero_or_pos p with h | h
  ·clear ih;subst h;exact .here
  ·rcases Nat.mod_two_eq_zero_or_one p with h2 | h2
   ·have:=ih ((p - 2) / 2) (by exact Ar.r156 h)
    have e:p=2 * ((p - 2) / 2) + 2:=by exact Ar.r247 h h2
    rw[e];exact .right this
   ·have:=ih ((p - 1) / 2) (by omega)
    have e:p=2 * ((p - 1) / 2) + 1:=by omega
    rw[e];exact .left this
structure Hole (lt:α->α->Bool) (s p:Nat) (xs:List α):Prop where
 rel:∀ i,0 < i->i < xs.length->s<=(i - 1) / 2->i ≠ p->(i - 1) / 2 ≠ p->lt (xs.getD i default) (xs.getD ((i - 1) / 2) default)=false
 gp:p ≠ s->∀ c,0 < c->c < xs.length->(c - 1) / 2=p->lt (xs.getD c default) (xs.getD ((p - 1) / 2) default)=false
 sub:Sub s p
 lt:p < xs.length
theorem Pr {lt:α->α->Bool}(o:Ord lt){s:Nat}{item:α}:∀ (p:Nat) (xs:List α),Hole lt s p xs->(∀ c,0 < c->c < xs.length->(c - 1) / 2=p->lt (xs.getD c default) item=false)->Ex lt s (sdF lt s item xs p):=by
 intro p
 induction p using Nat.strongRecOn with
 | ind p ih =>
  intro xs h hc
  have stop:(p=s\/lt item (xs.getD ((p - 1) / 2) default)=false)->Ex lt s (xs.set p item):=by
   intro hs i h0 hi hsi
   rw[List.length_set]at hi
   by_cases e1:i=p
   ·clear hc hi ih o;subst e1
    rw[Cu h.lt,Bc (by exact Ar.r154 h0)]
    rcases hs with rfl | hs
    ·exact(Ar.r149 h0 hsi).elim
    ·exact hs
   ·by_cases e2:(i - 1) / 2=p
    ·rw[Bc (Ne.symm e1),e2,Cu h.lt];exact hc i h0 hi e2
    ·rw[Bc (Ne.symm e1),Bc (Ne.symm e2)];exact h.rel i h0 hi hsi e1 e2
  unfold sdF
  set_option tactic.hygienic true in split
  ·rename_i hsp
   have hps:p ≠ s:=by exact Ar.r191 hsp
   obtain⟨hu,hus⟩:=h.sub.up hps
   have hlt:=h.lt
   set_option tactic.hygienic true in split
   ·rename_i hl
    refine ih _ (by exact Ar.r111 hps hus) _ ⟨fun i h0 hi hsi e1 e2=>?_,fun hq c h0 hcl hcp=>?_,hu,by simp;exact Ar.r195 hlt⟩ fun c h0 hcl hcp=>?_
    ·rw[List.length_set]at hi
     by_cases e3:i=p
     ·clear e1 h h0 hc hi hl hlt hps hsi hsp hu hus ih o stop;subst e3;exact absurd rfl e2
     ·by_cases e4:(i - 1) / 2=p
      ·rw[Bc (Ne.symm e3),e4,Cu hlt];exact h.gp hps i h0 hi e4
      ·rw[Bc (Ne.symm e3),Bc (Ne.symm e4)];exact h.rel i h0 hi hsi e3 e4
    ·rw[List.length_set]at hcl
     obtain⟨hv,hvs⟩:=hu.up hq
     have hrel:=h.rel ((p - 1) / 2) (by exact Ar.r117 hq hvs) (by exact Ar.r182 hcl hcp) hvs (by exact Ar.r115 hq hvs) (by exact Ar.r116 hq hvs)
     rw[Bc (i:=p) (j:=((p - 1) / 2 - 1) / 2) (by exact Ar.r114 hq hvs)]
     by_cases e3:c=p
     ·clear h h0 hc hcl hcp hl hps hq hsp hu hus hv hvs ih o stop;subst e3;rw[Cu hlt];exact hrel
     ·rw[Bc (Ne.symm e3)]
      have h2:=h.rel c h0 hcl (by exact Ar.r43 hcp hvs) e3 (by exact Ar.r119 hq hcp hvs)
      rw[hcp]at h2
      exact o.nt _ _ _ hrel h2
    ·rw[List.length_set]at hcl
     by_cases e3:c=p
     ·clear h h0 hc hcl hcp hps hsp hu hus ih stop;subst e3;rw[Cu hlt];exact o.asym hl
     ·rw[Bc (Ne.symm e3)]
      have h2:=h.rel c h0 hcl (by exact Ar.r109 hus hcp) e3 (by exact Ar.r112 hps hus hcp)
      rw[hcp]at h2
      exact o.mix h2 hl
   ·rename_i hl
    exact stop (.inr (by simpa using hl))
  ·rename_i hsp
   exact stop (.inl (by have:=h.sub.ge;exact Ar.r120 hsp this))
theorem Xc {lt:α->α->Bool}(o:Ord lt){s:Nat}:∀ (n:Nat) (xs:List α) (p:Nat),xs.length - p=n->Hole lt s p xs->Hole lt s (suF lt xs p).2 (suF lt xs p).1/\xs.length<=2 * (suF lt xs p).2 + 1:=by
 intro n
 induction n using Nat.strongRecOn with
 | ind n ih =>
  intro xs p hn h
  have hlt:=h.lt
  have step:∀ c,c < xs.length->0 < c->(c - 1) / 2=p->Sub s c->(∀ d,0 < d->d < xs.length->(d - 1) / 2=p->d ≠ c->lt (xs.getD d default) (xs.getD c default)=false)->Hole lt s c (xs.set p (xs.getD c default)):=by
   intro c hc h0 hcp hsub hsib
   refine⟨fun i hi0 hi hsi e1 e2=>?_,fun z0 d hd0 hd hdc=>?_,hsub,by simpa using hc⟩
   ·rw[List.length_set]at hi
    by_cases e3:i=p
    ·clear e1 e2 hi hn hsib hsub ih o;subst e3
     rw[Cu hlt,Bc (by exact Ar.r154 hi0)]
     exact h.gp (by have:=h.sub.ge;exact Ar.r152 hi0 hsi) c h0 hc hcp
    ·by_cases e4:(i - 1) / 2=p
     ·rw[Bc (Ne.symm e3),e4,Cu hlt];exact hsib i hi0 hi e4 e1
     ·rw[Bc (Ne.symm e3),Bc (Ne.symm e4)];exact h.rel i hi0 hi hsi e3 e4
   ·rw[List.length_set]at hd
    rw[hcp,Cu hlt,Bc (by exact Ar.r41 hcp hd0 hdc)]
    have:=h.rel d hd0 hd (by have:=h.sub.ge;exact Ar.r44 hcp hdc this) (by exact Ar.r42 hcp hd0 hdc) (by exact Ar.r148 h0 hcp hdc)
    rw[hdc]at this;exact this
  unfold suF
  set_option tactic.hygienic true in split
  ·rename_i h1
   set_option tactic.hygienic true in split
   ·rename_i h2
    have hs:=step (2 * p + 2) h2.1 (by exact Ar.r211) (by exact Ar.r6) (.right h.sub) (fun d hd0 hd hdp hdc=>by
     have:d=2 * p + 1:=by exact Ar.r146 hd0 hdp hdc
     clear h h1 hd hd0 hdc hdp hlt hn ih o step;subst this;exact h2.2)
    have:=ih _ (by rw[<- hn,List.length_set];exact Ar.r132 h1) _ _ rfl hs
    rw[List.length_set]at this
    exact this
   ·rename_i h2
    have hs:=step (2 * p + 1) h1 (by exact Ar.r210) (by exact Ar.r5) (.left h.sub) (fun d hd0 hd hdp hdc=>by
     have:d=2 * p + 2:=by exact Ar.r145 hd0 hdp hdc
     clear h h1 hd0 hdc hdp hlt hn ih step;subst this
     have h3:lt (xs.getD (2 * p + 1) default) (xs.getD (2 * p + 2) default)=true:=by
      cases q:lt (xs.getD (2 * p + 1) default) (xs.getD (2 * p + 2) default) with
      | true=>rfl
      | false=>exact absurd ⟨hd,q⟩ h2
     exact o.asym h3)
    have:=ih _ (by rw[<- hn,List.length_set];exact Ar.r131 h1) _ _ rfl hs
    rw[List.length_set]at this
    exact this
  ·rename_i h1
   exact⟨h,by lia⟩
theorem Ik {lt:α->α->Bool}(o:Ord lt){xs:List α}{s:Nat}(hs:s < xs.length)(h:Ex lt (s + 1) xs):Ex lt s (Ap lt xs s):=by
 unfold Ap
 have h0:Hole lt s s xs:=⟨fun i h0 hi hsi e1 e2=>h i h0 hi (by exact Ar.r108 hsi e2),fun q=>absurd rfl q,.here,hs⟩
 obtain⟨h1,h2⟩:=Xc o _ xs s rfl h0
 have hl:=Hq (lt:=lt) _ xs s rfl
 refine Pr o _ _ ⟨fun i hi0 hi hsi e1 e2=>?_,fun q c hc0 hc hcp=>?_,h1.sub,by rw[List.length_set];exact h1.lt⟩ fun c hc0 hc hcp=>?_
 ·rw[List.length_set]at hi
  rw[Bc (Ne.symm e1),Bc (Ne.symm e2)]
  exact h1.rel i hi0 hi hsi e1 e2
 ·rw[List.length_set]at hc;exact(Ar.r70 h2 hl hc0 hc hcp).elim
 ·rw[List.length_set]at hc;exact(Ar.r70 h2 hl hc0 hc hcp).elim
theorem Ry {lt:α->α->Bool}(o:Ord lt){xs:List α}{x:α}(h:Cc lt xs):Cc lt (Ly lt xs x):=by
 unfold Ly
 have ga:∀ i,i < xs.length->(xs++[x]).getD i default=xs.getD i default:=fun i hi=>by simp[List.getD,List.getElem?_append_left hi]
 refine Pr o _ _ ⟨fun i h0 hi hsi e1 e2=>?_,fun q c hc0 hc hcp=>?_,.zero _,by simp⟩ fun c hc0 hc hcp=>?_
 ·simp at hi
  rw[ga _ (by exact Ar.r113 e1 hi),ga _ (by exact Ar.r118 e2 hi)]
  exact h i h0 (by exact Ar.r113 e1 hi) (Nat.zero_le _)
 ·simp at hc;exact(Ar.r147 hc0 hcp hc).elim
 ·simp at hc;exact(Ar.r147 hc0 hcp hc).elim
theorem Nt {lt:α->α->Bool}(o:Ord lt){xs:List α}(h:Cc lt xs):Cc lt (Bn lt xs).2:=by
 unfold Bn
 set_option tactic.hygienic true in split
 ·intro i h0 hi;simp at hi
 ·rename_i y ys hd
  refine Ik o (by simp) fun i h0 hi hsi=>?_
  have hl:xs.length=ys.length + 2:=by
   have:=congrArg List.length hd
   simp at this;exact Ar.r21 this
  have hg:∀ j,0 < j->j < ys.length + 1->(xs.getLastD default :: ys).getD j default=xs.getD j default:=by
   intro j hj0 hj
   have e1:xs.getD j default=xs.dropLast.getD j default:=by
    simp only [List.getD_eq_getElem?_getD,List.getElem?_dropLast]
    rw[if_pos (by exact Ar.r22 hl hj)]
   rw[e1,hd]
   cases j with
   | zero=>exact(Ar.r144 hj0).elim
   | succ j=>simp[List.getD]
  simp at hi
  rw[hg i h0 (by exact Ar.r167 hi),hg _ (by exact Ar.r55 hsi) (by exact Ar.r168 hi)]
  exact h i h0 (by exact Ar.r23 hl hi) (Nat.zero_le _)
theorem Yy {lt:α->α->Bool}(o:Ord lt){xs:List α}(h:Cc lt xs):∀ i,i < xs.length->lt (xs.getD i default) (xs.getD 0 default)=false:=by
 intro i
 induction i using Nat.strongRecOn with
 | ind i ih =>
  intro hi
  rcases Nat.eq_zero_or_pos i with q | q
  ·clear h hi ih;subst q;exact o.irr _
  ·exact o.nt _ _ _ (ih ((i - 1) / 2) (by exact Ar.r155 q) (by exact Ar.r195 hi)) (h i q hi (Nat.zero_le _))
theorem Xs {lt:α->α->Bool}{xs:List α}(hne:xs ≠ []):(Bn lt xs).1=xs.getD 0 default:=by
 unfold Bn
 set_option tactic.hygienic true in split
 ·rename_i h
  match xs,hne,h with
  | [x],_,_=>rfl
 ·rename_i y ys h
  match xs,hne,h with
  | x :: z :: r,_,h=>simp at h;simp[h.1]
theorem Py {lt:α->α->Bool}(o:Ord lt){xs:List α}(h:Cc lt xs)(hne:xs ≠ []):∀ y ∈ xs,lt y (Bn lt xs).1=false:=by
 intro y hy
 obtain⟨i,hi,rfl⟩:=List.getElem_of_mem hy
 rw[Xs hne]
 have:=Yy o h i hi
 rwa [show xs.getD i default=xs[i] by simp[List.getD,hi]]at this
theorem Fp {lt:α->α->Bool}(o:Ord lt):∀ (n:Nat) (xs:List α),n<=xs.length->Ex lt n xs->Cc lt (((List.range n).reverse).foldl (fun l i=>Ap lt l i) xs)
 | 0,xs,_,h=>by simpa using h
 | n + 1,xs,hn,h=>by
  rw[List.range_succ,List.reverse_append]
  simp only [List.reverse_cons,List.reverse_nil,List.nil_append,List.cons_append,List.foldl_cons]
  exact Fp o n _ (by rw[Ce];exact Ar.r59 hn) (Ik o (by exact Ar.r60 hn) h)
theorem Ni {lt:α->α->Bool}(o:Ord lt){xs:List α}:Cc lt (Bm lt xs):=Fp o _ _ (by exact Ar.r207) fun i h0 hi hs=>by exact(Ar.r153 h0 hi hs).elim
end
end Mine
end
section
namespace Mine
noncomputable abbrev FL:=List (Addr × FObj)
noncomputable def Db (H:AH) (L:FL):AH:=fun b=>match L.lookup b with
 | some o=>some (.f o)
 | none=>H b
noncomputable def Fl (G:Gh) (Z:List (Addr × List Addr)):Gh:=fun b=>match Z.lookup b with
 | some g=>g
 | none=>G b
noncomputable def Cr (H:AH) (a:Addr) (S:SState) (L:FL):AH:=fun b=>if b=a then some (.srt S) else if b ∈ L.map (·.1) then none else H b
theorem Gs {β:Type}:∀ {l:List (Addr × β)},(l.map (·.1)).Nodup->∀ {b:Addr} {v:β},(b,v) ∈ l->l.lookup b=some v
 | [],_,_,_,h=>by simp at h
 | (c,w) :: r,hn,b,v,h=>by
  simp only [List.map_cons,List.nodup_cons]at hn
  rw[List.lookup_cons]
  rcases List.mem_cons.mp h with e | h'
  ·clear h hn;cases e;simp
  ·have:(b == c)=false:=by
    simp only [beq_eq_false_iff_ne,ne_eq]
    intro e
    clear h;subst e
    exact hn.1 (List.mem_map.mpr ⟨(b,v),h',rfl⟩)
   rw[this];exact Gs hn.2 h'
theorem lookup_none {β:Type}:∀ {l:List (Addr × β)} {b:Addr},l.lookup b=none <-> b ∉ l.map (·.1)
 | [],b=>by simp
 | (d,w) :: r,b=>by
  rw[List.lookup_cons,List.map_cons,List.mem_cons,not_or]
  cases q:b == d with
  | true =>
   have:b=d:=by simpa using q
   simp[this]
  | false =>
   have:¬ b=d:=by simpa using q
   simp only [this,not_false_eq_true,true_and];exact lookup_none
section
variable {C:Cx}
theorem Rel.unpack {H:AH}{G:Gh}{h:Heap}{a:Addr}{S:SState}(R:Rel C H G (own H G) h)(ha:H a=some (.srt S)) :
  ∃ (L:FL) (Z:List (Addr × List Addr)),SFlat C a S L/\(L.map (·.1)).Nodup/\(∀ b ∈ L.map (·.1),b ≠ a->H b=none)/\a ∈ L.map (·.1)/\own (Db H L) (Fl G Z)=own H G/\Rel C (Db H L) (Fl G Z) (own (Db H L) (Fl G Z)) h/\∀ b,b ∉ L.map (·.1)->Fl G Z b=G b:=by
 obtain⟨L,gs,hS,hlen,hfl,hr⟩:=R.obj a _ ha
 have hne:H a ≠ none:=by rw[ha];simp
 have hnd:=R.nd a hne
 rw[hfl,List.Nodup,List.pairwise_flatMap]at hnd
 obtain⟨nd1,nd2⟩:=hnd
 let Z:=(L.zip gs).map fun x=>(x.1.1,x.2)
 have hZ1:Z.map (·.1)=L.map (·.1):=by
  simp only [Z,List.map_map]
  have:((fun x:Addr × List Addr=>x.1) ∘ fun x:(Addr × FObj) × List Addr=>(x.1.1,x.2))=(fun y:Addr × FObj=>y.1) ∘ Prod.fst:=rfl
  rw[this,<- List.map_map,List.map_fst_zip (by exact Ar.r39 hlen)]
 have hndL:(L.map (·.1)).Nodup:=by
  rw[<- hZ1]
  simp only [Z,List.map_map]
  rw[List.Nodup,List.pairwise_map]
  exact nd2.imp fun h=>h _ (by simp) _ (by simp)
 have hzm:∀ x,x ∈ L.zip gs->x.1 ∈ L:=fun x hx=>(List.of_mem_zip (a:=x.1) (b:=x.2) hx).1
 have hex:∀ y ∈ L,∃ g,(y,g) ∈ L.zip gs:=by
  intro y hy
  obtain⟨i,hi,rfl⟩:=List.getElem_of_mem hy
  refine⟨gs[i]'(by exact Ar.r38 hlen hi),?_⟩
  apply List.mem_of_getElem? (i:=i)
  rw[List.getElem?_zip_eq_some]
  exact⟨List.getElem?_eq_getElem hi,List.getElem?_eq_getElem (by exact Ar.r38 hlen hi)⟩
 have hmemF:∀ b,b ∈ a :: G a <-> ∃ x ∈ L.zip gs,b=x.1.1\/b ∈ x.2:=fun b=>by
  rw[hfl,List.mem_flatMap];simp
 have hl1:∀ x ∈ L.zip gs,(Db H L) x.1.1=some (.f x.1.2)/\(Fl G Z) x.1.1=x.2:=fun x hx=>by
  have e1:L.lookup x.1.1=some x.1.2:=Gs hndL (hzm x hx)
  have e2:Z.lookup x.1.1=some x.2:=Gs (by rw[hZ1];exact hndL) (List.mem_map.mpr ⟨x,hx,rfl⟩)
  exact⟨by simp only [Db,e1],by simp only [Fl,e2]⟩
 have hout:∀ b,b ∉ L.map (·.1)->(Db H L) b=H b/\(Fl G Z) b=G b:=fun b hb=>by
  have e1:L.lookup b=none:=lookup_none.mpr hb
  have e2:Z.lookup b=none:=lookup_none.mpr (by rw[hZ1];exact hb)
  exact⟨by simp only [Db,e1],by simp only [Fl,e2]⟩
 have hin:∀ b,b ∈ L.map (·.1)->∃ x ∈ L.zip gs,x.1.1=b:=fun b hb=>by
  obtain⟨y,hy,rfl⟩:=List.mem_map.mp hb
  obtain⟨g,hg⟩:=hex y hy
  exact⟨_,hg,rfl⟩
 have hinner:∀ b ∈ L.map (·.1),b ≠ a->H b=none:=fun b hb hba=>by
  obtain⟨x,hx,rfl⟩:=hin b hb
  cases q:H x.1.1 with
  | none=>rfl
  | some o =>
   exfalso
   have hm:x.1.1 ∈ a :: G a:=(hmemF _).mpr ⟨x,hx,.inl rfl⟩
   exact R.dj a x.1.1 x.1.1 hne (by rw[q];simp) (Ne.symm hba) (by simpa using hm) (.inl rfl)
 have hain:a ∈ L.map (·.1):=by
  obtain⟨σ,_,hL,_⟩:=hS
  rw[hL];exact List.mem_map.mpr ⟨_,List.mem_append_left _ (List.mem_append_left _ (.head _)),rfl⟩
 have hown:own (Db H L) (Fl G Z)=own H G:=by
  funext b
  apply propext
  constructor
  ·rintro⟨x,hx,hb⟩
   by_cases hxL:x ∈ L.map (·.1)
   ·obtain⟨z,hz,rfl⟩:=hin x hxL
    rw[(hl1 z hz).2]at hb
    exact⟨a,hne,by have:=(hmemF b).mpr ⟨z,hz,hb⟩;simpa using this⟩
   ·rw[(hout x hxL).1]at hx;rw[(hout x hxL).2]at hb
    exact⟨x,hx,hb⟩
  ·rintro⟨x,hx,hb⟩
   by_cases hxa:x=a
   ·subst hxa
    obtain⟨z,hz,hb'⟩:=(hmemF b).mp (by simpa using hb)
    exact⟨z.1.1,by rw[(hl1 z hz).1];simp,by rw[(hl1 z hz).2];exact hb'⟩
   ·have hxL:x ∉ L.map (·.1):=fun q=>hx (hinner x q hxa)
    exact⟨x,by rw[(hout x hxL).1];exact hx,by rw[(hout x hxL).2];exact hb⟩
 refine⟨L,Z,hS,hndL,hinner,hain,hown,?_,fun b hb=>(hout b hb).2⟩
 rw[hown]
 have off:∀ y z,H y ≠ none->y ≠ a->(z=y\/z ∈ G y)->∀ x ∈ L.zip gs,¬ (z=x.1.1\/z ∈ x.2):=fun y z hy hya hz x hx q =>
  R.dj y a z hy hne hya hz (by have:=(hmemF z).mpr ⟨x,hx,q⟩;simpa using this)
 refine⟨fun b hb=>hown ▸ hb,fun x o hx=>?_,fun x hx=>?_,fun x y z hx hy hxy hz=>?_,R.base,R.live⟩
 ·by_cases hxL:x ∈ L.map (·.1)
  ·obtain⟨z,hz,rfl⟩:=hin x hxL
   rw[(hl1 z hz).1]at hx;obtain rfl:=Option.some.inj hx
   rw[(hl1 z hz).2]
   exact ORelF.mono (fun b ob z0 z0 e z0 hb=>⟨e,hb⟩) (fun z0 z0 z0 e=>e) (hr z hz)
  ·rw[(hout x hxL).1]at hx;rw[(hout x hxL).2]
   exact ORel.mono (fun b ob z0 z0 e z0 hb=>⟨e,hb⟩) (fun z0 z0 z0 e=>e) (R.obj x o hx)
 ·by_cases hxL:x ∈ L.map (·.1)
  ·obtain⟨z,hz,rfl⟩:=hin x hxL
   rw[(hl1 z hz).2];exact nd1 z hz
  ·rw[(hout x hxL).1]at hx;rw[(hout x hxL).2];exact R.nd x hx
 ·by_cases hxL:x ∈ L.map (·.1)
  ·obtain⟨u,hu,rfl⟩:=hin x hxL
   rw[(hl1 u hu).2]at hz
   by_cases hyL:y ∈ L.map (·.1)
   ·obtain⟨v,hv,rfl⟩:=hin y hyL
    rw[(hl1 v hv).2]
    intro q
    have huv:u ≠ v:=fun e=>hxy (by rw[e])
    -- two different places of a list of pairwise apart ones
    obtain⟨i,hi,rfl⟩:=List.getElem_of_mem hu
    obtain⟨j,hj,rfl⟩:=List.getElem_of_mem hv
    have hij:i ≠ j:=by rintro rfl;exact huv rfl
    rw[List.pairwise_iff_getElem]at nd2
    rcases Nat.lt_or_gt_of_ne hij with l | l
    ·exact nd2 i j hi hj l z (by simpa using hz) z (by simpa using q) rfl
    ·exact nd2 j i hj hi l z (by simpa using q) z (by simpa using hz) rfl
   ·rw[(hout y hyL).1]at hy;rw[(hout y hyL).2]
    intro q
    exact off y z hy (fun e=>hyL (e ▸ hain)) q u hu hz
  ·rw[(hout x hxL).1]at hx;rw[(hout x hxL).2]at hz
   by_cases hyL:y ∈ L.map (·.1)
   ·obtain⟨v,hv,rfl⟩:=hin y hyL
    rw[(hl1 v hv).2]
    exact off x z hx (fun e=>hxL (e ▸ hain)) hz v hv
   ·rw[(hout y hyL).1]at hy;rw[(hout y hyL).2]
    exact R.dj x y z hx hy hxy hz
theorem Rel.pack {H:AH}{G:Gh}{h:Heap}{a:Addr}{S:SState}{L:FL}(R:Rel C H G (own H G) h)(hS:SFlat C a S L)(hnd:(L.map (·.1)).Nodup)(hL:∀ x ∈ L,H x.1=some (.f x.2)) :
  ∃ G',own (Cr H a S L) G' = own H G/\Rel C (Cr H a S L) G' (own (Cr H a S L) G') h/\∀ b,b ∉ L.map (·.1)->G' b=G b:=by
 have hain:∃ o T,L=(a,o) :: T:=by
  obtain⟨σ,_,hL,_⟩:=hS
  exact⟨_,_,hL⟩
 obtain⟨o0,T,hT⟩:=hain
 have haL:a ∈ L.map (·.1):=by rw[hT];simp
 let F:=L.flatMap fun x=>x.1 :: G x.1
 have hF:F=a :: (G a++T.flatMap fun x=>x.1 :: G x.1):=by simp only [F,hT,List.flatMap_cons,List.cons_append]
 let G':=Cd G a (G a++T.flatMap fun x=>x.1 :: G x.1)
 have hGa:a :: G' a=F:=by rw[hF];simp[G',Cd]
 have hGo:∀ b,b ≠ a->G' b=G b:=fun b hb=>by simp[G',Cd,hb]
 have hmF:∀ b,b ∈ a :: G' a <-> ∃ x ∈ L,b=x.1\/b ∈ G x.1:=fun b=>by
  rw[hGa];simp only [F,List.mem_flatMap];simp
 have hP:∀ b,Cr H a S L b ≠ none <-> b=a\/(b ∉ L.map (·.1)/\H b ≠ none):=fun b=>by
  unfold Cr
  by_cases e:b=a
  ·simp[e]
  ·by_cases e2:b ∈ L.map (·.1)
   ·simp only [e,if_false,e2,if_true];simp
   ·simp only [e,if_false,e2];simp
 have hPa:Cr H a S L a=some (.srt S):=by simp[Cr]
 have hPo:∀ b,b ≠ a->b ∉ L.map (·.1)->Cr H a S L b=H b:=fun b h1 h2=>by
  unfold Cr;simp only [h1,if_false,h2]
 have hLne:∀ x ∈ L,H x.1 ≠ none:=fun x hx=>by rw[hL x hx];simp
 have hown:own (Cr H a S L) G' = own H G:=by
  funext b
  apply propext
  constructor
  ·rintro⟨x,hx,hb⟩
   rcases(hP x).mp hx with e | ⟨e1,e2⟩
   ·clear R hF hGa hGo hL hP hPa hPo hS hT haL hnd hx;subst e
    obtain⟨z,hz,hb'⟩:=(hmF b).mp (by simpa using hb)
    exact⟨z.1,hLne z hz,hb'⟩
   ·have:x ≠ a:=fun q=>e1 (q ▸ haL)
    rw[hGo x this]at hb
    exact⟨x,e2,hb⟩
  ·rintro⟨x,hx,hb⟩
   by_cases hxL:x ∈ L.map (·.1)
   ·clear R hF hGa hGo hL hLne hP hPo hS hT haL hnd hx;obtain⟨z,hz,rfl⟩:=List.mem_map.mp hxL
    exact⟨a,by rw[hPa];simp,by have:=(hmF b).mpr ⟨z,hz,hb⟩;simpa using this⟩
   ·have:x ≠ a:=fun q=>hxL (q ▸ haL)
    exact⟨x,by rw[hPo x this hxL];exact hx,by rw[hGo x this];exact hb⟩
 refine⟨G',hown,?_,fun b hb=>hGo b fun q=>hb (q ▸ haL)⟩
 rw[hown]
 have hndF:F.Nodup:=by
  simp only [F]
  rw[List.Nodup,List.pairwise_flatMap]
  refine⟨fun x hx=>R.nd x.1 (hLne x hx),?_⟩
  rw[List.Nodup,List.pairwise_map]at hnd
  refine hnd.imp_of_mem ?_
  intro x y hx hy hxy u hu v hv huv
  clear hF hGa hGo hL hP hPa hPo hS hT haL hmF hnd hown;subst huv
  exact R.dj x.1 y.1 u (hLne x hx) (hLne y hy) hxy (by simpa using hu) (by simpa using hv)
 refine⟨fun b hb=>hown ▸ hb,fun x o hx=>?_,fun x hx=>?_,fun x y z hx hy hxy hz=>?_,R.base,R.live⟩
 ·by_cases e:x=a
  ·subst e
   rw[hPa]at hx;obtain rfl:=Option.some.inj hx
   refine⟨L,L.map fun y=>G y.1,hS,by simp,?_,?_⟩
   ·rw[hGa]
    simp only [F]
    rw[List.zip_map_right]
    have:L.zip L=L.map fun y=>(y,y):=by
     clear hGa hmF hP hPa hPo hLne hown hndF hF haL hT hL hnd hS R F G' hGo
     induction L with
     | nil=>rfl
     | cons y l ih=>simp[ih]
    rw[this,List.map_map,List.flatMap_map]
    rfl
   ·intro z hz
    rw[List.zip_map_right]at hz
    clear hF hGa hGo hLne hP hPa hPo hS hT haL hmF hnd hndF hown hx;obtain⟨w,hw,rfl⟩:=List.mem_map.mp hz
    have hw1:w.1 ∈ L:=(List.of_mem_zip (a:=w.1) (b:=w.2) hw).1
    have hw2:w.1=w.2:=by
     obtain⟨i,hi,e⟩:=List.getElem_of_mem hw
     rw[List.getElem_zip]at e
     rw[<- e]
    have:=R.obj w.1.1 _ (hL w.1 hw1)
    refine ORelF.mono (O:=own H G) (G:=G) (fun b ob z0 z0 e z0 hb=>⟨e,hb⟩) (fun z0 z0 z0 e=>e) ?_
    refine(?_:ORelF C h (own H G) G w.1.2 w.1.1 (G w.2.1))
    rw[<- hw2];exact this
  ·have hxL:x ∉ L.map (·.1):=by
    intro q
    have:Cr H a S L x=none:=by unfold Cr;simp only [e,if_false,q,if_true]
    rw[this]at hx;exact nqa hx
   rw[hPo x e hxL]at hx
   rw[hGo x e]
   exact ORel.mono (fun b ob z0 z0 e z0 hb=>⟨e,hb⟩) (fun z0 z0 z0 e=>e) (R.obj x o hx)
 ·rcases(hP x).mp hx with e | ⟨e1,e2⟩
  ·clear R hF hGo hL hLne hP hPa hPo hS hT haL hmF hnd hown hx;subst e;rw[hGa];exact hndF
  ·rw[hGo x fun q=>e1 (q ▸ haL)];exact R.nd x e2
 ·rcases(hP x).mp hx with ex | ⟨ex1,ex2⟩
  ·clear hF hGa hL hPa hPo hS hT haL hnd hndF hown hx;subst ex
   rcases(hP y).mp hy with ey | ⟨ey1,ey2⟩
   ·exact absurd ey.symm hxy
   ·rw[hGo y (Ne.symm hxy)]
    obtain⟨w,hw,hz'⟩:=(hmF z).mp (by simpa using hz)
    exact R.dj w.1 y z (hLne w hw) ey2 (fun q=>ey1 (q ▸ List.mem_map.mpr ⟨w,hw,rfl⟩)) hz'
  ·have hxa:x ≠ a:=fun q=>ex1 (q ▸ haL)
   rw[hGo x hxa]at hz
   rcases(hP y).mp hy with ey | ⟨ey1,ey2⟩
   ·clear hF hGa hGo hL hP hPa hPo hS hT haL hnd hndF hown hx hxa hxy hy;subst ey
    intro q
    obtain⟨w,hw,hz'⟩:=(hmF z).mp (by simpa using q)
    exact R.dj x w.1 z ex2 (hLne w hw) (fun q=>ex1 (q ▸ List.mem_map.mpr ⟨w,hw,rfl⟩)) hz hz'
   ·rw[hGo y fun q=>ey1 (q ▸ haL)]
    exact R.dj x y z ex2 ey2 hxy hz
end
end Mine
end
section
namespace Mine
section
variable {C:Cx} {k:Nat}
theorem Rel.forget {H H':AH}{G:Gh}{h:Heap}(R:Rel C H G (own H G) h)(hs:∀ b,H' b=H b\/H' b=none):Rel C H' G (own H' G) h:=by
 have un:∀ x,H' x ≠ none->H x ≠ none:=fun x hx=>by rcases hs x with q | q;rw[<- q];exact hx;exact absurd q hx
 have sub:∀ b,own H' G b->own H G b:=fun b ⟨x,hx,hb⟩=>⟨x,un x hx,hb⟩
 refine⟨fun z0 x=>x,fun x o hx=>?_,fun x hx=>R.nd x (un x hx),fun x y z hx hy=>R.dj x y z (un x hx) (un y hy),fun b o e=>⟨(R.base b o e).1,fun q=>(R.base b o e).2 (sub b q)⟩,fun b hb=>R.live b (sub b hb)⟩
 have hx':H x=some o:=by rcases hs x with q | q;rw[<- q];exact hx;rw[q]at hx;exact nqa hx
 exact ORel.mono (fun b ob z0 z0 e z0 hb=>⟨e,fun q=>hb (sub b q)⟩) (fun z0 z0 z0 e=>e) (R.obj x o hx')
inductive Pkd (C:Cx) (a:Addr) (H:AH) (Q:AV->AH->Prop) (v:AV) (H1:AH):Prop
 | mk (S':SState) (L':FL) (hS:SFlat C a S' L') (hnd:(L'.map (·.1)).Nodup) (hin:∀ x ∈ L',H1 x.1=some (.f x.2)) (hk:∀ b o,b ≠ a->H b=some o->H1 b=some o) (hfr:∀ b ∈ L'.map (·.1),b ≠ a->H b=none) (hq:Q v (upd H a (.srt S')))
inductive PkN (C:Cx) (S':SState) (H:AH) (Q:AV->AH->Prop) (v:AV) (H1:AH):Prop
 | mk (a:Addr) (L':FL) (e:v = .ref a) (ha:H a=none) (hS:SFlat C a S' L') (hnd:(L'.map (·.1)).Nodup) (hin:∀ x ∈ L',H1 x.1=some (.f x.2)) (hk:∀ b o,H b=some o->H1 b=some o) (hfr:∀ b ∈ L'.map (·.1),H b=none) (hq:Q (.ref a) (upd H a (.srt S')))
theorem CallR.packed {f:Value} {W W':FW} (h:CallR C k f W) (hW:∀ vs Q H,W' vs Q H->∃ a S,H a=some (.srt S)/\∀ (L:FL),SFlat C a S L->(L.map (·.1)).Nodup->(∀ b ∈ L.map (·.1),b ≠ a->H b=none) ->
   W vs (Pkd C a H Q) (Db H L)):CallR C k f W':=by
 intro A s H G vs xs Q hA hF R hr hst hW'
 refine Ac fun PP ret=>?_
 obtain⟨a,S,ha,hL⟩:=hW vs Q H hW'
 obtain⟨L,Z,hS,hnd,hin,haL,hown,R0,hGo⟩:=R.unpack ha
 refine ret ?_
 have hne:H a ≠ none:=by rw[ha];simp
 have hr0:VRels s.heap (own (Db H L) (Fl G Z)) (Fl G Z) vs xs:=hr.mono (fun b o z0 z0 e z0 hb=>⟨e,by rw[hown];exact hb⟩) hst
 refine codeAny_mono (h A s (Db H L) (Fl G Z) vs xs _ hA (by rw[hown];exact hF) R0 hr0 hst (hL L hS hnd hin)) fun r s' hr'=>?_
 rcases r with e | (v | _ | _ | _) <;> first | exact hr'.elim | skip
 refine Ac fun PP ret=>?_
 obtain⟨v',H1,G1,⟨S',L',hS',hnd',hin',hk,hfr,hq⟩,hv,hsv,R1,S1⟩:=hr'
 obtain⟨G2,ho2,R2,hG2⟩:=R1.pack hS' hnd' hin'
 have haL':a ∈ L'.map (·.1):=by
  obtain⟨σ,_,hL,_⟩:=hS'
  rw[hL];exact List.mem_map.mpr ⟨_,List.mem_append_left _ (List.mem_append_left _ (.head _)),rfl⟩
 have R3:Rel C (upd H a (.srt S')) G2 (own (upd H a (.srt S')) G2) s'.heap:=by
  refine R2.forget fun b=>?_
  by_cases e:b=a
  ·clear R R0 R1 R2 S1 h hA hF hG2 hGo hL hS hS' hW hW' ha haL haL' hfr hin hin' hk hnd hnd' hne ho2 hown hq hr hr0 hst hsv hv ret;subst e;left;simp[Cr]
  ·rw[Aa e]
   clear R R0 R1 R2 S1 h hA hF hG2 hGo hL hS hS' hW hW' ha haL haL' hin hin' hnd hnd' hne ho2 hown hq hr hr0 hst hsv hv ret;cases q:H b with
   | none=>right;rfl
   | some o =>
    left
    have hbL:b ∉ L'.map (·.1):=fun z=>by rw[hfr b z e]at q;exact nqa q
    unfold Cr;simp only [e,if_false,hbL]
    exact(hk b o e q).symm
 have sub:∀ b,own (upd H a (.srt S')) G2 b->own H1 G1 b:=fun b ⟨x,hx,hb⟩=>by
  rw[<- ho2]
  refine⟨x,?_,hb⟩
  by_cases e:x=a
  ·clear R R0 R1 R2 R3 S1 h hA hF hG2 hGo hL hS hS' hW hW' ha haL haL' hb hfr hin hin' hk hnd hnd' hne ho2 hown hq hr hr0 hst hsv hv hx ret;subst e;simp[Cr]
  ·rw[Aa e]at hx
   clear R R0 R1 R2 R3 S1 h hA hF hG2 hGo hL hS hS' hW hW' ha haL haL' hb hin hin' hnd hnd' hne ho2 hown hq hr hr0 hst hsv hv ret;cases q:H x with
   | none=>rw[q]at hx;exact absurd rfl hx
   | some o =>
    have hbL:x ∉ L'.map (·.1):=fun z=>by rw[hfr x z e]at q;exact nqa q
    unfold Cr;simp only [e,if_false,hbL]
    rw[hk x o e q];simp
 refine ret ?_
 refine⟨v',upd H a (.srt S'),G2,hq,hv.mono (fun b o z0 z0 e z0 hb=>⟨e,fun q=>hb (sub b q)⟩) hsv,hsv,R3,S1.same,fun b o hb hP e=>S1.keep b o (by rw[hown];exact hb) hP e,fun z0 z0 z=>z.elim,fun b hb=>by
  have:=S1.fresh b (sub b hb);rwa [hown]at this,fun x o e l=>?_⟩
 have hxa:x ≠ a:=fun qq=>by first | (rw[<- qq,ha]at e;cases e) | (rw[qq,ha]at e;clear R R0 R1 R2 R3 h hA hF hL hS hS' hW hW' ha haL haL' hin' hk hnd hnd' hne ho2 hown hq hr hr0 hst hsv hv qq ret sub;cases e)
 have hxL:x ∉ L.map (·.1):=fun q=>by rw[hin x q hxa]at e;exact nqa e
 have hxL':x ∉ L'.map (·.1):=fun q=>by rw[hfr x q hxa]at e;exact nqa e
 have e0:Db H L x=some (.f o):=by unfold Db;rw[lookup_none.mpr hxL];exact e
 obtain⟨q1,q2,q3⟩:=S1.lock x o e0 l
 rw[hGo x hxL]at q2 q3
 exact⟨by rw[Aa hxa];exact e,by rw[hG2 x hxL'];exact q2,q3⟩
theorem CallR.packNew {f:Value}{W W':FW}{S':SState}(h:CallR C k f W)(hW:∀ vs Q H,W' vs Q H->W vs (PkN C S' H Q) H):CallR C k f W':=by
 intro A s H G vs xs Q hA hF R hr hst hW'
 refine codeAny_mono (h A s H G vs xs _ hA hF R hr hst (hW vs Q H hW')) fun r s' hr'=>?_
 rcases r with e | (v | _ | _ | _) <;> first | exact hr'.elim | skip
 refine Ac fun PP ret=>?_
 obtain⟨v',H1,G1,⟨a,L',rfl,ha,hS',hnd',hin',hk,hfr,hq⟩,hv,hsv,R1,S1⟩:=hr'
 obtain⟨G2,ho2,R2,hG2⟩:=R1.pack hS' hnd' hin'
 have R3:Rel C (upd H a (.srt S')) G2 (own (upd H a (.srt S')) G2) s'.heap:=by
  refine R2.forget fun b=>?_
  by_cases e:b=a
  ·subst e;left;simp[Cr]
  ·rw[Aa e]
   cases q:H b with
   | none=>right;rfl
   | some o =>
    left
    have hbL:b ∉ L'.map (·.1):=fun z=>by rw[hfr b z]at q;exact nqa q
    unfold Cr;simp only [e,if_false,hbL]
    exact(hk b o q).symm
 have sub:∀ b,own (upd H a (.srt S')) G2 b->own H1 G1 b:=fun b ⟨x,hx,hb⟩=>by
  rw[<- ho2]
  refine⟨x,?_,hb⟩
  by_cases e:x=a
  ·subst e;simp[Cr]
  ·rw[Aa e]at hx
   cases q:H x with
   | none=>rw[q]at hx;exact absurd rfl hx
   | some o =>
    have hbL:x ∉ L'.map (·.1):=fun z=>by rw[hfr x z]at q;exact nqa q
    unfold Cr;simp only [e,if_false,hbL]
    rw[hk x o q];simp
 refine ret ?_
 refine⟨.ref a,upd H a (.srt S'),G2,hq,hv.mono (fun b o z0 z0 e z0 hb=>⟨e,fun q=>hb (sub b q)⟩) hsv,hsv,R3,S1.same,S1.keep,fun z0 z0 z=>z.elim,fun b hb=>S1.fresh b (sub b hb),fun x o e l=>?_⟩
 have hxa:x ≠ a:=fun qq=>by first | (rw[<- qq,ha]at e;exact nqa e) | (rw[qq,ha]at e;exact nqa e)
 have hxL':x ∉ L'.map (·.1):=fun q=>by rw[hfr x q]at e;exact nqa e
 obtain⟨q1,q2,q3⟩:=S1.lock x o e l
 exact⟨by rw[Aa hxa];exact e,by rw[hG2 x hxL'];exact q2,q3⟩
end
end Mine
end
section
namespace Mine
structure Flat (C:Cx) (lkD:Bool) (lkA:Option Addr) (H:AH) (a:Addr) (σ:FSt):Prop where
 ha:H a=some (.f (.inst C.tsC (De σ.d σ.rdy σ.passed σ.fin)))
 hd:H σ.d=some (.f (.dic lkD σ.dicL))
 hr:∀ r,σ.ready=some r->H σ.ra=some (.f (.lst false (r.map .int)))
 hi:∀ n ∈ σ.nds,H n.info=some (.f (.slots C.niC (Er n)))
 hs:∀ n ∈ σ.nds,H n.succ=some (.f (.lst (decide (lkA=some n.succ)) (n.nd.succs.map .int)))
 ni:(σ.nds.map (·.info)).Nodup
 ns:(σ.nds.map (·.succ)).Nodup
 nk:(σ.nds.map (·.nd.key)).Nodup
 nr:σ.ready ≠ none->∀ n ∈ σ.nds,n.succ ≠ σ.ra
section
variable {C:Cx}
theorem Flat.ofL {H:AH}{a:Addr}{σ:FSt}(hnd:((σ.L C a).map (·.1)).Nodup)(hk:(σ.nds.map (·.nd.key)).Nodup)(hin:∀ x ∈ σ.L C a,H x.1=some (.f x.2)):Flat C false none H a σ:=by
 have mi:∀ n ∈ σ.nds,(n.info,FObj.slots C.niC (Er n)) ∈ σ.L C a:=fun n hn=>by
  unfold FSt.L;exact List.mem_append_left _ (List.mem_append_right _ (List.mem_map.mpr ⟨n,hn,rfl⟩))
 have ms:∀ n ∈ σ.nds,(n.succ,FObj.lst false (n.nd.succs.map .int)) ∈ σ.L C a:=fun n hn=>by
  unfold FSt.L;exact List.mem_append_right _ (List.mem_map.mpr ⟨n,hn,rfl⟩)
 have hnd':=hnd
 unfold FSt.L at hnd'
 rw[List.map_append,List.map_append,List.nodup_append,List.nodup_append]at hnd'
 obtain⟨⟨n1,n2,n3⟩,n4,n5⟩:=hnd'
 refine⟨hin (a,.inst C.tsC (De σ.d σ.rdy σ.passed σ.fin)) (by unfold FSt.L;simp),hin (σ.d,.dic false σ.dicL) (by unfold FSt.L;simp),fun r hr=>hin (σ.ra,.lst false (r.map .int)) (by unfold FSt.L;rw[hr];simp),fun n hn=>hin _ (mi n hn),fun n hn=>by have:=hin _ (ms n hn);simpa using this,?_,?_,hk,fun hne n hn q=>?_⟩
 ·rw[List.map_map]at n2;exact n2
 ·rw[List.map_map]at n4;exact n4
 ·cases hr:σ.ready with
  | none=>exact hne hr
  | some r =>
   refine n5 σ.ra ?_ σ.ra ?_ rfl
   ·rw[List.mem_append];left;rw[hr];simp
   ·rw[List.map_map];exact List.mem_map.mpr ⟨n,hn,q⟩
theorem Flat.toL {H:AH}{a:Addr}{σ:FSt}(F:Flat C false none H a σ):((σ.L C a).map (·.1)).Nodup/\∀ x ∈ σ.L C a,H x.1=some (.f x.2):=by
 have hin:∀ x ∈ σ.L C a,H x.1=some (.f x.2):=by
  intro x hx
  unfold FSt.L at hx
  rcases List.mem_append.mp hx with hx | hx
  ·rcases List.mem_append.mp hx with hx | hx
   ·rcases List.mem_cons.mp hx with rfl | hx
    ·exact F.ha
    ·rcases List.mem_cons.mp hx with rfl | hx
     ·exact F.hd
     ·cases hr:σ.ready with
      | none=>rw[hr]at hx;simp at hx
      | some r=>rw[hr]at hx;simp at hx;subst hx;exact F.hr r hr
   ·obtain⟨n,hn,rfl⟩:=List.mem_map.mp hx;exact F.hi n hn
  ·obtain⟨n,hn,rfl⟩:=List.mem_map.mp hx;have:=F.hs n hn;simpa using this
 refine⟨?_,hin⟩
 have had:a ≠ σ.d:=Ai F.ha F.hd rfl
 have hai:∀ n ∈ σ.nds,a ≠ n.info:=fun n hn q=>by have:=F.ha;rw[q,F.hi n hn]at this;cases this
 have has:∀ n ∈ σ.nds,a ≠ n.succ:=fun n hn q=>by have:=F.ha;rw[q,F.hs n hn]at this;cases this
 have hdi:∀ n ∈ σ.nds,σ.d ≠ n.info:=fun n hn q=>by have:=F.hd;rw[q,F.hi n hn]at this;cases this
 have hds:∀ n ∈ σ.nds,σ.d ≠ n.succ:=fun n hn q=>by have:=F.hd;rw[q,F.hs n hn]at this;cases this
 have his:∀ n ∈ σ.nds,∀ m ∈ σ.nds,n.info ≠ m.succ:=fun n hn m hm q=>by have:=F.hi n hn;rw[q,F.hs m hm]at this;cases this
 unfold FSt.L
 rw[List.map_append,List.map_append,List.nodup_append,List.nodup_append]
 refine⟨⟨?_,?_,?_⟩,?_,?_⟩
 ·cases hr:σ.ready with
  | none=>simp[had]
  | some r =>
   have har:a ≠ σ.ra:=fun q=>by have:=F.ha;rw[q,F.hr r hr]at this;cases this
   have hdr:σ.d ≠ σ.ra:=fun q=>by have:=F.hd;rw[q,F.hr r hr]at this;cases this
   simp[had,har,hdr]
 ·rw[List.map_map];exact F.ni
 ·intro u hu v hv huv
  subst huv
  rw[List.map_map]at hv
  obtain⟨n,hn,rfl⟩:=List.mem_map.mp hv
  obtain⟨y,hy,e⟩:=List.mem_map.mp hu
  rcases List.mem_cons.mp hy with rfl | hy
  ·exact hai n hn e
  ·rcases List.mem_cons.mp hy with rfl | hy
   ·exact hdi n hn e
   ·cases hr:σ.ready with
    | none=>rw[hr]at hy;simp at hy
    | some r =>
     rw[hr]at hy;simp at hy;subst hy
     have h1:=F.hr r hr
     have h2:=F.hi n hn
     have e':σ.ra=n.info:=e
     rw[e',h2]at h1;cases h1
 ·rw[List.map_map];exact F.ns
 ·intro u hu v hv huv
  subst huv
  rw[List.map_map]at hv
  obtain⟨n,hn,rfl⟩:=List.mem_map.mp hv
  rw[List.mem_append]at hu
  rcases hu with hu | hu
  ·obtain⟨y,hy,e⟩:=List.mem_map.mp hu
   rcases List.mem_cons.mp hy with rfl | hy
   ·exact has n hn e
   ·rcases List.mem_cons.mp hy with rfl | hy
    ·exact hds n hn e
    ·cases hr:σ.ready with
     | none=>rw[hr]at hy;simp at hy
     | some r =>
      rw[hr]at hy;simp at hy;subst hy
      exact F.nr (by rw[hr];simp) n hn e.symm
  ·rw[List.map_map]at hu
   obtain⟨m,hm,e⟩:=List.mem_map.mp hu
   exact his m hm n hn e
end
end Mine
end
section
namespace Mine
noncomputable def SState.keys (S:SState):List Int:=S.nodes.map (·.key)
noncomputable def SState.set (S:SState) (k:Int) (g:NodeS):SState:={ S with nodes:=S.nodes.map fun n=>if n.key=k then g else n }
noncomputable def SState.node (S:SState) (k:Int):NodeS:=(S.nodes.find? fun n=>decide (n.key=k)).getD ⟨k,0,[]⟩
noncomputable def SState.get (S:SState) (k:Int):SState:=if k ∈ S.keys then S else { S with nodes:=S.nodes++[⟨k,0,[]⟩] }
noncomputable def FSt.setN (σ:FSt) (k:Int) (g:NodeS):FSt:={ σ with nds:=σ.nds.map fun n=>if n.nd.key=k then { n with nd:=g } else n }
theorem FSt.setN_toS (σ:FSt)(k:Int)(g:NodeS):(σ.setN k g).toS=σ.toS.set k g:=by
 unfold FSt.setN FSt.toS SState.set
 dsimp only
 congr 1
 rw[List.map_map,List.map_map]
 apply List.map_congr_left
 intro n _
 refine(?_:(if n.nd.key=k then ({ n with nd:=g }:FN) else n).nd=if n.nd.key=k then g else n.nd)
 set_option tactic.hygienic true in split <;> rfl
theorem Ei {σ:FSt}(hk:(σ.nds.map (·.nd.key)).Nodup){n:FN}(hn:n ∈ σ.nds):σ.toS.node n.nd.key=n.nd:=by
 unfold SState.node FSt.toS
 dsimp only
 have:(σ.nds.map (·.nd)).find? (fun m=>decide (m.key=n.nd.key))=some n.nd:=by
  generalize σ.nds=l at hk hn
  induction l with
  | nil=>simp at hn
  | cons m l ih =>
   simp only [List.map_cons,List.nodup_cons]at hk
   rw[List.map_cons,List.find?_cons]
   rcases List.mem_cons.mp hn with rfl | hn
   ·simp
   ·have:¬ m.nd.key=n.nd.key:=fun e=>hk.1 (by rw[e];exact List.mem_map.mpr ⟨n,hn,rfl⟩)
    simp only [this,decide_false]
    exact ih hk.2 hn
 rw[this];rfl
section
variable {C:Cx} {lkD:Bool} {lkA:Option Addr} {H:AH} {a:Addr} {σ:FSt}
theorem Flat.n2i (F:Flat C lkD lkA H a σ):attrD C "_node2info" H (.ref a)=some (.ref σ.d):=by
 unfold attrD;dsimp only;rw[F.ha];simp only [if_true];rfl
theorem Flat.rdyA (F:Flat C lkD lkA H a σ):attrD C "_ready_nodes" H (.ref a)=some σ.rdy:=by
 unfold attrD;dsimp only;rw[F.ha];simp only [if_true]
 have:(De σ.d σ.rdy σ.passed σ.fin).lookup ("_ready_nodes":Str)=some σ.rdy:=rfl
 rw[this]
 have:Tv σ.rdy=true:=by unfold FSt.rdy;set_option tactic.hygienic true in split <;> rfl
 simp[this]
theorem Flat.passA (F:Flat C lkD lkA H a σ):attrD C "_npassedout" H (.ref a)=some (.int σ.passed):=by
 unfold attrD;dsimp only;rw[F.ha];simp only [if_true];rfl
theorem Flat.finA (F:Flat C lkD lkA H a σ):attrD C "_nfinished" H (.ref a)=some (.int σ.fin):=by
 unfold attrD;dsimp only;rw[F.ha];simp only [if_true];rfl
theorem Flat.keyA (F:Flat C lkD lkA H a σ){n:FN}(hn:n ∈ σ.nds):attrS C 0 H (.ref n.info)=some (.int n.nd.key):=by
 unfold attrS;dsimp only;rw[F.hi n hn];simp only [if_true];rfl
theorem Flat.npredA (F:Flat C lkD lkA H a σ){n:FN}(hn:n ∈ σ.nds):attrS C 1 H (.ref n.info)=some (.int n.nd.npred):=by
 unfold attrS;dsimp only;rw[F.hi n hn];simp only [if_true];rfl
theorem Flat.succA (F:Flat C lkD lkA H a σ){n:FN}(hn:n ∈ σ.nds):attrS C 2 H (.ref n.info)=some (.ref n.succ):=by
 unfold attrS;dsimp only;rw[F.hi n hn];simp only [if_true];rfl
theorem Mm {nds:List FN}(hk:(nds.map (·.nd.key)).Nodup){n:FN}(hn:n ∈ nds):(nds.map fun n=>(n.nd.key,AV.ref n.info)).lookup n.nd.key=some (.ref n.info):=by
 induction nds with
 | nil=>simp at hn
 | cons m l ih =>
  simp only [List.map_cons,List.nodup_cons]at hk
  rw[List.map_cons,List.lookup_cons]
  rcases List.mem_cons.mp hn with rfl | hn
  ·simp
  ·have:(n.nd.key == m.nd.key)=false:=by
    simp only [beq_eq_false_iff_ne,ne_eq]
    intro e;exact hk.1 (by rw[<- e];exact List.mem_map.mpr ⟨n,hn,rfl⟩)
   rw[this];exact ih hk.2 hn
theorem Fq {nds:List FN}{k:Int}(hk:k ∉ nds.map (·.nd.key)):(nds.map fun n=>(n.nd.key,AV.ref n.info)).lookup k=none:=by
 induction nds with
 | nil=>rfl
 | cons m l ih =>
  simp only [List.map_cons,List.mem_cons,not_or]at hk
  rw[List.map_cons,List.lookup_cons]
  have:(k == m.nd.key)=false:=by simpa using hk.1
  rw[this];exact ih hk.2
theorem Flat.dget (F:Flat C lkD lkA H a σ){n:FN}(hn:n ∈ σ.nds):Ku H (.ref σ.d) (.int n.nd.key)=some (.ref n.info):=by
 unfold Ku;simp only [F.hd];unfold FSt.dicL;rw[Mm F.nk hn];rfl
theorem Flat.dget_none (F:Flat C lkD lkA H a σ){k:Int}(hk:k ∉ σ.nds.map (·.nd.key)):Ku H (.ref σ.d) (.int k)=some .none:=by
 unfold Ku;simp only [F.hd];unfold FSt.dicL;rw[Fq hk];rfl
theorem Flat.didx (F:Flat C lkD lkA H a σ){n:FN}(hn:n ∈ σ.nds):idx H (.ref σ.d) (.int n.nd.key)=some (.ref n.info):=by
 simp only [Yt,F.hd];unfold FSt.dicL;exact Mm F.nk hn
theorem Flat.inst (F:Flat C lkD lkA H a σ):Bl C H a=some Bk:=by
 unfold Bl;rw[F.ha];simp only [if_true];rfl
noncomputable def Dj (C:Cx) (a:Addr) (σ:FSt) (b:Addr):Prop:=b ∈ (σ.L C a).map (·.1)
theorem parts_iff {b:Addr}:Dj C a σ b <-> b=a\/b=σ.d\/(σ.ready ≠ none/\b=σ.ra)\/∃ n ∈ σ.nds,b=n.info\/b=n.succ:=by
 unfold Dj FSt.L
 simp only [List.map_append,List.map_cons,List.mem_append,List.mem_cons,List.map_map,List.mem_map,Function.comp]
 constructor
 ·rintro((h | h) | ⟨n,hn,rfl⟩)
  ·rcases h with h | h | h
   ·exact .inl h
   ·exact .inr (.inl h)
   ·cases hr:σ.ready with
    | none=>rw[hr]at h;simp at h
    | some r=>rw[hr]at h;simp at h;exact .inr (.inr (.inl ⟨by simp,h.symm⟩))
  ·obtain⟨n,hn,rfl⟩:=h;exact .inr (.inr (.inr ⟨n,hn,.inl rfl⟩))
  ·exact .inr (.inr (.inr ⟨n,hn,.inr rfl⟩))
 ·rintro(h | h | ⟨h,e⟩ | ⟨n,hn,h | h⟩)
  ·exact .inl (.inl (.inl h))
  ·exact .inl (.inl (.inr (.inl h)))
  ·left;left;right;right
   cases hr:σ.ready with
   | none=>exact absurd hr h
   | some r=>simp[e]
  ·exact .inl (.inr ⟨n,hn,h.symm⟩)
  ·exact .inr ⟨n,hn,h.symm⟩
structure Frm (C:Cx) (a:Addr) (H:AH) (σ:FSt) (H':AH) (σ':FSt):Prop where
 out:∀ b,¬ Dj C a σ b->H b ≠ none->H' b=H b
 new:∀ b,Dj C a σ' b->Dj C a σ b\/H b=none
theorem Frm.refl:Frm C a H σ H σ:=⟨fun z0 z0 z0=>rfl,fun z0 h=>.inl h⟩
theorem Frm.trans {H' H'':AH}{σ' σ'':FSt}(x:Frm C a H σ H' σ')(y:Frm C a H' σ' H'' σ''):Frm C a H σ H'' σ'':=by
 refine⟨fun b hb hn=>?_,fun b hb=>?_⟩
 ·have h1:=x.out b hb hn
  rw[<- h1]
  refine y.out b (fun q=>(x.new b q).elim hb hn) ?_
  rw[h1];exact hn
 ·rcases y.new b hb with q | q
  ·exact x.new b q
  ·by_cases hp:Dj C a σ b
   ·exact .inl hp
   ·by_cases hn:H b=none
    ·exact .inr hn
    ·rw[x.out b hp hn]at q;exact absurd q hn
theorem Frm.upd1 {H':AH}{σ':FSt}(hP:∀ b,Dj C a σ' b->Dj C a σ b)(hH:∀ b,¬ Dj C a σ b->H' b=H b):Frm C a H σ H' σ':=⟨fun b hb z0=>hH b hb,fun b hb=>.inl (hP b hb)⟩
theorem setN_parts {k:Int}{g:NodeS}{b:Addr}:Dj C a (σ.setN k g) b <-> Dj C a σ b:=by
 rw[parts_iff,parts_iff]
 have:(∃ n ∈ (σ.setN k g).nds,b=n.info\/b=n.succ) <-> ∃ n ∈ σ.nds,b=n.info\/b=n.succ:=by
  unfold FSt.setN
  dsimp only
  constructor
  ·rintro⟨n,hn,h⟩
   obtain⟨m,hm,rfl⟩:=List.mem_map.mp hn
   refine⟨m,hm,?_⟩
   set_option tactic.hygienic true in split at h <;> exact h
  ·rintro⟨n,hn,h⟩
   refine⟨_,List.mem_map.mpr ⟨n,hn,rfl⟩,?_⟩
   set_option tactic.hygienic true in split <;> exact h
 rw[this];rfl
theorem Us {k:Int}{g:NodeS}:(σ.setN k g).nds.map (·.info)=σ.nds.map (·.info):=by
 unfold FSt.setN;dsimp only;rw[List.map_map];apply List.map_congr_left;intro n _;show FN.info (if _ then _ else _)=_;set_option tactic.hygienic true in split <;> rfl
theorem Uq {k:Int}{g:NodeS}:(σ.setN k g).nds.map (·.succ)=σ.nds.map (·.succ):=by
 unfold FSt.setN;dsimp only;rw[List.map_map];apply List.map_congr_left;intro n _;show FN.succ (if _ then _ else _)=_;set_option tactic.hygienic true in split <;> rfl
theorem Xj {k:Int}{g:NodeS}(hg:g.key=k):(σ.setN k g).nds.map (·.nd.key)=σ.nds.map (·.nd.key):=by
 unfold FSt.setN;dsimp only;rw[List.map_map];apply List.map_congr_left;intro n _
 refine(?_:(if n.nd.key=k then ({ n with nd:=g }:FN) else n).nd.key=n.nd.key)
 set_option tactic.hygienic true in split
 ·rename_i h;rw[h];exact hg
 ·rfl
theorem Ut {k:Int}{g:NodeS}(hg:g.key=k):(σ.setN k g).dicL=σ.dicL:=by
 unfold FSt.dicL FSt.setN;dsimp only;rw[List.map_map];apply List.map_congr_left;intro n _
 refine(?_:((if n.nd.key=k then ({ n with nd:=g }:FN) else n).nd.key,AV.ref (if n.nd.key=k then ({ n with nd:=g }:FN) else n).info)=(n.nd.key,.ref n.info))
 set_option tactic.hygienic true in split
 ·rename_i h;rw[h];refine(?_:(g.key,_)=_);rw[hg]
 ·rfl
theorem Flat.node (F:Flat C lkD lkA H a σ){n0:FN}(hn0:n0 ∈ σ.nds){g:NodeS}(hg:g.key=n0.nd.key){H':AH}(hi':H' n0.info=some (.f (.slots C.niC (Er { n0 with nd:=g }))))(hs':H' n0.succ=some (.f (.lst (decide (lkA=some n0.succ)) (g.succs.map .int))))
  (ho:∀ b,b ≠ n0.info->b ≠ n0.succ->H' b=H b):Flat C lkD lkA H' a (σ.setN n0.nd.key g):=by
 have hne:∀ n ∈ σ.nds,n.nd.key ≠ n0.nd.key->n.info ≠ n0.info/\n.succ ≠ n0.succ:=fun n hn hk=>by
  have h1:=F.ni
  have h2:=F.ns
  refine⟨fun e=>hk ?_,fun e=>hk ?_⟩
  ·have:n=n0:=by
    rw[List.Nodup,List.pairwise_map]at h1
    clear F h2 hg hi' hk ho hs';obtain⟨i,hi,rfl⟩:=List.getElem_of_mem hn
    obtain⟨j,hj,rfl⟩:=List.getElem_of_mem hn0
    rw[List.pairwise_iff_getElem]at h1
    rcases Nat.lt_trichotomy i j with l | l | l
    ·exact absurd e (h1 i j hi hj l)
    ·subst l;rfl
    ·exact absurd e.symm (h1 j i hj hi l)
   rw[this]
  ·have:n=n0:=by
    rw[List.Nodup,List.pairwise_map]at h2
    clear F h1 hg hi' hk ho hs';obtain⟨i,hi,rfl⟩:=List.getElem_of_mem hn
    obtain⟨j,hj,rfl⟩:=List.getElem_of_mem hn0
    rw[List.pairwise_iff_getElem]at h2
    rcases Nat.lt_trichotomy i j with l | l | l
    ·exact absurd e (h2 i j hi hj l)
    ·subst l;rfl
    ·exact absurd e.symm (h2 j i hj hi l)
   rw[this]
 have hsame:∀ n ∈ σ.nds,n.nd.key=n0.nd.key->n=n0:=fun n hn hk=>by
  have h1:=F.nk
  rw[List.Nodup,List.pairwise_map]at h1
  clear F hg hi' hne ho hs';obtain⟨i,hi,rfl⟩:=List.getElem_of_mem hn
  obtain⟨j,hj,rfl⟩:=List.getElem_of_mem hn0
  rw[List.pairwise_iff_getElem]at h1
  rcases Nat.lt_trichotomy i j with l | l | l
  ·exact absurd hk (h1 i j hi hj l)
  ·subst l;rfl
  ·exact absurd hk.symm (h1 j i hj hi l)
 have his:∀ n ∈ σ.nds,n.info ≠ n0.succ:=fun n hn q=>by have:=F.hi n hn;rw[q,F.hs n0 hn0]at this;cases this
 have hsi:∀ n ∈ σ.nds,n.succ ≠ n0.info:=fun n hn q=>by have:=F.hs n hn;rw[q,F.hi n0 hn0]at this;cases this
 have hai:a ≠ n0.info:=fun q=>by have:=F.ha;rw[q,F.hi n0 hn0]at this;cases this
 have has:a ≠ n0.succ:=fun q=>by have:=F.ha;rw[q,F.hs n0 hn0]at this;cases this
 have hdi:σ.d ≠ n0.info:=fun q=>by have:=F.hd;rw[q,F.hi n0 hn0]at this;cases this
 have hds:σ.d ≠ n0.succ:=fun q=>by have:=F.hd;rw[q,F.hs n0 hn0]at this;cases this
 refine⟨?_,?_,fun r hr=>?_,fun n hn=>?_,fun n hn=>?_,by rw[Us];exact F.ni,by rw[Uq];exact F.ns,by rw[Xj hg];exact F.nk,fun hr n hn=>?_⟩
 ·rw[ho a hai has];exact F.ha
 ·refine(?_:H' σ.d=_)
  rw[ho _ hdi hds,Ut hg];exact F.hd
 ·refine(?_:H' σ.ra=_)
  have h1:=F.hr r hr
  rw[ho _ (fun q=>by rw[q,F.hi n0 hn0]at h1;clear hai has hdi hds hg hi' his hne ho hs' hsame hsi;cases h1) (fun q=>F.nr (by rw[show σ.ready=some r from hr];simp) n0 hn0 q.symm)]
  exact h1
 ·clear hai has hdi hds hg hn0 hs' hsi;obtain⟨m,hm,rfl⟩:=List.mem_map.mp hn
  by_cases hk:m.nd.key=n0.nd.key
  ·have:=hsame m hm hk;subst this
   simp only [if_true];exact hi'
  ·simp only [hk,if_false]
   rw[ho _ (hne m hm hk).1 (his m hm)];exact F.hi m hm
 ·clear hai has hdi hds hg hi' his hn0;obtain⟨m,hm,rfl⟩:=List.mem_map.mp hn
  by_cases hk:m.nd.key=n0.nd.key
  ·have:=hsame m hm hk;subst this
   simp only [if_true];exact hs'
  ·simp only [hk,if_false]
   rw[ho _ (hsi m hm) (hne m hm hk).2];exact F.hs m hm
 ·clear hai has hdi hds hg hi' his hn0 hne ho hs' hsame hsi;obtain⟨m,hm,rfl⟩:=List.mem_map.mp hn
  have:=F.nr hr m hm
  set_option tactic.hygienic true in split <;> exact this
end
end Mine
end
section
namespace Mine
section
variable {C:Cx} {lkD:Bool} {lkA:Option Addr} {H:AH} {a:Addr} {σ:FSt}
theorem Gm {i:Nat}{x:Addr}{vs:List (Option AV)}{v:AV}(h:H x=some (.f (.slots C.niC vs)))(hv:v.sto=true):Ha C i H (.ref x) v=some (upd H x (.f (.slots C.niC (Fv vs i v)))):=by
 unfold Ha;dsimp only;rw[h];dsimp only;rw[if_pos ⟨rfl,hv⟩]
theorem Fa {name:Str}{at':List (Str × AV)}{v:AV}(h:H a=some (.f (.inst C.tsC at')))(hv:v.sto=true)(hz:(Dt at' name v).length<=1000):Il C name H (.ref a) v=some (upd H a (.f (.inst C.tsC (Dt at' name v)))):=by
 unfold Il;dsimp only;rw[h];dsimp only;rw[if_pos ⟨rfl,hv,hz⟩]
theorem Ou {x:Addr}{k:Int}{Q:AV->AH->Prop}(hx:H x=some (.f (.slots C.niC [])))
  (hQ:∀ y,H y=none->Q .none (upd (upd H y (.f (.lst false []))) x (.f (.slots C.niC [some (.int k),some (.int 0),some (.ref y)])))):Gx C [.ref x,.int k] Q H:=by
 unfold Gx Bi
 refine⟨_,rfl,?_⟩
 unfold Kc
 generalize hρ:(fun i=>([.ref x,.int k]:List AV).getD i .undef)=ρ0
 change Rho at ρ0
 have r0:ρ0 0 = .ref x:=by rw[<- hρ];rfl
 have r1:ρ0 1 = .int k:=by rw[<- hρ];rfl
 refine⟨.int k,Ah r1,rfl,.ref x,_,Ae r0,Gm hx rfl,?_⟩
 refine⟨.int 0,rfl,rfl,.ref x,_,Ae r0,Gm Ad rfl,?_⟩
 refine⟨.lst false [],rfl,fun y hy=>?_⟩
 have hyx:y ≠ x:=by first | exact Ai Ad hy rfl | exact Ai hy Ad rfl
 rw[Aa hyx,Aa hyx]at hy
 refine⟨.ref x,_,Ae r0,Gm (vs:=Fv (Fv [] 0 (.int k)) 1 (.int 0)) (by rw[Aa (Ne.symm hyx),Ad]) rfl,?_⟩
 have:=hQ y hy
 refine(?_:Q .none _)
 have e:upd (upd (upd (upd H x (.f (.slots C.niC (Fv [] 0 (.int k))))) x (.f (.slots C.niC (Fv (Fv [] 0 (.int k)) 1 (.int 0))))) y (.f (.lst false []))) x (.f (.slots C.niC (Fv (Fv (Fv [] 0 (.int k)) 1 (.int 0)) 2 (.ref y))))
   = upd (upd H y (.f (.lst false []))) x (.f (.slots C.niC [some (.int k),some (.int 0),some (.ref y)])):=by
  funext b
  unfold upd
  by_cases h1:b=x
  ·simp only [h1,if_true];rfl
  ·simp only [h1,if_false]
 rw[e];exact this
noncomputable def FSt.addN (σ:FSt) (n:FN):FSt:={ σ with nds:=σ.nds++[n] }
theorem Vu {n:FN}{Q:AV->AH->Prop}(F:Flat C lkD lkA H a σ)(hn:n ∈ σ.nds)(hQ:Q (.ref n.info) H):An C [.ref a,.int n.nd.key] Q H:=by
 unfold An Bi
 refine⟨_,rfl,?_⟩
 unfold Cb
 generalize hρ:(fun i=>([.ref a,.int n.nd.key]:List AV).getD i .undef)=ρ0
 change Rho at ρ0
 have r0:ρ0 0 = .ref a:=by rw[<- hρ];rfl
 have r1:ρ0 1 = .int n.nd.key:=by rw[<- hρ];rfl
 refine⟨.ref n.info,false,?_,rfl,rfl,?_⟩
 ·simp only [opP,Aq,Ae r0,F.n2i,Ah r1];exact F.dget hn
 simp only [Bool.false_eq_true,if_false]
 exact⟨.ref n.info,Ae (by simp),rfl,hQ⟩
theorem bY {k:Int}{Q:AV->AH->Prop}(F:Flat C false lkA H a σ)(hk:k ∉ σ.nds.map (·.nd.key))(hz:σ.nds.length < lim)(hlA:∀ y,H y=none->lkA ≠ some y)
  (hQ:∀ x y H',H x=none->H y=none->x ≠ y->Flat C false lkA H' a (σ.addN ⟨x,y,⟨k,0,[]⟩⟩)->Frm C a H σ H' (σ.addN ⟨x,y,⟨k,0,[]⟩⟩)->Q (.ref x) H'):An C [.ref a,.int k] Q H:=by
 unfold An Bi
 refine⟨_,rfl,?_⟩
 unfold Cb
 generalize hρ:(fun i=>([.ref a,.int k]:List AV).getD i .undef)=ρ0
 change Rho at ρ0
 have r0:ρ0 0 = .ref a:=by rw[<- hρ];rfl
 have r1:ρ0 1 = .int k:=by rw[<- hρ];rfl
 refine⟨.none,true,?_,rfl,rfl,?_⟩
 ·simp only [opP,Aq,Ae r0,F.n2i,Ah r1];exact F.dget_none hk
 simp only [if_true]
 have q0:(ρ0.set 2 .none) 0 = .ref a:=by simp[Rho.set,r0]
 have q1:(ρ0.set 2 .none) 1 = .int k:=by simp[Rho.set,r1]
 refine⟨[.int k],by simp only [Af,Ak,Ah q1],rfl,?_⟩
 intro x hx
 refine Ou Ad fun y hy=>⟨rfl,?_⟩
 have hyx:y ≠ x:=by first | exact Ai Ad hy rfl | exact Ai hy Ad rfl
 rw[Aa hyx]at hy
 have hdx:σ.d ≠ x:=Ai F.hd hx rfl
 have hdy:σ.d ≠ y:=Ai F.hd hy rfl
 have hax:a ≠ x:=Ai F.ha hx rfl
 have hay:a ≠ y:=Ai F.ha hy rfl
 have had:a ≠ σ.d:=Ai F.ha F.hd rfl
 generalize hH1:upd (upd (upd H x (.f (.slots C.niC []))) y (.f (.lst false []))) x (.f (.slots C.niC [some (.int k),some (.int 0),some (.ref y)]))=H1
 have e1:∀ b,b ≠ x->b ≠ y->H1 b=H b:=fun b h1 h2=>by rw[<- hH1,Aa h1,Aa h2,Aa h1]
 have e2:H1 x=some (.f (.slots C.niC [some (.int k),some (.int 0),some (.ref y)])):=by rw[<- hH1,Ad]
 have e3:H1 y=some (.f (.lst false [])):=by rw[<- hH1,Aa hyx,Ad]
 have hH1a:attrD C "_node2info" H1 (.ref a)=some (.ref σ.d):=by
  have:=F.n2i
  unfold attrD at this ⊢
  dsimp only at this ⊢
  rw[e1 a hax hay];exact this
 have hset:Od H1 (.ref σ.d) (.int k) (.ref x)=some (upd H1 σ.d (.f (.dic false (σ.dicL++[(k,.ref x)])))):=by
  rw[Sp]
  simp only [e1 σ.d hdx hdy,F.hd]
  rw[if_pos ⟨by unfold FSt.dicL;rw[Fq hk];rfl,rfl,by simpa [FSt.dicL]using hz⟩]
 refine⟨.ref σ.d,.int k,_,?_,Ah q1,hset,?_⟩
 ·simp only [Aq,Ae q0];exact hH1a
 refine⟨.ref x,Ae (by simp),rfl,?_⟩
 have g1:∀ b,b ≠ x->b ≠ y->b ≠ σ.d->upd H1 σ.d (.f (.dic false (σ.dicL++[(k,.ref x)]))) b=H b:=fun b h1 h2 h3=>by rw[Aa h3,e1 b h1 h2]
 have gx:upd H1 σ.d (.f (.dic false (σ.dicL++[(k,.ref x)]))) x=some (.f (.slots C.niC [some (.int k),some (.int 0),some (.ref y)])):=by rw[Aa (Ne.symm hdx),e2]
 have gy:upd H1 σ.d (.f (.dic false (σ.dicL++[(k,.ref x)]))) y=some (.f (.lst false [])):=by rw[Aa (Ne.symm hdy),e3]
 have ixn:∀ n ∈ σ.nds,n.info ≠ x/\n.info ≠ y/\n.info ≠ σ.d/\n.succ ≠ x/\n.succ ≠ y/\n.succ ≠ σ.d:=fun n hn=>by
  have h1:=F.hi n hn
  have h2:=F.hs n hn
  refine⟨fun q=>?_,fun q=>?_,fun q=>?_,fun q=>?_,fun q=>?_,fun q=>?_⟩
  ·rw[q,hx]at h1;exact nqa h1
  ·rw[q,hy]at h1;exact nqa h1
  ·rw[q,F.hd]at h1;clear F e1 e2 e3 g1 gx gy h2 hH1 hH1a hQ had hax hay hdx hdy hk hlA hn hset hx hy hyx hz hρ q q0 q1 r0 r1;cases h1
  ·rw[q,hx]at h2;exact nqa h2
  ·rw[q,hy]at h2;exact nqa h2
  ·rw[q,F.hd]at h2;clear F e1 e2 e3 g1 gx gy h1 hH1 hH1a hQ had hax hay hdx hdy hk hlA hn hset hx hy hyx hz hρ q q0 q1 r0 r1;cases h2
 refine hQ x y _ hx hy (Ne.symm hyx) ⟨?_,?_,fun r hr=>?_,fun n hn=>?_,fun n hn=>?_,?_,?_,?_,fun hr n hn=>?_⟩ ⟨fun b hb hne=>?_,fun b hb=>?_⟩
 ·rw[g1 a hax hay had];exact F.ha
 ·refine(?_:upd H1 σ.d _ σ.d=_)
  rw[Ad]
  simp[FSt.addN,FSt.dicL]
 ·refine(?_:upd H1 σ.d _ σ.ra=_)
  have h1:=F.hr r hr
  rw[g1 σ.ra (Ai h1 hx rfl) (Ai h1 hy rfl) (Ai h1 F.hd rfl)]
  exact h1
 ·rcases List.mem_append.mp hn with hn | hn
  ·refine Ac fun PP ret=>?_
   obtain⟨i1,i2,i3,_⟩:=ixn n hn
   refine ret ?_
   rw[g1 _ i1 i2 i3];exact F.hi n hn
  ·simp at hn;clear F e1 e2 e3 g1 gy hH1 hH1a hQ had hax hay hdx hdy hk hlA hset hx hy hyx hz hρ ixn q0 q1 r0 r1;subst hn;exact gx
 ·rcases List.mem_append.mp hn with hn | hn
  ·refine Ac fun PP ret=>?_
   obtain⟨_,_,_,i1,i2,i3⟩:=ixn n hn
   refine ret ?_
   rw[g1 _ i1 i2 i3];exact F.hs n hn
  ·simp at hn;clear F e1 e2 e3 g1 gx hH1 hH1a hQ had hax hay hdx hdy hk hset hx hyx hz hρ ixn q0 q1 r0 r1;subst hn
   refine(?_:upd H1 σ.d _ y=_)
   rw[gy]
   have:lkA ≠ some y:=hlA y hy
   simp[this]
 ·refine(?_:((σ.nds++[_]).map _).Nodup)
  rw[List.map_append,List.nodup_append]
  refine⟨F.ni,by simp,fun u hu v hv=>?_⟩
  simp at hv;clear F e1 e2 e3 g1 gx gy hH1 hH1a hQ had hax hay hdx hdy hk hlA hset hx hy hyx hz hρ q0 q1 r0 r1;subst hv
  refine Ac fun PP ret=>?_
  obtain⟨n,hn,rfl⟩:=List.mem_map.mp hu
  refine ret ?_
  exact(ixn n hn).1
 ·refine(?_:((σ.nds++[_]).map _).Nodup)
  rw[List.map_append,List.nodup_append]
  refine⟨F.ns,by simp,fun u hu v hv=>?_⟩
  simp at hv;clear F e1 e2 e3 g1 gx gy hH1 hH1a hQ had hax hay hdx hdy hk hlA hset hx hy hyx hz hρ q0 q1 r0 r1;subst hv
  refine Ac fun PP ret=>?_
  obtain⟨n,hn,rfl⟩:=List.mem_map.mp hu
  refine ret ?_
  exact(ixn n hn).2.2.2.2.1
 ·refine(?_:((σ.nds++[_]).map _).Nodup)
  rw[List.map_append,List.nodup_append]
  refine⟨F.nk,by simp,fun u hu v hv=>?_⟩
  simp at hv;clear F e1 e2 e3 g1 gx gy hH1 hH1a hQ had hax hay hdx hdy hlA hset hx hy hyx hz hρ ixn q0 q1 r0 r1;subst hv
  exact fun e=>hk (e ▸ hu)
 ·rcases List.mem_append.mp hn with hn | hn
  ·exact F.nr hr n hn
  ·simp at hn;clear e1 e2 e3 g1 gx gy hH1 hH1a hQ had hax hay hdx hdy hk hlA hset hx hyx hz hρ ixn q0 q1 r0 r1;subst hn
   refine(?_:y ≠ σ.ra)
   intro e
   cases q:σ.ready with
   | none=>exact hr q
   | some r=>have:=F.hr r q;rw[<- e,hy]at this;exact nqa this
 ·refine g1 b (fun q=>?_) (fun q=>?_) (fun q=>hb (parts_iff.mpr (.inr (.inl q))))
  ·rw[q]at hne;exact hne hx
  ·rw[q]at hne;exact hne hy
 ·rcases parts_iff.mp hb with q | q | q | ⟨n,hn,q⟩
  ·exact .inl (parts_iff.mpr (.inl q))
  ·exact .inl (parts_iff.mpr (.inr (.inl q)))
  ·exact .inl (parts_iff.mpr (.inr (.inr (.inl q))))
  ·rcases List.mem_append.mp hn with hn | hn
   ·exact .inl (parts_iff.mpr (.inr (.inr (.inr ⟨n,hn,q⟩))))
   ·simp at hn;clear F e1 e2 e3 g1 gx gy hH1 hH1a hQ had hax hay hb hdx hdy hk hlA hset hyx hz hρ ixn q0 q1 r0 r1;subst hn
    rcases q with q | q
    ·right;rw[q];exact hx
    ·right;rw[q];exact hy
theorem Ql {k:Int}{Q:AV->AH->Prop}(F:Flat C false none H a σ)(hz:σ.nds.length < lim)
  (hQ:∀ H' σ' n,Flat C false none H' a σ'->Frm C a H σ H' σ'->n ∈ σ'.nds->n.nd.key=k->σ'.toS=σ.toS.get k->Q (.ref n.info) H'):An C [.ref a,.int k] Q H:=by
 by_cases hk:k ∈ σ.nds.map (·.nd.key)
 ·obtain⟨n,hn,rfl⟩:=List.mem_map.mp hk
  refine Vu F hn (hQ H σ n F .refl hn rfl ?_)
  unfold SState.get
  rw[if_pos (by simpa [SState.keys,FSt.toS,List.map_map,Function.comp_def]using hk)]
 ·refine bY F hk hz (fun z0 z0 q=>by exact nqa q) fun x y H' hx hy hxy F' fr=>hQ H' _ ⟨x,y,⟨k,0,[]⟩⟩ F' fr (by simp[FSt.addN]) rfl ?_
  unfold SState.get
  rw[if_neg (by simpa [SState.keys,FSt.toS,List.map_map,Function.comp_def]using hk)]
  simp[FSt.toS,FSt.addN]
end
end Mine
end
section
namespace Mine
noncomputable def SState.Bd (S:SState) (B:Nat):Prop:=S.nodes.length<=B/\∀ n ∈ S.nodes,n.succs.length<=B
noncomputable def SState.arc (k:Int) (S:SState) (p:Int):SState:=(S.get p).set p { (S.get p).node p with succs:=((S.get p).node p).succs++[k] }
noncomputable def SState.add (S:SState) (k:Int) (ps:List Int):SState:=ps.foldl (SState.arc k) ((S.get k).set k { (S.get k).node k with npred:=((S.get k).node k).npred + ps.length })
theorem SState.Bd.mono {S:SState}{B B':Nat}(h:S.Bd B)(hB:B<=B'):S.Bd B':=⟨Nat.le_trans h.1 hB,fun n hn=>Nat.le_trans (h.2 n hn) hB⟩
theorem SState.Bd.get {S:SState}{B:Nat}(h:S.Bd B)(k:Int):(S.get k).Bd (B + 1):=by
 unfold SState.get
 split
 ·exact h.mono (Nat.le_succ _)
 ·refine⟨by simp;exact h.1,fun n hn=>?_⟩
  rcases List.mem_append.mp hn with q | q
  ·exact Nat.le_succ_of_le (h.2 n q)
  ·simp at q;clear h hn;subst q;simp
theorem SState.Bd.set {S:SState}{B:Nat}(h:S.Bd B){k:Int}{g:NodeS}(hg:g.succs.length<=B):(S.set k g).Bd B:=by
 refine⟨by simp[SState.set];exact h.1,fun n hn=>?_⟩
 obtain⟨m,hm,rfl⟩:=List.mem_map.mp hn
 split
 ·exact hg
 ·exact h.2 m hm
theorem SState.node_succs {S:SState}{B:Nat}(h:S.Bd B)(k:Int):(S.node k).succs.length<=B:=by
 unfold SState.node
 cases q:S.nodes.find? (fun n=>decide (n.key=k)) with
 | none=>simp
 | some n=>exact h.2 n (List.mem_of_find?_eq_some q)
theorem SState.Bd.arc {S:SState}{B:Nat}(h:S.Bd B)(k p:Int):(S.arc k p).Bd (B + 2):=by
 unfold SState.arc
 have h1:=h.get p
 refine(h1.mono (Nat.le_succ _)).set ?_
 have:=SState.node_succs h1 p
 simp;exact Ar.r72 this
theorem SState.ready_get {S:SState}{k:Int}:(S.get k).ready=S.ready:=by unfold SState.get;split <;> rfl
section
variable {C:Cx} {lkD:Bool} {lkA:Option Addr} {H:AH} {a:Addr} {σ:FSt}
theorem Po {i:Nat}{W:Wp AV}{T':Wp AFlow}{Q:AFlow->Rho->AH->Prop}{ρ:Rho}{H:AH}(h:W (fun v ρ H=>T' Q (ρ.set i v) H) ρ H):Ab (Bj i W) T' Q ρ H:=h
theorem Im {c:CF}{T T':Wp AFlow}{Q:AFlow->Rho->AH->Prop}{ρ:Rho}{H:AH}(hc:c ρ H=some false)(h:T' Q ρ H):Ab (ifT (Az c) T Ag) T' Q ρ H:=⟨false,hc,h⟩
theorem Ba (l:List Int):AV.stos (l.map .int)=true:=by rw[stos_iff];intro v hv;obtain⟨x,_,rfl⟩:=List.mem_map.mp hv;rfl
theorem Qg {vs:List AV}:Fw H [.tup vs]=some (.int vs.length):=rfl
theorem Flat.app (F:Flat C false none H a σ){n:FN}(hn:n ∈ σ.nds){k:Int}:Flat C false none (upd H n.succ (.f (.lst false ((n.nd.succs++[k]).map .int)))) a (σ.setN n.nd.key { n.nd with succs:=n.nd.succs++[k] }) /\
  Frm C a H σ (upd H n.succ (.f (.lst false ((n.nd.succs++[k]).map .int)))) (σ.setN n.nd.key { n.nd with succs:=n.nd.succs++[k] }):=by
 have hsi:n.info ≠ n.succ:=fun q=>by have:=F.hi n hn;rw[q,F.hs n hn]at this;cases this
 refine⟨F.node (g:={ n.nd with succs:=n.nd.succs++[k] }) (H':=upd H n.succ (.f (.lst false ((n.nd.succs++[k]).map .int)))) hn rfl ?_ ?_ fun b h1 h2=>Aa h2,.upd1 (fun b hb=>setN_parts.mp hb) fun b hb=>Aa fun q=>hb (parts_iff.mpr (.inr (.inr (.inr ⟨n,hn,.inr q⟩))))⟩
 ·rw[Aa hsi];exact F.hi n hn
 ·rw[Ad];simp
theorem Flat.npred (F:Flat C lkD lkA H a σ){n:FN}(hn:n ∈ σ.nds){v:Int}:Flat C lkD lkA (upd H n.info (.f (.slots C.niC (Fv (Er n) 1 (.int v))))) a (σ.setN n.nd.key { n.nd with npred:=v }) /\
  Frm C a H σ (upd H n.info (.f (.slots C.niC (Fv (Er n) 1 (.int v))))) (σ.setN n.nd.key { n.nd with npred:=v }):=by
 have hsi:n.succ ≠ n.info:=fun q=>by have:=F.hi n hn;rw[<- q,F.hs n hn]at this;cases this
 refine⟨F.node (g:={ n.nd with npred:=v }) (H':=upd H n.info (.f (.slots C.niC (Fv (Er n) 1 (.int v))))) hn rfl ?_ ?_ fun b h1 h2=>Aa h1,.upd1 (fun b hb=>setN_parts.mp hb) fun b hb=>Aa fun q=>hb (parts_iff.mpr (.inr (.inr (.inr ⟨n,hn,.inl q⟩))))⟩
 ·rw[Ad];rfl
 ·rw[Aa hsi];exact F.hs n hn
theorem Qe {f:PF}{ρ:Rho}{k:Int}{fs:LF}{Q:AV->Rho->AH->Prop}(F:Flat C lkD lkA H a σ)(hf:f ρ H=some (.ref a))(hfs:fs ρ H=some [.int k])(hW:An C [.ref a,.int k] (fun v H'=>Q v ρ H') H):Bv C "_get_nodeinfo" f fs (An C) Q ρ H :=
 ⟨a,Bk,[.int k],hf,F.inst,by decide,hfs,rfl,hW⟩
theorem Zx {k:Int}{ps:List Int}{B:Nat}{Q:AV->AH->Prop}(F:Flat C false none H a σ)(hr:σ.ready=none)(hB:σ.toS.Bd B)(hz:B + 2 * ps.length + 2 < lim)
  (hQ:∀ H' σ',Flat C false none H' a σ'->Frm C a H σ H' σ'->σ'.toS=σ.toS.add k ps->Q .none H'):Jd C (.ref a :: .int k :: ps.map .int) Q H:=by
 unfold Jd Bi
 refine⟨[.ref a,.int k,.tup (ps.map .int)],?_,?_⟩
 ·unfold Kv;rw[if_pos ⟨by simp,by simp;exact Ar.r126 hz⟩];rfl
 unfold Mt
 generalize hρ:(fun i=>([.ref a,.int k,.tup (ps.map .int)]:List AV).getD i .undef)=ρ0
 change Rho at ρ0
 have r0:ρ0 0 = .ref a:=by rw[<- hρ];rfl
 have r1:ρ0 1 = .int k:=by rw[<- hρ];rfl
 have r2:ρ0 2 = .tup (ps.map .int):=by rw[<- hρ];rfl
 refine Im ?_ ?_
 ·simp only [Aw,Aq,Ae r0,F.rdyA,cP]
  unfold FSt.rdy;rw[hr];rfl
 refine Po (Qe (k:=k) F (Ae r0) (by simp only [Af,Ak,Ah r1]) ?_)
 refine Ql F (by have:=hB.1;simp[FSt.toS]at this;exact Ar.r125 hz this) fun H1 σ1 n F1 fr1 hn1 hk1 hS1=>?_
 have q3:(ρ0.set 3 (.ref n.info)) 3 = .ref n.info:=by simp
 have q2:(ρ0.set 3 (.ref n.info)) 2 = .tup (ps.map .int):=by simp[Rho.set,r2]
 have q0:(ρ0.set 3 (.ref n.info)) 0 = .ref a:=by simp[Rho.set,r0]
 have q1:(ρ0.set 3 (.ref n.info)) 1 = .int k:=by simp[Rho.set,r1]
 have v2:∀ H,vP 2 (ρ0.set 3 (.ref n.info)) H=some (.tup (ps.map .int)):=fun H=>by unfold vP;rw[q2]
 refine⟨.ref n.info,.int n.nd.npred,.int ps.length,.int (n.nd.npred + ps.length),_,Ae q3,F1.npredA hn1,?_,rfl,Gm (F1.hi n hn1) rfl,?_⟩
 ·simp only [bP',Af,Ak,v2,Qg,List.length_map]
 obtain⟨F2,fr2⟩:=F1.npred hn1 (v:=n.nd.npred + ps.length)
 generalize upd H1 n.info (.f (.slots C.niC (Fv (Er n) 1 (.int (n.nd.npred + ps.length)))))=H2 at F2 fr2 ⊢
 have hS2:(σ1.setN n.nd.key { n.nd with npred:=n.nd.npred + ps.length }).toS=(σ.toS.get k).set k { (σ.toS.get k).node k with npred:=((σ.toS.get k).node k).npred + ps.length }:=by
  rw[FSt.setN_toS,hS1]
  have:n.nd=(σ.toS.get k).node k:=by rw[<- hS1,<- hk1];exact(Ei F1.nk hn1).symm
  rw[hk1,this]
 generalize σ1.setN n.nd.key { n.nd with npred:=n.nd.npred + ps.length }=σ2 at F2 fr2 hS2
 have fr12:=fr1.trans fr2
 refine⟨ps.map .int,?_,Ba ps,?_⟩
 ·unfold Ix;rw[v2];rfl
 have hB2:σ2.toS.Bd (B + 1):=by
  rw[hS2]
  exact(hB.get k).set (SState.node_succs (hB.get k) k)
 unfold SState.add at hQ
 rw[<- hS2]at hQ
 clear hS2 F1 fr1 fr2 hS1
 generalize hρ1:ρ0.set 3 (.ref n.info)=ρ1 at q0 q1 ⊢
 clear hρ1
 have main:∀ (l:List Int) (B:Nat) (ρ:Rho) (H2:AH) (σ2:FSt),Flat C false none H2 a σ2->Frm C a H σ H2 σ2->σ2.toS.Bd B->B + 2 * l.length < lim->ρ 0 = .ref a->ρ 1 = .int k->(∀ H' σ',Flat C false none H' a σ'->Frm C a H σ H' σ'->σ'.toS=l.foldl (SState.arc k) σ2.toS->Q .none H') ->
   Di (.one 4) (Ab (Bj 5 (Bv C "_get_nodeinfo" (vP 0) (Af (vP 4) Ak) (An C))) (Ab (Av (Ms (Aq (attrS C 2) (vP 5)) (vP 1))) Ag)) (fun f ρ H=>match f with
    | .next=>Ag (fun fl z0 H'=>match fl with | .ret v=>Q v H' | .next=>Q .none H' | _=>False) ρ H
    | f=>(match f with | .ret v=>Q v H | .next=>Q .none H | _=>False)) (l.map .int) ρ H2:=by
  intro l
  induction l with
  | nil=>intro B ρ H2 σ2 F2 fr2 hB hz e0 e1 hQ;exact hQ H2 σ2 F2 fr2 rfl
  | cons p l ih =>
   intro B ρ H2 σ2 F2 fr2 hB hz e0 e1 hQ
   simp only [List.length_cons]at hz
   refine⟨ρ.set 4 (.int p),rfl,?_⟩
   refine Po (Qe (k:=p) F2 (Ae (by simp[Rho.set,e0])) (by simp only [Af,Ak,Ah (i:=4) (ρ:=ρ.set 4 (.int p)) (x:=p) (by simp)]) ?_)
   refine Ql F2 (by have:=hB.1;simp[FSt.toS]at this;exact Ar.r141 hz this) fun H3 σ3 m F3 fr3 hm hmk hS3=>?_
   have hB3:σ3.toS.Bd (B + 1):=by rw[hS3];exact hB.get p
   have hml:m.nd.succs.length<=B + 1:=hB3.2 m.nd (List.mem_map.mpr ⟨m,hm,rfl⟩)
   obtain⟨F4,fr4⟩:=F3.app hm (k:=k)
   refine⟨.ref m.succ,m.nd.succs.map .int,.int k,upd H3 m.succ (.f (.lst false (m.nd.succs.map .int++[.int k]))),?_,?_,Ah (by simp[Rho.set,e1]),?_,?_⟩
   ·simp only [Aq,Ae (i:=5) (ρ:=(ρ.set 4 (.int p)).set 5 (.ref m.info)) (x:=m.info) (by simp)];exact F3.succA hm
   ·have:=F3.hs m hm;simp at this;simp[Dz,Eu,this]
   ·have:=F3.hs m hm
    simp at this
    unfold He;simp only [this]
    rw[if_pos ⟨by simp;exact Ar.r140 hz hml,by rw[stos_iff];intro v hv;simp at hv;rcases hv with ⟨x,_,rfl⟩ | rfl <;> rfl⟩]
   have e:m.nd.succs.map AV.int++[.int k]=(m.nd.succs++[k]).map .int:=by simp
   rw[e]
   have hS4:(σ3.setN m.nd.key { m.nd with succs:=m.nd.succs++[k] }).toS=SState.arc k σ2.toS p:=by
    rw[FSt.setN_toS,hS3]
    unfold SState.arc
    have:m.nd=(σ2.toS.get p).node p:=by rw[<- hS3,<- hmk];exact(Ei F3.nk hm).symm
    rw[hmk,this]
   refine ih (B + 2) _ _ _ F4 ((fr2.trans fr3).trans fr4) ?_ (by exact Ar.r142 hz) (by simp[Rho.set,e0]) (by simp[Rho.set,e1]) ?_
   ·rw[hS4];exact hB.arc k p
   ·intro H' σ' F' fr' hS'
    refine hQ H' σ' F' fr' ?_
    rw[hS',hS4];rfl
 exact main ps (B + 1) _ H2 σ2 F2 fr12 hB2 (by exact Ar.r127 hz) q0 q1 hQ
end
end Mine
end
section
namespace Mine
section
variable {C:Cx} {i:Nat} {f f' fv fo fi:PF} {fs:LF} {W:FW} {T T' T1 T2:Wp AFlow} {Q:AFlow->Rho->AH->Prop} {ρ:Rho} {H:AH} {v:AV} {vs:List AV} {c:CF} {tg:Tgt} {a:Addr}
theorem Pu (hv:f ρ H=some v)(hs:v.sto=true)(h:T' Q (ρ.set i v) H):Ab (Bj i (Am f)) T' Q ρ H:=⟨v,hv,hs,h⟩
theorem Lv {m:Rho->AH->Option FObj}{o:FObj}(hm:m ρ H=some o)(h:∀ a,H a=none->T' Q (ρ.set i (.ref a)) (upd H a (.f o))):Ab (Bj i (Eh m)) T' Q ρ H:=⟨o,hm,h⟩
theorem cN (hfs:fs ρ H=some vs)(hst:AV.stos vs=true)(h:W vs (fun v H'=>T' Q (ρ.set i v) H') H):Ab (Bj i (Ci fs W)) T' Q ρ H:=⟨vs,hfs,hst,h⟩
theorem Xm (hfs:fs ρ H=some vs)(hst:AV.stos vs=true)(h:W vs (fun v H'=>T' Q ρ H') H):Ab (Av (Ci fs W)) T' Q ρ H:=⟨vs,hfs,hst,h⟩
theorem gF {name:Str}{ns:List Str}(hf:f ρ H=some (.ref a))(hi:Bl C H a=some ns)(hn:name ∉ ns)(hfs:fs ρ H=some vs)(hst:AV.stos vs=true)(h:W (.ref a :: vs) (fun v H'=>T' Q (ρ.set i v) H') H):Ab (Bj i (Bv C name f fs W)) T' Q ρ H:=⟨a,ns,vs,hf,hi,hn,hfs,hst,h⟩
theorem Ru {name:Str}{ns:List Str}(hf:f ρ H=some (.ref a))(hi:Bl C H a=some ns)(hn:name ∉ ns)(hfs:fs ρ H=some vs)(hst:AV.stos vs=true)(h:W (.ref a :: vs) (fun v H'=>T' Q ρ H') H):Ab (Av (Bv C name f fs W)) T' Q ρ H:=⟨a,ns,vs,hf,hi,hn,hfs,hst,h⟩
theorem gG {vs:List AV}{x:AV}{H':AH}(hv:f ρ H=some v)(hs:Bf H v=some vs)(hx:f' ρ H=some x)(hp:He H v (vs++[x])=some H')(h:T' Q ρ H'):Ab (Av (Ms f f')) T' Q ρ H:=⟨v,vs,x,H',hv,hs,hx,hp,h⟩
theorem dW (hc:c ρ H=some true)(h:Ab T1 T' Q ρ H):Ab (ifT (Az c) T1 T2) T' Q ρ H:=⟨true,hc,h⟩
theorem iM (hc:c ρ H=some false)(h:Ab T2 T' Q ρ H):Ab (ifT (Az c) T1 T2) T' Q ρ H:=⟨false,hc,h⟩
theorem Pv (hc:c ρ H=some false)(h:T' Q ρ H):Ab (ifT (Az c) T1 Ag) T' Q ρ H:=⟨false,hc,h⟩
noncomputable def Bh (T':Wp AFlow) (Q:AFlow->Rho->AH->Prop):AFlow->Rho->AH->Prop:=fun f ρ H=>match f with
 | .next=>T' Q ρ H
 | f=>Q f ρ H
theorem Rw (h:Ab T1 (Ab T2 T') Q ρ H):Ab (Ab T1 T2) T' Q ρ H:=by
 have e:Bh (Ab T2 T') Q=Bh T2 (Bh T' Q):=by funext f ρ H;cases f <;> rfl
 have h':T1 (Bh (Ab T2 T') Q) ρ H:=h
 rw[e]at h'
 exact h'
theorem cL (h:T' Q ρ H):Ab Ag T' Q ρ H:=h
theorem gE (hv:f ρ H=some v)(hs:v.sto=true)(h:Q (.ret v) ρ H):Ab (Hd (Am f)) T' Q ρ H:=⟨v,hv,hs,h⟩
theorem Rv (hfs:fs ρ H=some vs)(hst:AV.stos vs=true)(h:Di tg T (fun f ρ H=>match f with | .next=>T' Q ρ H | f=>Q f ρ H) vs ρ H):Ab (Ib fs tg T) T' Q ρ H:=⟨vs,hfs,hst,h⟩
theorem cM {o:FObj}(ha:H a=some (.f o))(hl:o.hold.lk=true)(h:T (fun fl ρ' H'=>(match fl with | .next=>T' Q ρ' (upd H' a (.f o)) | f=>Q f ρ' (upd H' a (.f o)))) ρ (upd H a (.f o.hold))):Ab (Tt T) T' Q ρ H:=⟨a,o,ha,hl,by
 have e:(fun (fl:AFlow) (ρ':Rho) (H':AH)=>(match fl with | .next=>T' Q ρ' (upd H' a (.f o)) | f=>Q f ρ' (upd H' a (.f o))))=fun fl ρ' H'=>(fun (f:AFlow) (ρ:Rho) (H:AH)=>match f with | .next=>T' Q ρ H | f=>Q f ρ H) fl ρ' (upd H' a (.f o)):=by funext fl ρ' H';cases fl <;> rfl
 rw[e]at h;exact h⟩
theorem iL {ρ':Rho}(hfs:fs ρ H=some vs)(hst:AV.stos vs=true)(h:W vs (fun v H'=>∃ ρ',tg.put H' v ρ=some ρ'/\T' Q ρ' H') H):Ab (dL tg (Ci fs W)) T' Q ρ H:=⟨vs,hfs,hst,h⟩
theorem Ju {K:AFlow->Rho->AH->Prop}(I:Nat->Rho->AH->Prop)(h0:I 0 ρ H)
  (step:∀ (i:Nat) (v:AV) (ρ:Rho) (H:AH) (K':AFlow->Rho->AH->Prop),vs[i]? = some v->I i ρ H->(∀ ρ2 H2,I (i + 1) ρ2 H2->K' .next ρ2 H2/\K' .cont ρ2 H2)->∃ ρ',tg.put H v ρ=some ρ'/\T K' ρ' H)
  (fin:∀ ρ H,I vs.length ρ H->K .next ρ H):Di tg T K vs ρ H:=by
 have main:∀ (l:List AV) (j:Nat) (ρ:Rho) (H:AH),(∀ i,l[i]? = vs[j + i]?)->j + l.length=vs.length->I j ρ H->Di tg T K l ρ H:=by
  intro l
  induction l with
  | nil=>intro j ρ H hl hj hI;simp at hj;subst hj;exact fin ρ H hI
  | cons v l ih =>
   intro j ρ H hl hj hI
   obtain⟨ρ',hput,hT⟩:=step j v ρ H (fun f ρ2 H2=>match f with
    | .next=>Di tg T K l ρ2 H2
    | .cont=>Di tg T K l ρ2 H2
    | .brk=>K .next ρ2 H2
    | .ret v=>K (.ret v) ρ2 H2) (by have:=hl 0;simpa using this.symm) hI (fun ρ2 H2 hI2=>by
     have:=ih (j + 1) ρ2 H2 (fun i=>by have:=hl (i + 1);rw[List.getElem?_cons_succ]at this;rw[this];congr 1;exact Ar.r4) (by simp at hj;exact Ar.r7 hj) hI2
     exact⟨this,this⟩)
   exact⟨ρ',hput,hT⟩
 exact main vs 0 ρ H (fun i=>by simp) (by simp) h0
theorem Lp {l:List Int}{x:Nat}{K:AFlow->Rho->AH->Prop}(I:Nat->Rho->AH->Prop)(h0:I 0 ρ H)
  (step:∀ (i:Nat) (k:Int) (ρ:Rho) (H:AH) (K':AFlow->Rho->AH->Prop),l[i]? = some k->I i ρ H->(∀ ρ2 H2,I (i + 1) ρ2 H2->K' .next ρ2 H2/\K' .cont ρ2 H2)->T K' (ρ.set x (.int k)) H)
  (fin:∀ ρ H,I l.length ρ H->K .next ρ H):Di (.one x) T K (l.map .int) ρ H:=by
 refine Ju I h0 (fun i v ρ H K' hv hI hK=>?_) (by simpa using fin)
 rw[List.getElem?_map]at hv
 obtain⟨k,hk,rfl⟩:=Option.map_eq_some_iff.mp hv
 exact⟨_,rfl,step i k ρ H K' hk hI hK⟩
end
end Mine
end
section
namespace Mine
noncomputable def SState.empty:SState:=⟨[],none,0,0⟩
noncomputable def SState.out (S:SState) (k:Int):SState:=S.set k { S.node k with npred:=-1 }
noncomputable def SState.getReady (S:SState) (r:List Int):SState:={ r.foldl SState.out S with ready:=some [],passed:=S.passed + r.length }
noncomputable def SState.active (S:SState) (r:List Int):Bool:=decide (S.fin < S.passed) || !r.isEmpty
noncomputable def SState.dec (S:SState) (s:Int):SState :=
 let S':=S.set s { S.node s with npred:=(S.node s).npred - 1 }
 if (S.node s).npred - 1=0 then { S' with ready:=S'.ready.map (·++[s]) } else S'
noncomputable def SState.done1 (S:SState) (k:Int):SState :=
 let S2:=(S.node k).succs.foldl SState.dec (S.set k { S.node k with npred:=-2 })
 { S2 with fin:=S2.fin + 1 }
section
variable {C:Cx} {lkD:Bool} {lkA:Option Addr} {H:AH} {a:Addr} {σ:FSt}
theorem Ye {Q:AV->AH->Prop}(hQ:∀ a H' σ,H a=none->Flat C false none H' a σ->σ.toS = .empty->(∀ b o,H b=some o->H' b=some o)->(∀ b,Dj C a σ b->H b=none)->Q (.ref a) H'):Bg C [] Q H:=by
 intro a ha
 unfold Jy Bi
 refine⟨[.ref a,.none],rfl,?_⟩
 unfold Ka
 generalize hρ:(fun i=>([.ref a,.none]:List AV).getD i .undef)=ρ0
 change Rho at ρ0
 have r0:ρ0 0 = .ref a:=by rw[<- hρ];rfl
 have r1:ρ0 1 = .none:=by rw[<- hρ];rfl
 refine⟨.dic false [],rfl,fun d hd=>?_⟩
 have hda:d ≠ a:=by first | exact Ai Ad hd rfl | exact Ai hd Ad rfl
 rw[Aa hda]at hd
 refine⟨.ref a,_,Ae r0,Fa (at':=[]) (by rw[Aa (Ne.symm hda),Ad]) rfl (Nat.le_of_ble_eq_true rfl),?_⟩
 refine⟨.none,rfl,rfl,.ref a,_,Ae r0,Fa Ad rfl (Nat.le_of_ble_eq_true rfl),?_⟩
 refine⟨.int 0,rfl,rfl,.ref a,_,Ae r0,Fa Ad rfl (Nat.le_of_ble_eq_true rfl),?_⟩
 refine⟨.int 0,rfl,rfl,.ref a,_,Ae r0,Fa Ad rfl (Nat.le_of_ble_eq_true rfl),?_⟩
 refine Im ?_ ?_
 ·have:∀ H,vP 1 ρ0 H=some .none:=fun H=>by unfold vP;rw[r1]
  simp only [Aw,this,cP];rfl
 refine⟨rfl,?_⟩
 generalize hH:upd (upd (upd (upd (upd (upd H a (.f (.inst C.tsC []))) d (.f (.dic false []))) a (.f (.inst C.tsC (Dt [] "_node2info" (.ref d))))) a (.f (.inst C.tsC (Dt (Dt [] "_node2info" (.ref d)) "_ready_nodes" .none)))) a (.f (.inst C.tsC (Dt (Dt (Dt [] "_node2info" (.ref d)) "_ready_nodes" .none) "_npassedout" (.int 0))))) a (.f (.inst C.tsC (Dt (Dt (Dt (Dt [] "_node2info" (.ref d)) "_ready_nodes" .none) "_npassedout" (.int 0)) "_nfinished" (.int 0))))=H1
 have e1:H1 a=some (.f (.inst C.tsC (De d .none 0 0))):=by rw[<- hH,Ad];rfl
 have e2:H1 d=some (.f (.dic false [])):=by rw[<- hH,Aa hda,Aa hda,Aa hda,Aa hda,Ad]
 have e3:∀ b,b ≠ a->b ≠ d->H1 b=H b:=fun b h1 h2=>by rw[<- hH,Aa h1,Aa h1,Aa h1,Aa h1,Aa h2,Aa h1]
 refine hQ a H1 ⟨d,0,[],none,0,0⟩ ha ⟨e1,e2,(fun r hr=>by exact nqa hr),(fun n hn=>by simp at hn),(fun n hn=>by simp at hn),(by simp),(by simp),(by simp),(fun h=>absurd rfl h)⟩ rfl (fun b o hb=>?_) fun b hb=>?_
 ·rw[e3 b (fun q=>by rw[q,ha]at hb;exact nqa hb) (fun q=>by rw[q,hd]at hb;exact nqa hb)];exact hb
 ·rcases parts_iff.mp hb with q | q | ⟨q,_⟩ | ⟨n,hn,_⟩
  ·rw[q];exact ha
  ·rw[q];exact hd
  ·exact absurd rfl q
  ·simp at hn
theorem Flat.setR (F:Flat C lkD lkA H a σ){r r':List Int}(hr:σ.ready=some r):Flat C lkD lkA (upd H σ.ra (.f (.lst false (r'.map .int)))) a { σ with ready:=some r' }/\Frm C a H σ (upd H σ.ra (.f (.lst false (r'.map .int)))) { σ with ready:=some r' }:=by
 have hR:=F.hr r hr
 have hne:σ.ready ≠ none:=by rw[hr];simp
 have hp:Dj C a σ σ.ra:=parts_iff.mpr (.inr (.inr (.inl ⟨hne,rfl⟩)))
 refine⟨⟨?_,?_,fun q hq=>?_,fun n hn=>?_,fun n hn=>?_,F.ni,F.ns,F.nk,fun z0 n hn=>F.nr hne n hn⟩,.upd1 (fun b hb=>?_) fun b hb=>Aa fun q=>hb (q ▸ hp)⟩
 ·rw[Aa (fun q=>by rw[<- q,F.ha]at hR;cases hR)]
  have:=F.ha
  unfold FSt.rdy at this ⊢
  rw[hr]at this
  exact this
 ·refine(?_:upd H σ.ra _ σ.d=_)
  rw[Aa (fun q=>by rw[<- q,F.hd]at hR;cases hR)];exact F.hd
 ·obtain rfl:=Option.some.inj hq;exact Ad
 ·rw[Aa (fun q=>by rw[<- q,F.hi n hn]at hR;cases hR)];exact F.hi n hn
 ·rw[Aa (F.nr hne n hn)];exact F.hs n hn
 ·rcases parts_iff.mp hb with q | q | ⟨_,q⟩ | q
  ·exact parts_iff.mpr (.inl q)
  ·exact parts_iff.mpr (.inr (.inl q))
  ·exact parts_iff.mpr (.inr (.inr (.inl ⟨hne,q⟩)))
  ·exact parts_iff.mpr (.inr (.inr (.inr q)))
theorem Flat.setPass (F:Flat C lkD lkA H a σ){p:Int}:Flat C lkD lkA (upd H a (.f (.inst C.tsC (Dt (De σ.d σ.rdy σ.passed σ.fin) "_npassedout" (.int p))))) a { σ with passed:=p }/\Frm C a H σ (upd H a (.f (.inst C.tsC (Dt (De σ.d σ.rdy σ.passed σ.fin) "_npassedout" (.int p))))) { σ with passed:=p }:=by
 refine⟨⟨Ad,?_,fun r hr=>?_,fun n hn=>?_,fun n hn=>?_,F.ni,F.ns,F.nk,F.nr⟩,.upd1 (fun b hb=>hb) fun b hb=>Aa fun q=>hb (parts_iff.mpr (.inl q))⟩
 ·refine(?_:upd H a _ σ.d=_)
  rw[Aa (fun q=>by have:=F.ha;rw[<- q,F.hd]at this;cases this)];exact F.hd
 ·refine(?_:upd H a _ σ.ra=_)
  rw[Aa (fun q=>by have:=F.ha;rw[<- q,F.hr r hr]at this;cases this)];exact F.hr r hr
 ·rw[Aa (fun q=>by have:=F.ha;rw[<- q,F.hi n hn]at this;cases this)];exact F.hi n hn
 ·rw[Aa (fun q=>by have:=F.ha;rw[<- q,F.hs n hn]at this;cases this)];exact F.hs n hn
theorem Flat.setFin (F:Flat C lkD lkA H a σ){p:Int}:Flat C lkD lkA (upd H a (.f (.inst C.tsC (Dt (De σ.d σ.rdy σ.passed σ.fin) "_nfinished" (.int p))))) a { σ with fin:=p }/\Frm C a H σ (upd H a (.f (.inst C.tsC (Dt (De σ.d σ.rdy σ.passed σ.fin) "_nfinished" (.int p))))) { σ with fin:=p }:=by
 refine⟨⟨Ad,?_,fun r hr=>?_,fun n hn=>?_,fun n hn=>?_,F.ni,F.ns,F.nk,F.nr⟩,.upd1 (fun b hb=>hb) fun b hb=>Aa fun q=>hb (parts_iff.mpr (.inl q))⟩
 ·refine(?_:upd H a _ σ.d=_)
  rw[Aa (fun q=>by have:=F.ha;rw[<- q,F.hd]at this;cases this)];exact F.hd
 ·refine(?_:upd H a _ σ.ra=_)
  rw[Aa (fun q=>by have:=F.ha;rw[<- q,F.hr r hr]at this;cases this)];exact F.hr r hr
 ·rw[Aa (fun q=>by have:=F.ha;rw[<- q,F.hi n hn]at this;cases this)];exact F.hi n hn
 ·rw[Aa (fun q=>by have:=F.ha;rw[<- q,F.hs n hn]at this;cases this)];exact F.hs n hn
theorem Flat.key_of (F:Flat C lkD lkA H a σ){k:Int}(hk:k ∈ σ.toS.keys):∃ n ∈ σ.nds,n.nd.key=k:=by
 simp only [SState.keys,FSt.toS,List.map_map,List.mem_map,Function.comp]at hk
 exact hk
theorem Ck {S:SState}{k:Int}{g:NodeS}(hg:g.key=k):(S.set k g).keys=S.keys:=by
 unfold SState.keys SState.set;dsimp only;rw[List.map_map];apply List.map_congr_left;intro n _
 refine(?_:(if n.key=k then g else n).key=n.key)
 set_option tactic.hygienic true in split
 ·rename_i h;rw[h,hg]
 ·rfl
theorem Iv {S:SState}{k:Int}(hk:k ∈ S.keys):(S.node k).key=k:=by
 unfold SState.node
 cases q:S.nodes.find? (fun n=>decide (n.key=k)) with
 | none=>rfl
 | some n=>have:=List.find?_some q;simpa using this
theorem Mi {r:List Int}{Q:AV->AH->Prop}(F:Flat C false none H a σ)(hr:σ.ready=some r)(hz:r.length<=lim)(hk:∀ k ∈ r,k ∈ σ.toS.keys)
  (hQ:∀ H' σ',Flat C false none H' a σ'->Frm C a H σ H' σ'->σ'.toS=σ.toS.getReady r->Q (.tup (r.map .int)) H'):Dg C [.ref a] Q H:=by
 unfold Dg Bi
 refine⟨_,rfl,?_⟩
 unfold En
 generalize hρ:(fun i=>([.ref a]:List AV).getD i .undef)=ρ0
 change Rho at ρ0
 have r0:ρ0 0 = .ref a:=by rw[<- hρ];rfl
 have hrd:σ.rdy = .ref σ.ra:=by unfold FSt.rdy;rw[hr]
 refine Im ?_ ?_
 ·simp only [Aw,Aq,Ae r0,F.rdyA,cP,hrd];rfl
 refine Pu (v:=.tup (r.map .int)) ?_ (by simpa [AV.sto]using Ba r) ?_
 ·simp only [bP',Af,Ak,Aq,Ae r0,F.rdyA,hrd,aN,Dz,Eu,F.hr r hr,Option.map_some]
 refine Pu (v:=.ref σ.d) ?_ rfl ?_
 ·simp only [Aq,Ae (i:=0) (ρ:=ρ0.set 1 (.tup (r.map .int))) (x:=a) (by simp[Rho.set,r0])];exact F.n2i
 have q0:((ρ0.set 1 (.tup (r.map .int))).set 2 (.ref σ.d)) 0 = .ref a:=by simp[Rho.set,r0]
 have q1:((ρ0.set 1 (.tup (r.map .int))).set 2 (.ref σ.d)) 1 = .tup (r.map .int):=by simp[Rho.set]
 have q2:((ρ0.set 1 (.tup (r.map .int))).set 2 (.ref σ.d)) 2 = .ref σ.d:=by simp
 generalize (ρ0.set 1 (.tup (r.map .int))).set 2 (.ref σ.d)=ρ1 at q0 q1 q2 ⊢
 refine Rv (vs:=r.map .int) ?_ (Ba r) ?_
 ·have:vP 1 ρ1 H=some (.tup (r.map .int)):=by unfold vP;rw[q1]
  simp only [Ix,this,Yp,cU,cV]
 have fin:∀ (ρ:Rho) (H2:AH) (σ2:FSt),Flat C false none H2 a σ2->Frm C a H σ H2 σ2->σ2.toS=r.foldl SState.out σ.toS->σ2.ready=some r->ρ 0 = .ref a->ρ 1 = .tup (r.map .int) ->
   (Ab (Av (Pe (Aq (attrD C "_ready_nodes") (vP 0)))) (Ab (Jc (attrD C "_npassedout") (Il C "_npassedout") (vP 0) (bP' Fw (Af (vP 1) Ak)) (iop Fy)) (Ab (Hd (Am (vP 1))) Ag))) (fun fl z0 H'=>match fl with | .ret v=>Q v H' | .next=>Q .none H' | _=>False) ρ H2:=by
  intro ρ H2 σ2 F2 fr2 hS2 hr2 e0 e1
  have hrd2:σ2.rdy = .ref σ2.ra:=by unfold FSt.rdy;rw[hr2]
  obtain⟨F3,fr3⟩:=F2.setR (r':=[]) hr2
  refine⟨.ref σ2.ra,r.map .int,upd H2 σ2.ra (.f (.lst false [])),?_,by simp[Dz,Eu,F2.hr r hr2],?_,?_⟩
  ·simp only [Aq,Ae e0,F2.rdyA,hrd2]
  ·unfold He;simp only [F2.hr r hr2];rw[if_pos ⟨Nat.zero_le _,rfl⟩]
  simp only [List.map_nil]at F3 fr3
  obtain⟨F4,fr4⟩:=F3.setPass (p:=σ2.passed + r.length)
  have v1:∀ H,vP 1 ρ H=some (.tup (r.map .int)):=fun H=>by unfold vP;rw[e1]
  refine⟨.ref a,.int σ2.passed,.int r.length,.int (σ2.passed + r.length),_,Ae e0,F3.passA,?_,rfl,Fa F3.ha rfl (Nat.le_of_ble_eq_true rfl),?_⟩
  ·simp only [bP',Af,Ak,v1,Qg,List.length_map]
  refine⟨.tup (r.map .int),v1 _,by simpa [AV.sto]using Ba r,?_⟩
  refine hQ _ _ F4 ((fr2.trans fr3).trans fr4) ?_
  unfold SState.getReady
  rw[<- hS2]
  have:σ2.passed=σ.passed:=by
   have h1:σ2.toS.passed=(r.foldl SState.out σ.toS).passed:=by rw[hS2]
   have h2:∀ (l:List Int) (S:SState),(l.foldl SState.out S).passed=S.passed:=by
    intro l;induction l with
    | nil=>intro S;rfl
    | cons k l ih=>intro S;rw[List.foldl_cons,ih];rfl
   rw[h2]at h1;exact h1
  unfold FSt.toS
  dsimp only
  rw[this]
 have main:∀ (l:List Int) (ρ:Rho) (H2:AH) (σ2:FSt),(∀ k ∈ l,k ∈ σ2.toS.keys)->Flat C false none H2 a σ2->Frm C a H σ H2 σ2->l.foldl SState.out σ2.toS=r.foldl SState.out σ.toS->σ2.ready=some r->σ2.d=σ.d->ρ 0 = .ref a->ρ 1 = .tup (r.map .int)->ρ 2 = .ref σ.d ->
   Di (.one 3) (Ab (Fh (Ha C 1) (Am (cP (.int (-1)))) (opP idx (vP 2) (vP 3))) Ag) (fun f ρ H=>match f with
    | .next=>(Ab (Av (Pe (Aq (attrD C "_ready_nodes") (vP 0)))) (Ab (Jc (attrD C "_npassedout") (Il C "_npassedout") (vP 0) (bP' Fw (Af (vP 1) Ak)) (iop Fy)) (Ab (Hd (Am (vP 1))) Ag))) (fun fl z0 H'=>match fl with | .ret v=>Q v H' | .next=>Q .none H' | _=>False) ρ H
    | f=>(match f with | .ret v=>Q v H | .next=>Q .none H | _=>False)) (l.map .int) ρ H2:=by
  intro l
  induction l with
  | nil=>intro ρ H2 σ2 hk F2 fr2 hS2 hr2 hd2 e0 e1 e2;exact fin ρ H2 σ2 F2 fr2 hS2 hr2 e0 e1
  | cons k l ih =>
   intro ρ H2 σ2 hk F2 fr2 hS2 hr2 hd2 e0 e1 e2
   obtain⟨n,hn,hnk⟩:=F2.key_of (hk k (by simp))
   refine⟨ρ.set 3 (.int k),rfl,?_⟩
   refine⟨.int (-1),rfl,rfl,.ref n.info,_,?_,Gm (F2.hi n hn) rfl,?_⟩
   ·simp only [opP,Ae (i:=2) (ρ:=ρ.set 3 (.int k)) (x:=σ.d) (by simp[Rho.set,e2]),Ah (i:=3) (ρ:=ρ.set 3 (.int k)) (x:=k) (by simp)]
    rw[<- hd2,<- hnk];exact F2.didx hn
   obtain⟨F3,fr3⟩:=F2.npred hn (v:=-1)
   have hS3:(σ2.setN n.nd.key { n.nd with npred:=-1 }).toS=σ2.toS.out k:=by
    have e:n.nd=σ2.toS.node k:=by rw[<- hnk];exact(Ei F2.nk hn).symm
    rw[FSt.setN_toS,hnk,e];rfl
   refine ih _ _ _ (fun j hj=>?_) F3 (fr2.trans fr3) ?_ hr2 hd2 (by simp[Rho.set,e0]) (by simp[Rho.set,e1]) (by simp[Rho.set,e2])
   ·rw[hS3];unfold SState.out;rw[Ck];exact hk j (by simp[hj]);exact Iv (hk k (by simp))
   ·rw[hS3];exact hS2
 exact main r ρ1 H σ hk F .refl rfl hr rfl q0 q1 q2
theorem Rc {r:List Int}{Q:AV->AH->Prop}(F:Flat C false none H a σ)(hr:σ.ready=some r)(hQ:Q (.bool (σ.toS.active r)) H):Df C [.ref a] Q H:=by
 unfold Df Bi
 refine⟨_,rfl,?_⟩
 unfold Em
 generalize hρ:(fun i=>([.ref a]:List AV).getD i .undef)=ρ0
 change Rho at ρ0
 have r0:ρ0 0 = .ref a:=by rw[<- hρ];rfl
 have hrd:σ.rdy = .ref σ.ra:=by unfold FSt.rdy;rw[hr]
 refine Im ?_ ?_
 ·simp only [Aw,Aq,Ae r0,F.rdyA,cP,hrd];rfl
 unfold SState.active at hQ
 refine⟨.bool (decide (σ.fin < σ.passed)),?_,rfl,decide (σ.fin < σ.passed),rfl,?_⟩
 ·simp only [bP,Aw,Aq,Ae r0,F.finA,F.passA];rfl
 by_cases hlt:σ.fin < σ.passed
 ·simp only [hlt,decide_true,if_true]
  refine(?_:Q _ _)
  have e:(decide (σ.toS.fin < σ.toS.passed) || !r.isEmpty)=true:=by
   have:decide (σ.toS.fin < σ.toS.passed)=true:=decide_eq_true hlt
   rw[this];rfl
  rw[e]at hQ;exact hQ
 ·simp only [hlt,decide_false,Bool.false_eq_true,if_false]
  refine⟨.bool (!r.isEmpty),?_,rfl,?_⟩
  ·simp only [bP',Af,Ak,Aq,Ae r0,F.rdyA,hrd,Ug,Dz,Eu,F.hr r hr,Option.map_some,List.isEmpty_map]
  refine(?_:Q _ _)
  have e:(decide (σ.toS.fin < σ.toS.passed) || !r.isEmpty) = !r.isEmpty:=by
   have:decide (σ.toS.fin < σ.toS.passed)=false:=decide_eq_false hlt
   rw[this];rfl
  rw[e]at hQ;exact hQ
end
end Mine
end
section
namespace Mine
noncomputable def Kg:SState->List Int->Prop
 | _,[]=>True
 | S,k :: ks=>k ∈ S.keys/\(S.node k).npred = -1/\(∀ s ∈ (S.node k).succs,s ∈ S.keys)/\Kg (S.done1 k) ks
theorem Mc {S:SState}{s:Int}(hs:s ∈ S.keys):(S.dec s).keys=S.keys:=by
 unfold SState.dec
 dsimp only
 split
 ·exact Ck (Iv hs)
 ·exact Ck (Iv hs)
theorem Oa:∀ (l:List Int) {S:SState},(∀ s ∈ l,s ∈ S.keys)->(l.foldl SState.dec S).keys=S.keys
 | [],_,_=>rfl
 | s :: l,S,h=>by
  rw[List.foldl_cons,Oa l (fun t ht=>by rw[Mc (h s (by simp))];exact h t (by simp[ht])),Mc (h s (by simp))]
theorem SState.Bd.np {S:SState}{B:Nat}(h:S.Bd B)(k v:Int):(S.set k { S.node k with npred:=v }).Bd B:=h.set (SState.node_succs h k)
theorem SState.Bd.dec {S:SState}{B:Nat}(h:S.Bd B)(s:Int):(S.dec s).Bd B:=by
 unfold SState.dec;dsimp only;split
 ·exact h.np s _
 ·exact h.np s _
theorem SState.Bd.decs {B:Nat}:∀ (l:List Int) {S:SState},S.Bd B->(l.foldl SState.dec S).Bd B
 | [],_,h=>h
 | s :: l,S,h=>SState.Bd.decs l (h.dec s)
theorem SState.Bd.done1 {S:SState}{B:Nat}(h:S.Bd B)(k:Int):(S.done1 k).Bd B:=SState.Bd.decs _ (h.np k (-2))
section
variable {C:Cx} {lkD:Bool} {lkA:Option Addr} {H:AH} {a:Addr} {σ:FSt}
theorem Flat.succ_inj (F:Flat C lkD lkA H a σ){n m:FN}(hn:n ∈ σ.nds)(hm:m ∈ σ.nds)(e:n.succ=m.succ):n=m:=by
 have h2:=F.ns
 rw[List.Nodup,List.pairwise_map]at h2
 obtain⟨i,hi,rfl⟩:=List.getElem_of_mem hn
 obtain⟨j,hj,rfl⟩:=List.getElem_of_mem hm
 rw[List.pairwise_iff_getElem]at h2
 rcases Nat.lt_trichotomy i j with l | l | l
 ·exact absurd e (h2 i j hi hj l)
 ·subst l;rfl
 ·exact absurd e.symm (h2 j i hj hi l)
theorem Flat.key_inj (F:Flat C lkD lkA H a σ){n m:FN}(hn:n ∈ σ.nds)(hm:m ∈ σ.nds)(e:n.nd.key=m.nd.key):n=m:=by
 have h2:=F.nk
 rw[List.Nodup,List.pairwise_map]at h2
 obtain⟨i,hi,rfl⟩:=List.getElem_of_mem hn
 obtain⟨j,hj,rfl⟩:=List.getElem_of_mem hm
 rw[List.pairwise_iff_getElem]at h2
 rcases Nat.lt_trichotomy i j with l | l | l
 ·exact absurd e (h2 i j hi hj l)
 ·subst l;rfl
 ·exact absurd e.symm (h2 j i hj hi l)
theorem Flat.lockS (F:Flat C lkD none H a σ){n:FN}(hn:n ∈ σ.nds):Flat C lkD (some n.succ) (upd H n.succ (.f (.lst true (n.nd.succs.map .int)))) a σ:=by
 have hS:=F.hs n hn
 refine⟨?_,?_,fun r hr=>?_,fun m hm=>?_,fun m hm=>?_,F.ni,F.ns,F.nk,F.nr⟩
 ·rw[Aa (fun q=>by rw[<- q,F.ha]at hS;clear hn q;cases hS)];exact F.ha
 ·rw[Aa (fun q=>by rw[<- q,F.hd]at hS;clear hn q;cases hS)];exact F.hd
 ·rw[Aa (Ne.symm (F.nr (by rw[hr];simp) n hn))];exact F.hr r hr
 ·rw[Aa (fun q=>by rw[<- q,F.hi m hm]at hS;clear hn q;cases hS)];exact F.hi m hm
 ·by_cases e:m.succ=n.succ
  ·have:=F.succ_inj hm hn e;clear F e hS hm hn;subst this;rw[Ad];simp
  ·rw[Aa e]
   have:=F.hs m hm
   simp at this
   have e':¬ (some n.succ=some m.succ):=fun q=>e (Option.some.inj q).symm
   simp only [e',decide_false];exact this
theorem Flat.unlockS {x:Addr}(F:Flat C lkD (some x) H a σ){n:FN}(hn:n ∈ σ.nds)(hx:n.succ=x):Flat C lkD none (upd H x (.f (.lst false (n.nd.succs.map .int)))) a σ:=by
 subst hx
 have hS:=F.hs n hn
 refine⟨?_,?_,fun r hr=>?_,fun m hm=>?_,fun m hm=>?_,F.ni,F.ns,F.nk,F.nr⟩
 ·rw[Aa (fun q=>by rw[<- q,F.ha]at hS;clear hn q;cases hS)];exact F.ha
 ·rw[Aa (fun q=>by rw[<- q,F.hd]at hS;clear hn q;cases hS)];exact F.hd
 ·rw[Aa (Ne.symm (F.nr (by rw[hr];simp) n hn))];exact F.hr r hr
 ·rw[Aa (fun q=>by rw[<- q,F.hi m hm]at hS;clear hn q;cases hS)];exact F.hi m hm
 ·by_cases e:m.succ=n.succ
  ·have:=F.succ_inj hm hn e;clear F e hS hm hn;subst this;rw[Ad];simp
  ·rw[Aa e]
   have:=F.hs m hm
   have e':¬ (some n.succ=some m.succ):=fun q=>e (Option.some.inj q).symm
   simp only [e',decide_false]at this;simp[this]
theorem Ur {k:Int}{g:NodeS}{n:FN}(hn:n ∈ σ.nds)(hk:n.nd.key ≠ k):n ∈ (σ.setN k g).nds:=List.mem_map.mpr ⟨n,hn,by simp[hk]⟩
theorem setN_node' {k:Int}{g:NodeS}{n:FN}(hn:n ∈ σ.nds)(hk:n.nd.key=k):{ n with nd:=g } ∈ (σ.setN k g).nds:=List.mem_map.mpr ⟨n,hn,by simp[hk]⟩
theorem Flat.np (F:Flat C lkD lkA H a σ){n:FN}(hn:n ∈ σ.nds){k:Int}(hk:n.nd.key=k){v:Int}:∃ H' σ',Ha C 1 H (.ref n.info) (.int v)=some H'/\Flat C lkD lkA H' a σ'/\Frm C a H σ H' σ'/\σ'.toS=σ.toS.set k { σ.toS.node k with npred:=v }/\σ'.d=σ.d/\σ'.ready=σ.ready/\σ'.fin=σ.fin /\
  { n with nd:={ n.nd with npred:=v } } ∈ σ'.nds/\∀ x l,(∃ m ∈ σ.nds,m.succ=x/\m.nd.succs=l)->∃ m ∈ σ'.nds,m.succ=x/\m.nd.succs=l:=by
 obtain⟨F2,fr2⟩:=F.npred hn (v:=v)
 refine⟨_,σ.setN n.nd.key { n.nd with npred:=v },Gm (F.hi n hn) rfl,F2,fr2,?_,rfl,rfl,rfl,setN_node' hn rfl,?_⟩
 ·rw[FSt.setN_toS]
  have:n.nd=σ.toS.node k:=by rw[<- hk];exact(Ei F.nk hn).symm
  rw[hk,this]
 ·rintro x l ⟨m,hm,h1,h2⟩
  by_cases e:m.nd.key=n.nd.key
  ·have:=F.key_inj hm hn e;clear F F2 e fr2 hk hn;subst this
   exact⟨_,setN_node' hm rfl,h1,h2⟩
  ·exact⟨m,Ur hm e,h1,h2⟩
theorem Sq {x:Addr}{l:List Int}{S1:SState}{B N:Nat}{Q:AFlow->Rho->AH->Prop}{ρ:Rho}{H0:AH}{σ0:FSt}(F:Flat C false (some x) H a σ)(fr:Frm C a H0 σ0 H σ)(hS:σ.toS=S1)(hk:∀ s ∈ l,s ∈ S1.keys)(r:List Int)(hr:σ.ready=some r)(hz:r.length + l.length<=lim)
  (h0:ρ 0 = .ref a) (h2:ρ 2 = .ref σ.d) (hx:∃ m ∈ σ.nds,m.succ=x/\m.nd.succs=l)
  (hQ:∀ ρ' H' σ' r',Flat C false (some x) H' a σ'->Frm C a H0 σ0 H' σ'->σ'.toS=l.foldl SState.dec S1->σ'.ready=some r'->r'.length<=r.length + l.length->σ'.d=σ.d->(∀ i,i ≠ 6->i ≠ 7->ρ' i=ρ i)->(∃ m ∈ σ'.nds,m.succ=x/\m.nd.succs=l)->Q .next ρ' H') :
  Di (.one 6) (Ab (Bj 7 (Am (opP idx (vP 2) (vP 6)))) (Ab (Jc (attrS C 1) (Ha C 1) (vP 7) (cP (.int 1)) (iop subI)) (Ab (ifT (Az (Aw eqV (Aq (attrS C 1) (vP 7)) (cP (.int 0)))) (Ab (Av (Ms (Aq (attrD C "_ready_nodes") (vP 0)) (vP 6))) Ag) Ag) Ag))) Q (l.map .int) ρ H:=by
 refine Lp (I:=fun i ρ' H'=>∃ σ' r',Flat C false (some x) H' a σ'/\Frm C a H0 σ0 H' σ'/\σ'.toS=(l.take i).foldl SState.dec S1/\σ'.ready=some r'/\r'.length<=r.length + i/\σ'.d=σ.d/\(∀ i,i ≠ 6->i ≠ 7->ρ' i=ρ i)/\∃ m ∈ σ'.nds,m.succ=x/\m.nd.succs=l) ⟨σ,r,F,fr,by simpa using hS,hr,by simp,rfl,fun z0 z0 z0=>rfl,hx⟩ ?_ ?_
 ·rintro i s ρ1 H1 K' hs ⟨σ1,r1,F1,fr1,hS1,hr1,hz1,hd1,hρ1,hx1⟩ hK
  have hil:i < l.length:=(List.getElem?_eq_some_iff.mp hs).1
  have hsl:s ∈ l:=List.mem_of_getElem? hs
  have htake:∀ t ∈ l.take i,t ∈ S1.keys:=fun t ht=>hk t (List.mem_of_mem_take ht)
  have hsk:s ∈ σ1.toS.keys:=by rw[hS1,Oa _ htake];exact hk s hsl
  obtain⟨n,hn,hnk⟩:=F1.key_of hsk
  have e0:ρ1 0 = .ref a:=by rw[hρ1 0 (by decide) (by decide)];exact h0
  have e2:ρ1 2 = .ref σ1.d:=by rw[hρ1 2 (by decide) (by decide),hd1];exact h2
  refine Pu (v:=.ref n.info) ?_ rfl ?_
  ·simp only [opP,Ae (i:=2) (ρ:=ρ1.set 6 (.int s)) (x:=σ1.d) (by simp[Rho.set,e2]),Ah (i:=6) (ρ:=ρ1.set 6 (.int s)) (x:=s) (by simp)]
   rw[<- hnk];exact F1.didx hn
  refine Ac fun PP ret=>?_
  obtain⟨H2,σ2,hset,F2,fr2,hS2,hd2,hr2,_,hm2,hx2⟩:=F1.np hn hnk (v:=n.nd.npred - 1)
  refine ret ?_
  have hnode:σ1.toS.node s=n.nd:=by rw[<- hnk];exact Ei F1.nk hn
  rw[hnode]at hS2
  dsimp only at hS2
  refine⟨.ref n.info,.int n.nd.npred,.int 1,.int (n.nd.npred - 1),H2,Ae (by simp),F1.npredA hn,rfl,rfl,hset,?_⟩
  have hcond:Aw eqV (Aq (attrS C 1) (vP 7)) (cP (.int 0)) ((ρ1.set 6 (.int s)).set 7 (.ref n.info)) H2=some (decide (n.nd.npred - 1=0)):=by
   have:=F2.npredA hm2
   simp only [Aw,Aq,Ae (i:=7) (ρ:=(ρ1.set 6 (.int s)).set 7 (.ref n.info)) (x:=n.info) (by simp),cP,this]
   show some (_ == _)=_
   congr 1
  have htk:l.take (i + 1)=l.take i++[s]:=by rw[List.take_succ,hs];rfl
  by_cases hz0:n.nd.npred - 1=0
  ·have hr2':σ2.ready=some r1:=by rw[hr2];exact hr1
   obtain⟨F3,fr3⟩:=F2.setR (r':=r1++[s]) hr2'
   refine dW (by rw[hcond];simp[hz0]) ?_
   refine Rw (gG (v:=.ref σ2.ra) (vs:=r1.map .int) (x:=.int s) (H':=upd H2 σ2.ra (.f (.lst false ((r1++[s]).map .int)))) ?_ (by simp[Dz,Eu,F2.hr r1 hr2']) (Ah (by simp[Rho.set])) ?_ ?_)
   ·simp only [Aq,Ae (i:=0) (ρ:=(ρ1.set 6 (.int s)).set 7 (.ref n.info)) (x:=a) (by simp[Rho.set,e0]),F2.rdyA]
    unfold FSt.rdy;rw[hr2']
   ·unfold He;simp only [F2.hr r1 hr2']
    rw[if_pos ⟨by simp;exact Ar.r68 hz hz1 hil,by rw[stos_iff];intro v hv;simp at hv;rcases hv with ⟨y,_,rfl⟩ | rfl <;> rfl⟩]
    simp
   refine(hK _ _ ⟨{ σ2 with ready:=some (r1++[s]) },r1++[s],F3,(fr1.trans fr2).trans fr3,?_,rfl,by simp;exact Ar.r74 hz1,hd2.trans hd1,fun j h6 h7=>by simp[Rho.set,h6,h7,hρ1 j h6 h7],hx2 x l hx1⟩).1
   rw[htk,List.foldl_append,<- hS1]
   refine(?_:_=σ1.toS.dec s)
   unfold SState.dec
   dsimp only
   rw[hnode,if_pos hz0,<- hS2]
   refine(?_:(⟨σ2.nds.map (·.nd),some (r1++[s]),σ2.passed,σ2.fin⟩:SState)={ σ2.toS with ready:=σ2.toS.ready.map (·++[s]) })
   unfold FSt.toS
   dsimp only
   rw[hr2'];rfl
  ·refine Pv (by rw[hcond];simp[hz0]) ?_
   refine(hK _ _ ⟨σ2,r1,F2,fr1.trans fr2,?_,by rw[hr2];exact hr1,by exact Ar.r75 hz1,hd2.trans hd1,fun j h6 h7=>by simp[Rho.set,h6,h7,hρ1 j h6 h7],hx2 x l hx1⟩).1
   rw[htk,List.foldl_append,<- hS1]
   refine(?_:_=σ1.toS.dec s)
   unfold SState.dec
   dsimp only
   rw[hnode,if_neg hz0,<- hS2]
 ·rintro ρ' H' ⟨σ',r',F',fr',hS',hr',hz',hd',hρ',hx'⟩
  exact hQ ρ' H' σ' r' F' fr' (by simpa using hS') hr' hz' hd' hρ' hx'
theorem Vx {ks:List Int}{B:Nat}{r:List Int}{Q:AV->AH->Prop}(F:Flat C false none H a σ)(hr:σ.ready=some r)(hok:Kg σ.toS ks)(hB:σ.toS.Bd B)(hz:r.length + ks.length * B + ks.length + 2<=lim)
  (hQ:∀ H' σ',Flat C false none H' a σ'->Frm C a H σ H' σ'->σ'.toS=ks.foldl SState.done1 σ.toS->Q .none H'):Gw C (.ref a :: ks.map .int) Q H:=by
 unfold Gw Bi
 refine⟨[.ref a,.tup (ks.map .int)],?_,?_⟩
 ·unfold Kv;rw[if_pos ⟨by simp,by simp;exact Ar.r46 hz⟩];rfl
 unfold Kb
 generalize hρ:(fun i=>([.ref a,.tup (ks.map .int)]:List AV).getD i .undef)=ρ0
 change Rho at ρ0
 have r0:ρ0 0 = .ref a:=by rw[<- hρ];rfl
 have r1:ρ0 1 = .tup (ks.map .int):=by rw[<- hρ];rfl
 refine Pv ?_ ?_
 ·simp only [Aw,Aq,Ae r0,F.rdyA,cP];unfold FSt.rdy;rw[hr];rfl
 refine Pu (v:=.ref σ.d) ?_ rfl ?_
 ·simp only [Aq,Ae r0];exact F.n2i
 refine Rv (vs:=ks.map .int) ?_ (Ba ks) ?_
 ·have:vP 1 (ρ0.set 2 (.ref σ.d)) H=some (.tup (ks.map .int)):=by unfold vP;simp only [Rho.set];simp[r1]
  simp only [Ix,this,Yp,cU,cV]
 refine Lp (I:=fun i ρ' H'=>∃ σ' r',Flat C false none H' a σ'/\Frm C a H σ H' σ'/\σ'.toS=(ks.take i).foldl SState.done1 σ.toS/\Kg σ'.toS (ks.drop i)/\σ'.toS.Bd B/\σ'.ready=some r'/\r'.length<=r.length + i * B/\ρ' 0 = .ref a/\ρ' 2 = .ref σ'.d) ⟨σ,r,F,.refl,rfl,by simpa using hok,hB,hr,by simp,by simp[Rho.set,r0],by simp⟩ ?_ ?_
 ·rintro i k ρ1 H1 K' hki ⟨σ1,r1',F1,fr1,hS1,hok1,hB1,hr1,hz1,e0,e2⟩ hK
  refine Ac fun PP ret=>?_
  have hil:i < ks.length:=(List.getElem?_eq_some_iff.mp hki).1
  have hdrop:ks.drop i=k :: ks.drop (i + 1):=by
   obtain⟨hlt,e⟩:=List.getElem?_eq_some_iff.mp hki
   rw[List.drop_eq_getElem_cons hlt,e]
  rw[hdrop]at hok1
  obtain⟨hkk,hnp,hsk,hok2⟩:=hok1
  obtain⟨n,hn,hnk⟩:=F1.key_of hkk
  refine ret ?_
  have hnode:σ1.toS.node k=n.nd:=by rw[<- hnk];exact Ei F1.nk hn
  rw[hnode]at hnp hsk
  have hml:n.nd.succs.length<=B:=hB1.2 n.nd (List.mem_map.mpr ⟨n,hn,rfl⟩)
  refine⟨.ref n.info,false,?_,rfl,rfl,?_⟩
  ·simp only [opP,Ae (i:=2) (ρ:=ρ1.set 3 (.int k)) (x:=σ1.d) (by simp[Rho.set,e2]),Ah (i:=3) (ρ:=ρ1.set 3 (.int k)) (x:=k) (by simp)]
   rw[<- hnk];exact F1.dget hn
  simp only [Bool.false_eq_true,if_false]
  refine(?_:Ab (Bj 5 _) _ _ _ _)
  refine Pu (v:=.int (-1)) ?_ rfl ?_
  ·simp only [Aq,Ae (i:=4) (ρ:=(ρ1.set 3 (.int k)).set 4 (.ref n.info)) (x:=n.info) (by simp)]
   rw[F1.npredA hn,hnp]
  refine Pv ?_ ?_
  ·simp only [Aw,Ah (i:=5) (ρ:=((ρ1.set 3 (.int k)).set 4 (.ref n.info)).set 5 (.int (-1))) (x:=-1) (by simp),cP];rfl
  refine Ac fun PP ret=>?_
  obtain⟨H2,σ2,hset,F2,fr2,hS2,hd2,hr2,hf2,hm2,hx2⟩:=F1.np hn hnk (v:=-2)
  refine ret ?_
  refine⟨.int (-2),rfl,rfl,.ref n.info,H2,Ae (by simp[Rho.set]),hset,?_⟩
  have F3:=F2.lockS hm2
  have hsl:=F2.hs _ hm2
  refine cM (a:=n.succ) (o:=.lst false (n.nd.succs.map .int)) (by simpa using hsl) rfl ?_
  have hp2:Dj C a σ2 n.succ:=parts_iff.mpr (.inr (.inr (.inr ⟨_,hm2,.inr rfl⟩)))
  have fr3:Frm C a H2 σ2 (upd H2 n.succ (.f (.lst true (n.nd.succs.map .int)))) σ2:=.upd1 (fun b hb=>hb) fun b hb=>Aa fun q=>hb (q ▸ hp2)
  have hkeys2:σ2.toS.keys=σ1.toS.keys:=by rw[hS2];exact Ck (Iv hkk)
  refine⟨n.nd.succs.map .int,?_,Ba _,?_⟩
  ·simp only [Ix,Aq,Ae (i:=4) (ρ:=((ρ1.set 3 (.int k)).set 4 (.ref n.info)).set 5 (.int (-1))) (x:=n.info) (by simp[Rho.set])]
   have h4:=F3.succA hm2
   have h5:=F3.hs _ hm2
   simp at h5
   have h4':attrS C 2 (upd H2 n.succ (.f (.lst true (n.nd.succs.map .int)))) (.ref n.info)=some (.ref n.succ):=h4
   refine(?_:(match attrS C 2 (upd H2 n.succ (.f (.lst true (n.nd.succs.map .int)))) (.ref n.info)with | some v=>Nd _ v | none=>none)=_)
   rw[h4']
   refine(?_:Nd _ (.ref n.succ)=_)
   rw[Yp,Ad];rfl
  refine Sq (S1:=σ2.toS) (B:=B) (N:=0) F3 (((fr1.trans fr2).trans fr3)) rfl (fun s hs=>by rw[hkeys2];exact hsk s hs) r1' (by rw[hr2];exact hr1) ?_ (by simp[Rho.set,e0]) (by simp[Rho.set,e2,hd2]) ⟨_,hm2,rfl,rfl⟩ ?_
  ·have:i * B<=ks.length * B:=Nat.mul_le_mul_right B (by exact Ar.r190 hil)
   have h2:(i + 1) * B<=ks.length * B:=Nat.mul_le_mul_right B hil
   rw[Nat.add_mul]at h2
   exact Ar.r45 hz hz1 hml h2
  intro ρ4 H4 σ4 r4 F4 fr4 hS4 hr4 hz4 hd4 hρ4 hx4
  refine Ac fun PP ret=>?_
  obtain⟨m4,hm4,hms,hml4⟩:=hx4
  have F5:=F4.unlockS hm4 hms
  rw[hml4]at F5
  have hp4:Dj C a σ4 n.succ:=parts_iff.mpr (.inr (.inr (.inr ⟨m4,hm4,.inr hms.symm⟩)))
  have fr5:Frm C a H4 σ4 (upd H4 n.succ (.f (.lst false (n.nd.succs.map .int)))) σ4:=.upd1 (fun b hb=>hb) fun b hb=>Aa fun q=>hb (q ▸ hp4)
  obtain⟨F6,fr6⟩:=F5.setFin (p:=σ4.fin + 1)
  refine ret ?_
  refine(?_:Jc _ _ _ _ _ _ _ _)
  have e40:ρ4 0 = .ref a:=by rw[hρ4 0 (by decide) (by decide)];simp[Rho.set,e0]
  have e42:ρ4 2 = .ref σ4.d:=by rw[hρ4 2 (by decide) (by decide),hd4,hd2];simp[Rho.set,e2]
  refine⟨.ref a,.int σ4.fin,.int 1,.int (σ4.fin + 1),_,Ae e40,F5.finA,rfl,rfl,Fa F5.ha rfl (Nat.le_of_ble_eq_true rfl),?_⟩
  have hS6:({ σ4 with fin:=σ4.fin + 1 }:FSt).toS=σ1.toS.done1 k:=by
   unfold SState.done1
   dsimp only
   rw[hnode]
   rw[hnode]at hS2
   rw[<- hS2,<- hS4]
   rfl
  refine(hK _ _ ⟨{ σ4 with fin:=σ4.fin + 1 },r4,F6,(fr4.trans fr5).trans fr6,?_,?_,?_,hr4,?_,e40,e42⟩).1
  ·rw[hS6,hS1]
   have htk:ks.take (i + 1)=ks.take i++[k]:=by rw[List.take_succ,hki];rfl
   rw[htk,List.foldl_append];rfl
  ·rw[hS6];exact hok2
  ·rw[hS6];exact hB1.done1 k
  ·rw[Nat.add_mul];exact Ar.r73 hz1 hml hz4
 ·rintro ρ' H' ⟨σ',r',F',fr',hS',_⟩
  exact hQ H' σ' F' fr' (by simpa using hS')
end
end Mine
end
section
namespace Mine
noncomputable abbrev Ent:=Int × Addr × Nat
noncomputable def FSt.lenOf (σ:FSt) (k:Int):Nat:=(σ.toS.node k).succs.length
noncomputable def Cy (σ:FSt) (stk:List Ent):Nat:=(stk.map fun e=>σ.lenOf e.1 - e.2.2).sum
noncomputable def Ho (σ:FSt) (seen:List Int):Nat:=((σ.toS.keys.filter fun k=>decide (k ∉ seen)).map fun k=>σ.lenOf k + 1).sum
section
variable {C:Cx} (H:AH) (a:Addr) (σ:FSt) (rk:Int->Nat) (aS aI aE aD:Addr)
structure DInv (H':AH) (stk:List Ent) (seen:List Int):Prop where
 k:∀ b,H b ≠ none->b ≠ σ.d->H' b=H b
 d:H' σ.d=some (.f (.dic true σ.dicL))
 hS:H' aS=some (.f (.lst false (stk.map fun e=>AV.int e.1)))
 hI:H' aI=some (.f (.lst false (stk.map fun e=>AV.ref e.2.1)))
 hE:H' aE=some (.f (.iset seen))
 hD:∃ es,H' aD=some (.f (.dic false es))/\es.map (·.1)=stk.map (·.1)
 nx:∀ e ∈ stk,∃ n ∈ σ.nds,n.nd.key=e.1/\H' e.2.1=some (.f (.nxt n.succ e.2.2))/\e.2.2<=n.nd.succs.length
 nd:(stk.map (·.2.1)).Nodup
 fS:H aS=none
 fI:H aI=none
 fE:H aE=none
 fD:H aD=none
 fX:∀ e ∈ stk,H e.2.1=none
 si:aS ≠ aI
 rk:(stk.map (·.1)).Pairwise fun x y=>rk x < rk y
 sn:seen.Nodup
 sk:∀ x ∈ seen,x ∈ σ.toS.keys
 ss:∀ e ∈ stk,e.1 ∈ seen
end
theorem Ax {α:Type}[DecidableEq α]:∀ {l m:List α},l.Nodup->(∀ x ∈ l,x ∈ m)->l.length<=m.length
 | [],_,_,_=>Nat.zero_le _
 | x :: l,m,hn,hs=>by
  rw[List.nodup_cons]at hn
  have h1:=hs x (by simp)
  have h2:l.length<=(m.erase x).length:=Ax hn.2 fun y hy=>by
   have hne:y ≠ x:=fun q=>hn.1 (q ▸ hy)
   exact(List.mem_erase_of_ne hne).mpr (hs y (by simp[hy]))
  rw[List.length_erase_of_mem h1]at h2
  have:=List.length_pos_of_mem h1
  simp;exact Ar.r94 h2 this
theorem aM {σ:FSt}{seen:List Int}{x:Int}(hk:σ.toS.keys.Nodup)(hx:x ∈ σ.toS.keys)(hn:x ∉ seen):Ho σ seen=Ho σ (seen++[x]) + (σ.lenOf x + 1):=by
 unfold Ho
 generalize σ.toS.keys=l at hk hx
 induction l with
 | nil=>simp at hx
 | cons y l ih =>
  rw[List.nodup_cons]at hk
  by_cases e:y=x
  ·clear hx ih;subst e
   have h1:(l.filter fun k=>decide (k ∉ seen++[y]))=l.filter fun k=>decide (k ∉ seen):=by
    apply List.filter_congr
    intro z hz
    have:z ≠ y:=fun q=>hk.1 (q ▸ hz)
    simp[this]
   rw[List.filter_cons,List.filter_cons]
   simp only [hn,not_false_eq_true,decide_true,if_true]
   have:decide (y ∉ seen++[y])=false:=by simp
   rw[this]
   simp only [Bool.false_eq_true,if_false,List.map_cons,List.sum_cons]
   rw[h1];exact Ar.r2
  ·have hx':x ∈ l:=by rcases List.mem_cons.mp hx with q | q;exact absurd q.symm e;exact q
   have:=ih hk.2 hx'
   rw[List.filter_cons,List.filter_cons]
   by_cases hy:y ∈ seen
   ·have h1:decide (y ∉ seen)=false:=by simp[hy]
    have h2:decide (y ∉ seen++[x])=false:=by simp[hy]
    rw[h1,h2];exact this
   ·have h1:decide (y ∉ seen)=true:=by simp[hy]
    have h2:decide (y ∉ seen++[x])=true:=by simp[hy,e]
    rw[h1,h2]
    simp only [if_true,List.map_cons,List.sum_cons]
    rw[this];exact Ar.r1
theorem Lm {σ:FSt}{stk:List Ent}{e:Ent}:Cy σ (stk++[e])=Cy σ stk + (σ.lenOf e.1 - e.2.2):=by
 unfold Cy;rw[List.map_append,List.sum_append];simp
section
variable {C:Cx} {H:AH} {a:Addr} {σ:FSt} {rk:Int->Nat} {aS aI aE aD:Addr}
theorem Lo {H':AH}{x:Int}{ks:List Int}(h:H' a=some (.f (.iset ks))):inV H' (.int x) (.ref a)=some (decide (x ∈ ks)):=by
 unfold inV;rw[Dz,h];dsimp only;rw[h]
theorem bV {H':AH}{x:Int}{lk:Bool}{es:List (Int × AV)}(h:H' a=some (.f (.dic lk es))):inV H' (.int x) (.ref a)=some (es.lookup x).isSome:=by
 unfold inV;rw[Dz,h];dsimp only;rw[h]
theorem Ea {β:Type}:∀ {l:List (Int × β)} {b:Int},b ∉ l.map (·.1)->l.lookup b=none
 | [],b,_=>rfl
 | (d,w) :: r,b,h=>by
  simp only [List.map_cons,List.mem_cons,not_or]at h
  rw[List.lookup_cons]
  have:(b == d)=false:=by simpa using h.1
  rw[this];exact Ea h.2
theorem Fk {β:Type}:∀ {l:List (Int × β)} {b:Int},b ∈ l.map (·.1)->(l.lookup b).isSome=true
 | [],b,h=>by simp at h
 | (d,w) :: r,b,h=>by
  rw[List.lookup_cons]
  cases q:b == d with
  | true=>rfl
  | false =>
   have:¬ b=d:=by simpa using q
   simp only [List.map_cons,List.mem_cons,this,false_or]at h
   exact Fk h
theorem Qq {es:List (Int × AV)}{l:List Int}{x:Int}(h:es.map (·.1)=l++[x])(hx:x ∉ l):(es.filter fun p=>decide (p.1 ≠ x)).map (·.1)=l:=by
 have e:(es.filter fun p=>decide (p.1 ≠ x)).map (·.1)=(es.map (·.1)).filter fun y=>decide (y ≠ x):=by
  rw[List.filter_map];rfl
 rw[e,h,List.filter_append]
 have h1:l.filter (fun y=>decide (y ≠ x))=l:=by
  rw[List.filter_eq_self];intro y hy;simp;clear e h;rintro rfl;exact hx hy
 rw[h1];simp
structure Dag (σ:FSt) (rk:Int->Nat):Prop where
 ok:∀ n ∈ σ.nds,∀ s ∈ n.nd.succs,s ∈ σ.toS.keys/\rk n.nd.key < rk s
 few:σ.nds.length + 2 < scanBound
variable (F:Flat C false none H a σ) (hdag:Dag σ rk)
include F in
theorem DInv.flat {H':AH}{stk:List Ent}{seen:List Int}(D:DInv H σ rk aS aI aE aD H' stk seen):Flat C true none H' a σ:=by
 have kk:∀ b o,H b=some o->b ≠ σ.d->H' b=some o:=fun b o e hb=>by rw[D.k b (by rw[e];simp) hb];exact e
 refine⟨kk _ _ F.ha fun q=>?_,D.d,fun r hr=>kk _ _ (F.hr r hr) fun q=>?_,fun n hn=>kk _ _ (F.hi n hn) fun q=>?_,fun n hn=>kk _ _ (F.hs n hn) fun q=>?_,F.ni,F.ns,F.nk,F.nr⟩
 ·have:=F.ha;rw[q,F.hd]at this;cases this
 ·have:=F.hr r hr;rw[q,F.hd]at this;cases this
 ·have:=F.hi n hn;rw[q,F.hd]at this;cases this
 ·have:=F.hs n hn;rw[q,F.hd]at this;cases this
include F in
theorem Zi {H':AH}{stk:List Ent}{seen:List Int}{x:Int}{ρ:Rho}{T':Wp AFlow}{Q:AFlow->Rho->AH->Prop}(D:DInv H σ rk aS aI aE aD H' stk seen)(hx:x ∈ σ.toS.keys)(hns:x ∉ seen)(hr:∀ e ∈ stk,rk e.1 < rk x)(hdag:Dag σ rk)
  (h1:ρ 1 = .ref σ.d) (h2:ρ 2 = .ref aS) (h3:ρ 3 = .ref aI) (h4:ρ 4 = .ref aE) (h5:ρ 5 = .ref aD) (h6:ρ 6 = .int x)
  (hQ:∀ H2 nx,DInv H σ rk aS aI aE aD H2 (stk++[(x,nx,0)]) (seen++[x])->T' Q ρ H2) :
  Ab (Av (Ti (vP 4) (vP 6))) (Ab (Av (Rb (vP 3) (Eh (Vg (Aq (attrS C 2) (opP idx (vP 1) (vP 6))))))) (Ab (Uc (Am (bP' Fw (Af (vP 2) Ak))) (vP 5) (vP 6)) (Ab (Av (Ms (vP 2) (vP 6))) T'))) Q ρ H':=by
 have G:=D.flat F
 obtain⟨n,hn,hnk⟩:=G.key_of hx
 have hlen:seen.length<=σ.nds.length:=by
  have h1:seen.length<=σ.toS.keys.length:=Ax D.sn (fun y hy=>D.sk y hy)
  simpa [SState.keys,FSt.toS]using h1
 have hfew:=hdag.few
 have hstkl:stk.length<=σ.nds.length:=by
  have hnd:(stk.map (·.1)).Nodup:=by
   rw[List.Nodup];exact D.rk.imp fun h e=>by rw[e]at h;exact Ar.r180 h
  have h1:(stk.map (·.1)).length<=σ.toS.keys.length:=Ax hnd (fun y hy=>by
   clear F G h1 h2 h3 h4 h5 h6 hQ hdag hfew hlen hn hnd hnk hns hr hx;obtain⟨e,he,rfl⟩:=List.mem_map.mp hy;exact D.sk _ (D.ss e he))
  simpa [SState.keys,FSt.toS]using h1
 have hsb:scanBound=4096:=rfl
 rw[hsb]at hfew
 -- distinct places
 refine Ac fun PP ret=>?_
 obtain⟨es,hes,hesk⟩:=D.hD
 have dSE:aS ≠ aE:=Ai D.hS D.hE rfl
 have dIE:aI ≠ aE:=Ai D.hI D.hE rfl
 have dDE:aD ≠ aE:=Ai hes D.hE rfl
 have dSD:aS ≠ aD:=Ai D.hS hes rfl
 have dID:aI ≠ aD:=Ai D.hI hes rfl
 have ddS:σ.d ≠ aS:=Ai D.d D.hS rfl
 have ddI:σ.d ≠ aI:=Ai D.d D.hI rfl
 have ddE:σ.d ≠ aE:=Ai D.d D.hE rfl
 have ddD:σ.d ≠ aD:=fun q=>by have:=D.d;rw[q,hes]at this;clear F hdag;cases this
 have dX:∀ e ∈ stk,e.2.1 ≠ aS/\e.2.1 ≠ aI/\e.2.1 ≠ aE/\e.2.1 ≠ aD/\e.2.1 ≠ σ.d:=fun e he=>by
  obtain⟨m,_,_,hm,_⟩:=D.nx e he
  refine⟨fun q=>?_,fun q=>?_,fun q=>?_,fun q=>?_,fun q=>?_⟩
  ·rw[q,D.hS]at hm;clear D F G dDE dID dIE dSD dSE ddD ddE ddI ddS h1 h2 h3 h4 h5 h6 hQ hdag he hes hesk hfew hlen hn hnk hns hr hsb hstkl hx left left_1 q ret right;cases hm
  ·rw[q,D.hI]at hm;clear D F G dDE dID dIE dSD dSE ddD ddE ddI ddS h1 h2 h3 h4 h5 h6 hQ hdag he hes hesk hfew hlen hn hnk hns hr hsb hstkl hx left left_1 q ret right;cases hm
  ·rw[q,D.hE]at hm;clear D F G dDE dID dIE dSD dSE ddD ddE ddI ddS h1 h2 h3 h4 h5 h6 hQ hdag he hes hesk hfew hlen hn hnk hns hr hsb hstkl hx left left_1 q ret right;cases hm
  ·rw[q,hes]at hm;clear D F G dDE dID dIE dSD dSE ddD ddE ddI ddS h1 h2 h3 h4 h5 h6 hQ hdag he hes hesk hfew hlen hn hnk hns hr hsb hstkl hx left left_1 q ret right;cases hm
  ·rw[q,D.d]at hm;clear D F G dDE dID dIE dSD dSE ddD ddE ddI ddS h1 h2 h3 h4 h5 h6 hQ hdag he hes hesk hfew hlen hn hnk hns hr hsb hstkl hx left left_1 q ret right;cases hm
 refine ret ?_
 -- seen.add
 refine⟨.ref aE,.int x,upd H' aE (.f (.iset (seen++[x]))),Ae h4,Ah h6,?_,?_⟩
 ·unfold Xl;simp only [D.hE];rw[if_pos ⟨hns,by rw[hsb];exact Ar.r102 hlen hfew⟩]
 -- itstack.append
 refine(?_:Ab (Av (Rb _ _)) _ _ _ _)
 have e1:∀ b,b ≠ aE->upd H' aE (.f (.iset (seen++[x]))) b=H' b:=fun b hb=>Aa hb
 have iS:n.succ ≠ aE:=Ai (G.hs n hn) D.hE rfl
 have iI:n.info ≠ aE:=Ai (G.hi n hn) D.hE rfl
 refine⟨.ref aI,stk.map fun e=>AV.ref e.2.1,Ae h3,rfl,by simp[Dz,Eu,e1 aI dIE,D.hI],.nxt n.succ 0,?_,fun nx hnx=>?_⟩
 ·have g1:idx (upd H' aE (.f (.iset (seen++[x])))) (.ref σ.d) (.int x)=some (.ref n.info):=by
   have:=G.didx hn
   rw[hnk]at this
   rw[Yt,e1 σ.d ddE,<- Yt];exact this
  have g2:attrS C 2 (upd H' aE (.f (.iset (seen++[x])))) (.ref n.info)=some (.ref n.succ):=by
   have:=G.succA hn
   unfold attrS at this ⊢
   dsimp only at this ⊢
   rw[e1 _ iI];exact this
  have g3:=G.hs n hn
  unfold Vg
  rw[show Aq (attrS C 2) (opP idx (vP 1) (vP 6)) _ _=some (.ref n.succ) by simp only [Aq,opP,Ae h1,Ah h6,g1,g2]]
  dsimp only
  rw[e1 _ iS,g3]
 have nE:nx ≠ aE:=by first | exact Ai Ad hnx rfl | exact Ai hnx Ad rfl
 rw[e1 nx nE]at hnx
 have nS:nx ≠ aS:=Ai hnx D.hS rfl
 have nI:nx ≠ aI:=Ai hnx D.hI rfl
 have nD:nx ≠ aD:=Ai hnx hes rfl
 have nd':nx ≠ σ.d:=Ai hnx D.d rfl
 have nX:∀ e ∈ stk,e.2.1 ≠ nx:=fun e he q=>by obtain⟨m,_,_,hm,_⟩:=D.nx e he;rw[q,hnx]at hm;exact nqa hm
 have hHnx:H nx=none:=by
  clear F G dDE dID dIE dSD dSE dX ddD ddE ddI ddS e1 h1 h2 h3 h4 h5 h6 hQ hdag hes hesk hfew hlen hn hnk hns hr hsb hstkl hx iI iS nD nE nI nS nX ret;cases q:H nx with
  | none=>rfl
  | some o=>have:=D.k nx (by rw[q];simp) nd';rw[hnx,q]at this;exact nqa this
 refine⟨stk.map fun e=>AV.ref e.2.1,upd (upd (upd H' aE (.f (.iset (seen++[x])))) nx (.f (.nxt n.succ 0))) aI (.f (.lst false ((stk.map fun e=>AV.ref e.2.1)++[.ref nx]))),?_,?_,?_⟩
 ·simp only [Dz,Eu];rw[Aa (Ne.symm nI),e1 aI dIE,D.hI]
 ·unfold He
  dsimp only
  rw[Aa (Ne.symm nI),e1 aI dIE,D.hI]
  dsimp only
  rw[if_pos ⟨by simp[Au];exact Ar.r137 hfew hstkl,by rw[stos_iff];intro v hv;simp at hv;clear D F G dDE dID dIE dSD dSE dX ddD ddE ddI ddS e1 h1 h2 h3 h4 h5 h6 hHnx hQ hdag hes hesk hfew hlen hn hnk hns hnx hr hsb hstkl hx iI iS nD nE nI nS nX nd' ret;rcases hv with ⟨_,_,_,_,rfl⟩ | rfl <;> rfl⟩]
 -- node2stacki[node]=len(stack)
 generalize hH3:upd (upd (upd H' aE (.f (.iset (seen++[x])))) nx (.f (.nxt n.succ 0))) aI (.f (.lst false ((stk.map fun e=>AV.ref e.2.1)++[.ref nx])))=H3
 have f3:∀ b,b ≠ aE->b ≠ nx->b ≠ aI->H3 b=H' b:=fun b q1 q2 q3=>by rw[<- hH3,Aa q3,Aa q2,Aa q1]
 have f3E:H3 aE=some (.f (.iset (seen++[x]))):=by rw[<- hH3,Aa (Ne.symm dIE),Aa (Ne.symm nE),Ad]
 have f3n:H3 nx=some (.f (.nxt n.succ 0)):=by rw[<- hH3,Aa nI,Ad]
 have f3I:H3 aI=some (.f (.lst false ((stk.map fun e=>AV.ref e.2.1)++[.ref nx]))):=by rw[<- hH3,Ad]
 have f3S:H3 aS=some (.f (.lst false (stk.map fun e=>AV.int e.1))):=by rw[f3 aS dSE (Ne.symm nS) D.si];exact D.hS
 have f3D:H3 aD=some (.f (.dic false es)):=by rw[f3 aD dDE (Ne.symm nD) (Ne.symm dID)];exact hes
 have hxs:x ∉ stk.map (·.1):=fun q=>by clear F G dIE e1 h1 h3 h4 hH3 hdag hes hlen hnx hsb iI iS nE nI;obtain⟨e,he,rfl⟩:=List.mem_map.mp q;exact hns (D.ss e he)
 refine⟨.int stk.length,?_,rfl,.ref aD,.int x,upd H3 aD (.f (.dic false (es++[(x,.int stk.length)]))),Ae h5,Ah h6,?_,?_⟩
 ·simp only [bP',Af,Ak,Ae h2,Tp,To,f3S,Option.map_some,List.length_map]
 ·rw[Sp]
  simp only [f3D]
  have hl:es.length=stk.length:=by have:=congrArg List.length hesk;simpa using this
  rw[if_pos ⟨by rw[Ea (by rw[hesk];exact hxs)];rfl,rfl,by rw[hl,Au];exact Ar.r138 hfew hstkl⟩]
 -- stack.append
 refine⟨.ref aS,stk.map fun e=>AV.int e.1,.int x,upd (upd H3 aD (.f (.dic false (es++[(x,.int stk.length)])))) aS (.f (.lst false ((stk.map fun e=>AV.int e.1)++[.int x]))),Ae h2,?_,Ah h6,?_,?_⟩
 ·simp only [Dz,Eu];rw[Aa dSD,f3S]
 ·unfold He
  dsimp only
  rw[Aa dSD,f3S]
  dsimp only
  rw[if_pos ⟨by simp[Au];exact Ar.r137 hfew hstkl,by rw[stos_iff];intro v hv;simp at hv;clear D F G dDE dID dIE dSD dSE dX ddD ddE ddI ddS e1 f3 f3D f3E f3I f3S f3n h1 h2 h3 h4 h5 h6 hH3 hHnx hQ hdag hes hesk hfew hlen hn hnk hns hnx hr hsb hstkl hx hxs iI iS nD nE nI nS nX nd' ret;rcases hv with ⟨_,_,rfl⟩ | rfl <;> rfl⟩]
 generalize hH4:upd (upd H3 aD (.f (.dic false (es++[(x,.int stk.length)])))) aS (.f (.lst false ((stk.map fun e=>AV.int e.1)++[.int x])))=H4
 have f4:∀ b,b ≠ aD->b ≠ aS->H4 b=H3 b:=fun b q1 q2=>by rw[<- hH4,Aa q2,Aa q1]
 refine hQ H4 nx ⟨fun b hb hbd=>?_,?_,?_,?_,?_,⟨es++[(x,.int stk.length)],?_,?_⟩,fun e he=>?_,?_,D.fS,D.fI,D.fE,D.fD,fun e he=>?_,D.si,?_,?_,fun y hy=>?_,fun e he=>?_⟩
 ·have nb:∀ c,H c=none->b ≠ c:=fun c hc q=>hb (q ▸ hc)
  rw[f4 b (nb _ D.fD) (nb _ D.fS),f3 b (nb _ D.fE) (nb _ hHnx) (nb _ D.fI)]
  exact D.k b hb hbd
 ·rw[f4 _ ddD ddS,f3 _ ddE (Ne.symm nd') ddI];exact D.d
 ·rw[<- hH4,Ad];simp
 ·rw[f4 _ dID (Ne.symm D.si),f3I];simp
 ·rw[f4 _ (Ne.symm dDE) (Ne.symm dSE),f3E]
 ·rw[<- hH4,Aa (Ne.symm dSD),Ad]
 ·simp[hesk]
 ·rcases List.mem_append.mp he with he | he
  ·refine Ac fun PP ret=>?_
   obtain⟨m,hm,hmk,hmx,hml⟩:=D.nx e he
   obtain⟨x1,x2,x3,x4,x5⟩:=dX e he
   refine ret ?_
   refine⟨m,hm,hmk,?_,hml⟩
   rw[f4 _ x4 x1,f3 _ x3 (nX e he) x2];exact hmx
  ·simp at he;clear D F G dDE dID dIE dSD dSE dX ddD ddE ddI ddS e1 f3 f3D f3E f3I f3S h1 h2 h3 h4 h5 h6 hH3 hH4 hHnx hQ hdag hes hesk hfew hlen hns hnx hr hsb hstkl hx hxs iI iS nE nI nX nd' ret;subst he
   refine⟨n,hn,hnk,?_,Nat.zero_le _⟩
   refine(?_:H4 nx=_)
   rw[f4 _ nD nS,f3n]
 ·rw[List.map_append,List.nodup_append]
  refine⟨D.nd,by simp,fun u hu v hv=>?_⟩
  simp at hv;clear D F G dDE dID dIE dSD dSE dX ddD ddE ddI ddS e1 f3 f3D f3E f3I f3S f3n f4 h1 h2 h3 h4 h5 h6 hH3 hH4 hHnx hQ hdag hes hesk hfew hlen hn hnk hns hnx hr hsb hstkl hx hxs iI iS nD nE nI nS nd';subst hv
  refine Ac fun PP ret=>?_
  obtain⟨e,he,rfl⟩:=List.mem_map.mp hu
  refine ret ?_
  exact nX e he
 ·rcases List.mem_append.mp he with he | he
  ·exact D.fX e he
  ·simp at he;clear D F G dDE dID dIE dSD dSE dX ddD ddE ddI ddS e1 f3 f3D f3E f3I f3S f3n f4 h1 h2 h3 h4 h5 h6 hH3 hH4 hQ hdag hes hesk hfew hlen hn hnk hns hnx hr hsb hstkl hx hxs iI iS nD nE nI nS nX nd' ret;subst he;exact hHnx
 ·rw[List.map_append,List.pairwise_append]
  refine⟨D.rk,by simp,fun u hu v hv=>?_⟩
  simp at hv;clear D F G dDE dID dIE dSD dSE dX ddD ddE ddI ddS e1 f3 f3D f3E f3I f3S f3n f4 h1 h2 h3 h4 h5 h6 hH3 hH4 hHnx hQ hdag hes hesk hfew hlen hn hnk hns hnx hsb hstkl hx hxs iI iS nD nE nI nS nX nd';subst hv
  refine Ac fun PP ret=>?_
  obtain⟨e,he,rfl⟩:=List.mem_map.mp hu
  refine ret ?_
  exact hr e he
 ·rw[List.nodup_append]
  exact⟨D.sn,by simp,fun u hu v hv=>by simp at hv;clear D F G dDE dID dIE dSD dSE dX ddD ddE ddI ddS e1 f3 f3D f3E f3I f3S f3n f4 h1 h2 h3 h4 h5 h6 hH3 hH4 hHnx hQ hdag hes hesk hfew hlen hn hnk hnx hr hsb hstkl hx hxs iI iS nD nE nI nS nX nd' ret;subst hv;exact fun e=>hns (e ▸ hu)⟩
 ·rcases List.mem_append.mp hy with hy | hy
  ·exact D.sk y hy
  ·simp at hy;clear D F G dDE dID dIE dSD dSE dX ddD ddE ddI ddS e1 f3 f3D f3E f3I f3S f3n f4 h1 h2 h3 h4 h5 h6 hH3 hH4 hHnx hQ hdag hes hesk hfew hlen hn hnk hns hnx hr hsb hstkl hxs iI iS nD nE nI nS nX nd' ret;subst hy;exact hx
 ·rcases List.mem_append.mp he with he | he
  ·exact List.mem_append_left _ (D.ss e he)
  ·simp at he;clear D F G dDE dID dIE dSD dSE dX ddD ddE ddI ddS e1 f3 f3D f3E f3I f3S f3n f4 h1 h2 h3 h4 h5 h6 hH3 hH4 hHnx hQ hdag hes hesk hfew hlen hn hnk hns hnx hr hsb hstkl hx hxs iI iS nD nE nI nS nX nd' ret;subst he;simp
end
end Mine
end
section
namespace Mine
section
variable {C:Cx} {H:AH} {a:Addr} {σ:FSt} {rk:Int->Nat} {aS aI aE aD:Addr}
theorem Sg (hk:(σ.nds.map (·.nd.key)).Nodup){n:FN}(hn:n ∈ σ.nds){k:Int}(e:n.nd.key=k):σ.lenOf k=n.nd.succs.length:=by
 unfold FSt.lenOf;rw[<- e,Ei hk hn]
theorem Si {α:Type}(l:List α):l=[]\/∃ s e,l=s++[e]:=by
 rcases List.eq_nil_or_concat l with h | ⟨s,e,h⟩
 ·exact .inl h
 ·exact .inr ⟨s,e,by simpa using h⟩
variable (F:Flat C false none H a σ) (hdag:Dag σ rk)
include F hdag in
theorem Vz {H':AH}{stk:List Ent}{seen:List Int}{ρ:Rho}{Q:AFlow->Rho->AH->Prop}(D:DInv H σ rk aS aI aE aD H' stk seen)
  (h2:ρ 2 = .ref aS) (h3:ρ 3 = .ref aI) (h5:ρ 5 = .ref aD)
  (hbrk:∀ H2 stk2 y,DInv H σ rk aS aI aE aD H2 stk2 seen->y ∈ σ.toS.keys->(∀ e ∈ stk2,rk e.1 < rk y)->Cy σ stk2 + 1<=Cy σ stk->Q .next (ρ.set 6 (.int y)) H2)
  (hend:∀ H2,DInv H σ rk aS aI aE aD H2 [] seen->Q .brk ρ H2) :
  Dy (Az (Fz (vP 2))) (Ab (Rj 3 2 5 6) Ag) (Ab Qw Ag) Q ρ H':=by
 refine⟨fun m ρ' H2=>ρ' = ρ/\∃ stk2,m=stk2.length/\DInv H σ rk aS aI aE aD H2 stk2 seen/\Cy σ stk2<=Cy σ stk,stk.length,⟨rfl,stk,rfl,D,Nat.le_refl _⟩,?_⟩
 rintro m ρ' H2 ⟨rfl,stk2,rfl,D2,hrem⟩
 rcases Si stk2 with rfl | ⟨st,e,rfl⟩
 ·refine⟨false,?_,?_⟩
  ·simp only [Fz,Ae h2,Ol,D2.hS];rfl
  ·simp only [Bool.false_eq_true,if_false]
   exact hend H2 D2
 ·refine⟨true,?_,?_⟩
  ·simp only [Fz,Ae h2,Ol,D2.hS];simp
  simp only [if_true]
  refine Ac fun PP ret=>?_
  have G:=D2.flat F
  obtain⟨n,hn,hnk,hnx,hpos⟩:=D2.nx e (by simp)
  obtain⟨es,hes,hesk⟩:=D2.hD
  have hsrc:=G.hs n hn
  have hlen:σ.lenOf e.1=n.nd.succs.length:=Sg F.nk hn hnk
  have dXS:e.2.1 ≠ aS:=Ai hnx D2.hS rfl
  have dXI:e.2.1 ≠ aI:=Ai hnx D2.hI rfl
  have dXE:e.2.1 ≠ aE:=Ai hnx D2.hE rfl
  have dXD:e.2.1 ≠ aD:=Ai hnx hes rfl
  have dXd:e.2.1 ≠ σ.d:=Ai hnx D2.d rfl
  have hfX:H e.2.1=none:=D2.fX e (by simp)
  have hnd2:=D2.nd
  rw[List.map_append,List.nodup_append]at hnd2
  have dXX:∀ e' ∈ st,e'.2.1 ≠ e.2.1:=fun e' he'=>hnd2.2.2 e'.2.1 (List.mem_map.mpr ⟨e',he',rfl⟩) e.2.1 (by simp)
  have hrk2:=D2.rk
  rw[List.map_append,List.pairwise_append]at hrk2
  refine ret ?_
  refine(?_:Rj 3 2 5 6 _ _ _)
  refine⟨aI,st.map fun e=>AV.ref e.2.1,e.2.1,n.succ,e.2.2,_,n.nd.succs.map .int,h3,by rw[D2.hI];simp,hnx,hsrc,?_⟩
  rcases Nat.lt_or_ge e.2.2 n.nd.succs.length with hlt | hge
  ·left
   refine⟨.int (n.nd.succs[e.2.2]),by simp[hlt],?_⟩
   obtain⟨hyk,hyr⟩:=hdag.ok n hn _ (List.getElem_mem hlt)
   rw[hnk]at hyr
   refine hbrk _ (st++[(e.1,e.2.1,e.2.2 + 1)]) _ ⟨fun b hb hbd=>?_,?_,?_,?_,?_,⟨es,?_,?_⟩,fun e' he'=>?_,?_,D2.fS,D2.fI,D2.fE,D2.fD,fun e' he'=>?_,D2.si,?_,D2.sn,D2.sk,fun e' he'=>?_⟩ hyk (fun e' he'=>?_) ?_
   ·rw[Aa (fun q=>hb (by rw[q];exact hfX))];exact D2.k b hb hbd
   ·rw[Aa (Ne.symm dXd)];exact D2.d
   ·rw[Aa (Ne.symm dXS),D2.hS];simp
   ·rw[Aa (Ne.symm dXI),D2.hI];simp
   ·rw[Aa (Ne.symm dXE)];exact D2.hE
   ·rw[Aa (Ne.symm dXD)];exact hes
   ·rw[hesk];simp
   ·rcases List.mem_append.mp he' with he' | he'
    ·refine Ac fun PP ret=>?_
     obtain⟨m,hm,hmk,hmx,hml⟩:=D2.nx e' (by simp[he'])
     refine ret ?_
     exact⟨m,hm,hmk,by rw[Aa (dXX e' he')];exact hmx,hml⟩
    ·simp at he';subst he'
     exact⟨n,hn,hnk,Ad,hlt⟩
   ·have:=D2.nd;simpa using this
   ·rcases List.mem_append.mp he' with he' | he'
    ·exact D2.fX e' (by simp[he'])
    ·simp at he';subst he';exact hfX
   ·have:=D2.rk;simpa using this
   ·rcases List.mem_append.mp he' with he' | he'
    ·exact D2.ss e' (by simp[he'])
    ·simp at he';subst he';exact D2.ss e (by simp)
   ·rcases List.mem_append.mp he' with he' | he'
    ·exact Nat.lt_trans (hrk2.2.2 e'.1 (List.mem_map.mpr ⟨e',he',rfl⟩) e.1 (by simp)) hyr
    ·simp at he';subst he';exact hyr
   ·refine Nat.le_trans ?_ hrem
    rw[Lm,Lm]
    dsimp only
    rw[hlen];exact Ar.r187 hlt
  ·right
   have hp:e.2.2=n.nd.succs.length:=Nat.le_antisymm hpos hge
   have dSD:aS ≠ aD:=Ai D2.hS hes rfl
   have dID:aI ≠ aD:=Ai D2.hI hes rfl
   have dSE:aS ≠ aE:=Ai D2.hS D2.hE rfl
   have dIE:aI ≠ aE:=Ai D2.hI D2.hE rfl
   have dDE:aD ≠ aE:=Ai hes D2.hE rfl
   have ddS:σ.d ≠ aS:=Ai D2.d D2.hS rfl
   have ddI:σ.d ≠ aI:=Ai D2.d D2.hI rfl
   have ddD:σ.d ≠ aD:=fun q=>by have:=D2.d;rw[q,hes]at this;cases this
   have hxl:e.1 ∉ st.map (·.1):=fun q=>by
    have:=hrk2.2.2 e.1 q e.1 (by simp);exact Ar.r180 this
   have hl:es.length=st.length + 1:=by have:=congrArg List.length hesk;simpa using this
   have hfew:=hdag.few
   have hsb:scanBound=4096:=rfl
   rw[hsb]at hfew
   have hstkl:st.length + 1<=σ.nds.length:=by
    have hnd:((st++[e]).map (·.1)).Nodup:=by
     rw[List.Nodup];exact D2.rk.imp fun h e=>by rw[e]at h;exact Ar.r180 h
    have h1:((st++[e]).map (·.1)).length<=σ.toS.keys.length:=Ax hnd (fun y hy=>by
     obtain⟨e,he,rfl⟩:=List.mem_map.mp hy;exact D2.sk _ (D2.ss e he))
    simpa [SState.keys,FSt.toS]using h1
   refine⟨by simp[hp],aS,aD,st.map (fun e=>AV.int e.1),e.1,es,h2,h5,by rw[D2.hS];simp,hes,Fk (by rw[hesk];simp),by rw[hl,Au];exact Ar.r136 hfew hstkl,D2.si,?_⟩
   refine(?_:∃ m,_)
   refine⟨st.length,by simp,rfl,st,rfl,?_,?_⟩
   ·have f:∀ b,b ≠ e.2.1->b ≠ aS->b ≠ aD->b ≠ aI->upd (upd (upd (del H2 e.2.1) aS (.f (.lst false (st.map fun e=>AV.int e.1)))) aD (.f (.dic false (es.filter fun p=>decide (p.1 ≠ e.1))))) aI (.f (.lst false (st.map fun e=>AV.ref e.2.1))) b=H2 b:=fun b q1 q2 q3 q4=>by
     rw[Aa q4,Aa q3,Aa q2];simp[del,q1]
    refine⟨fun b hb hbd=>?_,?_,?_,?_,?_,⟨es.filter fun p=>decide (p.1 ≠ e.1),?_,?_⟩,fun e' he'=>?_,hnd2.1,D2.fS,D2.fI,D2.fE,D2.fD,fun e' he'=>D2.fX e' (by simp[he']),D2.si,hrk2.1,D2.sn,D2.sk,fun e' he'=>D2.ss e' (by simp[he'])⟩
    ·have nb:∀ c,H c=none->b ≠ c:=fun c hc q=>hb (q ▸ hc)
     rw[f b (nb _ hfX) (nb _ D2.fS) (nb _ D2.fD) (nb _ D2.fI)];exact D2.k b hb hbd
    ·rw[f _ (Ne.symm dXd) ddS ddD ddI];exact D2.d
    ·rw[Aa D2.si,Aa dSD,Ad]
    ·rw[Ad]
    ·rw[f _ (Ne.symm dXE) (Ne.symm dSE) (Ne.symm dDE) (Ne.symm dIE)];exact D2.hE
    ·rw[Aa (Ne.symm dID),Ad]
    ·exact Qq (by rw[hesk];simp) hxl
    ·refine Ac fun PP ret=>?_
     obtain⟨m,hm,hmk,hmx,hml⟩:=D2.nx e' (by simp[he'])
     refine ret ?_
     refine⟨m,hm,hmk,?_,hml⟩
     rw[f _ (dXX e' he') (Ai hmx D2.hS rfl) (Ai hmx hes rfl) (Ai hmx D2.hI rfl)]
     exact hmx
   ·refine Nat.le_trans ?_ hrem
    rw[Lm];exact Ar.r205
include F hdag in
theorem Vy {H':AH}{seen:List Int}{x:Int}{ρ:Rho}{Q:AFlow->Rho->AH->Prop}(D:DInv H σ rk aS aI aE aD H' [] seen)(hx:x ∈ σ.toS.keys)
  (h1:ρ 1 = .ref σ.d) (h2:ρ 2 = .ref aS) (h3:ρ 3 = .ref aI) (h4:ρ 4 = .ref aE) (h5:ρ 5 = .ref aD) (h6:ρ 6 = .int x)
  (hQ:∀ ρ' H2 seen2,DInv H σ rk aS aI aE aD H2 [] seen2->(∀ i,i ≠ 6->ρ' i=ρ i)->Q .next ρ' H2) :
  Dy (Az (Fz (cP (.bool true)))) (Ab (ifT (Az (Aw inV (vP 6) (vP 4))) (Ab (ifT (Az (Aw inV (vP 6) (vP 5))) noT Ag) Ag) (Ab (Av (Ti (vP 4) (vP 6))) (Ab (Av (Rb (vP 3) (Eh (Vg (Aq (attrS C 2) (opP idx (vP 1) (vP 6))))))) (Ab (Uc (Am (bP' Fw (Af (vP 2) Ak))) (vP 5) (vP 6)) (Ab (Av (Ms (vP 2) (vP 6))) Ag))))) (Ab (Dy (Az (Fz (vP 2))) (Ab (Rj 3 2 5 6) Ag) (Ab Qw Ag)) Ag)) Ag Q ρ H':=by
 refine⟨fun N ρ' H2=>∃ stk2 seen2 x,N=Ho σ seen2 + Cy σ stk2/\DInv H σ rk aS aI aE aD H2 stk2 seen2/\ρ' 6 = .int x/\(∀ i,i ≠ 6->ρ' i=ρ i)/\x ∈ σ.toS.keys/\∀ e ∈ stk2,rk e.1 < rk x,_,⟨[],seen,x,rfl,D,h6,fun z0 z0=>rfl,hx,by simp⟩,?_⟩
 rintro N ρ1 H2 ⟨stk2,seen2,x,rfl,D2,e6,eρ,hx2,hr2⟩
 have e1:ρ1 1 = .ref σ.d:=by rw[eρ 1 (by decide)];exact h1
 have e2:ρ1 2 = .ref aS:=by rw[eρ 2 (by decide)];exact h2
 have e3:ρ1 3 = .ref aI:=by rw[eρ 3 (by decide)];exact h3
 have e4:ρ1 4 = .ref aE:=by rw[eρ 4 (by decide)];exact h4
 have e5:ρ1 5 = .ref aD:=by rw[eρ 5 (by decide)];exact h5
 have hkn:σ.toS.keys.Nodup:=by
  have:=F.nk;simpa [SState.keys,FSt.toS,List.map_map,Function.comp_def]using this
 refine⟨true,rfl,?_⟩
 simp only [if_true]
 -- behind the choice
 have rest:∀ H3 stk3 seen3,DInv H σ rk aS aI aE aD H3 stk3 seen3->Ho σ seen3 + Cy σ stk3<=Ho σ seen2 + Cy σ stk2 ->
   (Ab (Dy (Az (Fz (vP 2))) (Ab (Rj 3 2 5 6) Ag) (Ab Qw Ag)) Ag) (fun f ρ2 H2=>match f with
    | .next=>∃ m,m < Ho σ seen2 + Cy σ stk2/\∃ stk2 seen2 x,m=Ho σ seen2 + Cy σ stk2/\DInv H σ rk aS aI aE aD H2 stk2 seen2/\ρ2 6 = .int x/\(∀ i,i ≠ 6->ρ2 i=ρ i)/\x ∈ σ.toS.keys/\∀ e ∈ stk2,rk e.1 < rk x
    | .cont=>∃ m,m < Ho σ seen2 + Cy σ stk2/\∃ stk2 seen2 x,m=Ho σ seen2 + Cy σ stk2/\DInv H σ rk aS aI aE aD H2 stk2 seen2/\ρ2 6 = .int x/\(∀ i,i ≠ 6->ρ2 i=ρ i)/\x ∈ σ.toS.keys/\∀ e ∈ stk2,rk e.1 < rk x
    | .brk=>Q .next ρ2 H2
    | .ret v=>Q (.ret v) ρ2 H2) ρ1 H3:=by
  intro H3 stk3 seen3 D3 hle
  refine Vz F hdag D3 e2 e3 e5 (fun H4 stk4 y D4 hy hr4 hrem=>?_) fun H4 D4=>?_
  ·refine⟨Ho σ seen3 + Cy σ stk4,by exact Ar.r67 hle hrem,stk4,seen3,y,rfl,D4,by simp,fun i hi=>by simp[Rho.set,hi,eρ i hi],hy,hr4⟩
  ·exact hQ ρ1 H4 seen3 D4 eρ
 by_cases hs:x ∈ seen2
 ·refine dW ?_ ?_
  ·simp only [Aw,Ah e6,Ae e4];rw[Lo D2.hE];simp[hs]
  obtain⟨es,hes,hesk⟩:=D2.hD
  refine Rw (Pv ?_ (cL (rest H2 stk2 seen2 D2 (Nat.le_refl _))))
  simp only [Aw,Ah e6,Ae e5]
  rewrite [bV hes,Ea ?_];rfl
  rw[hesk]
  intro q
  obtain⟨e,he,q⟩:=List.mem_map.mp q
  have:=hr2 e he
  rw[q]at this;exact Ar.r180 this
 ·refine iM ?_ ?_
  ·simp only [Aw,Ah e6,Ae e4];rw[Lo D2.hE];simp[hs]
  refine Rw ?_
  have hpush:=Zi (C:=C) F (T':=Ab Ag (Ab (Dy (Az (Fz (vP 2))) (Ab (Rj 3 2 5 6) Ag) (Ab Qw Ag)) Ag)) (Q:=fun f ρ2 H2=>match f with
    | .next=>∃ m,m < Ho σ seen2 + Cy σ stk2/\∃ stk2 seen2 x,m=Ho σ seen2 + Cy σ stk2/\DInv H σ rk aS aI aE aD H2 stk2 seen2/\ρ2 6 = .int x/\(∀ i,i ≠ 6->ρ2 i=ρ i)/\x ∈ σ.toS.keys/\∀ e ∈ stk2,rk e.1 < rk x
    | .cont=>∃ m,m < Ho σ seen2 + Cy σ stk2/\∃ stk2 seen2 x,m=Ho σ seen2 + Cy σ stk2/\DInv H σ rk aS aI aE aD H2 stk2 seen2/\ρ2 6 = .int x/\(∀ i,i ≠ 6->ρ2 i=ρ i)/\x ∈ σ.toS.keys/\∀ e ∈ stk2,rk e.1 < rk x
    | .brk=>Q .next ρ2 H2
    | .ret v=>Q (.ret v) ρ2 H2) D2 hx2 hs hr2 hdag e1 e2 e3 e4 e5 e6 (fun H3 nx D3=>cL (rest H3 _ _ D3 (by
     rw[Lm,aM hkn hx2 hs];simp only [Nat.sub_zero];exact Ar.r202)))
  have as4:∀ {A B D E G:Wp AFlow} {Q:AFlow->Rho->AH->Prop} {ρ:Rho} {H:AH},Ab A (Ab B (Ab D (Ab E G))) Q ρ H->Ab A (Ab (Ab B (Ab D E)) G) Q ρ H:=by
   intro A B D E G Q ρ H h
   have e:Ab (Ab B (Ab D E)) G=Ab B (Ab D (Ab E G)):=by
    funext Q ρ H
    apply propext
    constructor
    ·intro h
     have e1:Bh (Ab D E) (Bh G Q)=Bh (Ab (Ab D E) G) Q:=by funext f ρ H;cases f <;> rfl
     have h1:B (Bh (Ab D E) (Bh G Q)) ρ H:=h
     rw[e1]at h1
     have e2:Bh E (Bh G Q)=Bh (Ab E G) Q:=by funext f ρ H;cases f <;> rfl
     have e3:Bh (Ab (Ab D E) G) Q=Bh (Ab D (Ab E G)) Q:=by
      funext f ρ H
      cases f with
      | next =>
       refine(?_:D (Bh E (Bh G Q)) ρ H=D (Bh (Ab E G) Q) ρ H)
       rw[e2]
      | _=>rfl
     rw[e3]at h1;exact h1
    ·intro h
     have e2:Bh E (Bh G Q)=Bh (Ab E G) Q:=by funext f ρ H;cases f <;> rfl
     have e3:Bh (Ab D E) (Bh G Q)=Bh (Ab D (Ab E G)) Q:=by
      funext f ρ H
      cases f with
      | next =>
       refine(?_:D (Bh E (Bh G Q)) ρ H=D (Bh (Ab E G) Q) ρ H)
       rw[e2]
      | _=>rfl
     have h1:B (Bh (Ab D (Ab E G)) Q) ρ H:=h
     rw[<- e3]at h1;exact h1
   rw[e];exact h
  refine as4 ?_
  have e:∀ {A G:Wp AFlow},Ab (Ab A Ag) G=Ab A (Ab Ag G):=by
   intro A G
   funext Q ρ H
   have:Bh Ag (Bh G Q)=Bh (Ab Ag G) Q:=by funext f ρ H;cases f <;> rfl
   refine(?_:A (Bh Ag (Bh G Q)) ρ H=A (Bh (Ab Ag G) Q) ρ H)
   rw[this]
  rw[e]
  exact hpush
end
end Mine
end
section
namespace Mine
section
variable {C:Cx} {H:AH} {a:Addr} {σ:FSt} {rk:Int->Nat}
theorem Lg {Q:AV->AH->Prop}(F:Flat C false none H a σ)(hdag:Dag σ rk)
  (hQ:∀ H',Flat C false none H' a σ->Frm C a H σ H' σ->Q .none H'):Cn C [.ref a] Q H:=by
 unfold Cn Bi
 refine⟨_,rfl,?_⟩
 unfold Eb
 generalize hρ:(fun i=>([.ref a]:List AV).getD i .undef)=ρ0
 change Rho at ρ0
 have r0:ρ0 0 = .ref a:=by rw[<- hρ];rfl
 refine Pu (v:=.ref σ.d) ?_ rfl ?_
 ·simp only [Aq,Ae r0];exact F.n2i
 refine Lv (o:=.lst false []) rfl fun aS hS=>?_
 refine Lv (o:=.lst false []) rfl fun aI hI=>?_
 refine Lv (o:=.iset []) rfl fun aE hE=>?_
 refine Lv (o:=.dic false []) rfl fun aD hD=>?_
 have nIS:aI ≠ aS:=by first | exact Ai Ad hI rfl | exact Ai hI Ad rfl
 have nEI:aE ≠ aI:=by first | exact Ai Ad hE rfl | exact Ai hE Ad rfl
 have nES:aE ≠ aS:=fun qq=>by first | (rw[<- qq,Aa nEI,Ad]at hE;exact nqb hE) | (rw[qq,Aa nEI,Ad]at hE;exact nqb hE)
 have nDE:aD ≠ aE:=by first | exact Ai Ad hD rfl | exact Ai hD Ad rfl
 have nDI:aD ≠ aI:=fun qq=>by first | (rw[<- qq,Aa nDE,Ad]at hD;exact nqb hD) | (rw[qq,Aa nDE,Ad]at hD;exact nqb hD)
 have nDS:aD ≠ aS:=fun qq=>by first | (rw[<- qq,Aa nDE,Aa nDI,Ad]at hD;exact nqb hD) | (rw[qq,Aa nDE,Aa nDI,Ad]at hD;exact nqb hD)
 rw[Aa nIS]at hI
 rw[Aa nEI,Aa nES]at hE
 rw[Aa nDE,Aa nDI,Aa nDS]at hD
 have dS:σ.d ≠ aS:=Ai F.hd hS rfl
 have dI:σ.d ≠ aI:=Ai F.hd hI rfl
 have dE:σ.d ≠ aE:=Ai F.hd hE rfl
 have dD:σ.d ≠ aD:=Ai F.hd hD rfl
 generalize hH5:upd (upd (upd (upd H aS (.f (.lst false []))) aI (.f (.lst false []))) aE (.f (.iset []))) aD (.f (.dic false []))=H5
 have e5:∀ b,b ≠ aS->b ≠ aI->b ≠ aE->b ≠ aD->H5 b=H b:=fun b q1 q2 q3 q4=>by rw[<- hH5,Aa q4,Aa q3,Aa q2,Aa q1]
 have e5d:H5 σ.d=some (.f (.dic false σ.dicL)):=by rw[e5 _ dS dI dE dD];exact F.hd
 refine cM e5d rfl ?_
 have D0:DInv H σ rk aS aI aE aD (upd H5 σ.d (.f (.dic true σ.dicL))) [] []:=by
  refine⟨fun b hb hbd=>?_,Ad,?_,?_,?_,⟨[],?_,rfl⟩,by simp,by simp,hS,hI,hE,hD,by simp,Ne.symm nIS,by simp,by simp,by simp,by simp⟩
  ·have nb:∀ c,H c=none->b ≠ c:=fun c hc q=>hb (q ▸ hc)
   rw[Aa hbd,e5 b (nb _ hS) (nb _ hI) (nb _ hE) (nb _ hD)]
  ·rw[Aa (Ne.symm dS),<- hH5,Aa (Ne.symm nDS),Aa (Ne.symm nES),Aa (Ne.symm nIS),Ad];rfl
  ·rw[Aa (Ne.symm dI),<- hH5,Aa (Ne.symm nDI),Aa (Ne.symm nEI),Ad];rfl
  ·rw[Aa (Ne.symm dE),<- hH5,Aa (Ne.symm nDE),Ad]
  ·rw[Aa (Ne.symm dD),<- hH5,Ad]
 generalize hρ5:((((ρ0.set 1 (.ref σ.d)).set 2 (.ref aS)).set 3 (.ref aI)).set 4 (.ref aE)).set 5 (.ref aD)=ρ5
 have h1:ρ5 1 = .ref σ.d:=by rw[<- hρ5];simp[Rho.set]
 have h2:ρ5 2 = .ref aS:=by rw[<- hρ5];simp[Rho.set]
 have h3:ρ5 3 = .ref aI:=by rw[<- hρ5];simp[Rho.set]
 have h4:ρ5 4 = .ref aE:=by rw[<- hρ5];simp[Rho.set]
 have h5:ρ5 5 = .ref aD:=by rw[<- hρ5];simp[Rho.set]
 have hfew:=hdag.few
 have hsb:scanBound=4096:=rfl
 rw[hsb]at hfew
 refine⟨σ.toS.keys.map .int,?_,Ba _,?_⟩
 ·unfold bQ
  rw[Ae h1]
  refine(?_:bO (upd H5 σ.d (.f (.dic true σ.dicL))) (.ref σ.d)=_)
  unfold bO
  simp only [D0.d]
  rw[if_pos (by simp[FSt.dicL,Au];exact Ar.r139 hfew)]
  simp[FSt.dicL,SState.keys,FSt.toS,Function.comp_def]
 refine Lp (fun z0 ρ H2=>(∃ seen,DInv H σ rk aS aI aE aD H2 [] seen)/\ρ 1 = .ref σ.d/\ρ 2 = .ref aS/\ρ 3 = .ref aI/\ρ 4 = .ref aE/\ρ 5 = .ref aD) ⟨⟨[],D0⟩,h1,h2,h3,h4,h5⟩ ?_ ?_
 ·rintro i x ρ H2 K' hx ⟨⟨seen,D⟩,g1,g2,g3,g4,g5⟩ hK
  have hxk:x ∈ σ.toS.keys:=List.mem_of_getElem? hx
  have s1:(ρ.set 6 (.int x)) 1 = .ref σ.d:=by simp[Rho.set,g1]
  have s2:(ρ.set 6 (.int x)) 2 = .ref aS:=by simp[Rho.set,g2]
  have s3:(ρ.set 6 (.int x)) 3 = .ref aI:=by simp[Rho.set,g3]
  have s4:(ρ.set 6 (.int x)) 4 = .ref aE:=by simp[Rho.set,g4]
  have s5:(ρ.set 6 (.int x)) 5 = .ref aD:=by simp[Rho.set,g5]
  have s6:(ρ.set 6 (.int x)) 6 = .int x:=by simp
  by_cases hs:x ∈ seen
  ·refine dW ?_ ?_
   ·simp only [Aw,Ah s6,Ae s4];rw[Lo D.hE];simp[hs]
   exact(hK _ _ ⟨⟨seen,D⟩,s1,s2,s3,s4,s5⟩).2
  ·refine Pv ?_ ?_
   ·simp only [Aw,Ah s6,Ae s4];rw[Lo D.hE];simp[hs]
   refine Vy F hdag D hxk s1 s2 s3 s4 s5 s6 fun ρ' H3 seen2 D3 hρ'=>?_
   exact(hK _ _ ⟨⟨seen2,D3⟩,by rw[hρ' 1 (by decide)];exact s1,by rw[hρ' 2 (by decide)];exact s2,by rw[hρ' 3 (by decide)];exact s3,by rw[hρ' 4 (by decide)];exact s4,by rw[hρ' 5 (by decide)];exact s5⟩).1
 ·rintro ρ H2 ⟨⟨seen,D⟩,_⟩
  refine gE (v:=.none) rfl rfl ?_
  have G:=D.flat F
  refine hQ _ ⟨?_,Ad,fun r hr=>?_,fun n hn=>?_,fun n hn=>?_,G.ni,G.ns,G.nk,G.nr⟩ ⟨fun b hb hn=>?_,fun b hb=>.inl hb⟩
  ·rw[Aa (Ai G.ha G.hd rfl)];exact G.ha
  ·rw[Aa (Ai (G.hr r hr) G.hd rfl)];exact G.hr r hr
  ·rw[Aa (Ai (G.hi n hn) G.hd rfl)];exact G.hi n hn
  ·rw[Aa (Ai (G.hs n hn) G.hd rfl)];exact G.hs n hn
  ·have hbd:b ≠ σ.d:=fun q=>hb (parts_iff.mpr (.inr (.inl q)))
   rw[Aa hbd];exact D.k b hn hbd
noncomputable def SState.prep (S:SState):SState:={ S with ready:=some ((S.nodes.filter fun n=>decide (n.npred=0)).map (·.key)) }
theorem Os {Q:AV->AH->Prop}(F:Flat C false none H a σ)(hr:σ.ready=none)(hdag:Dag σ rk)
  (hQ:∀ H' σ',Flat C false none H' a σ'->Frm C a H σ H' σ'->σ'.toS=σ.toS.prep->Q .none H'):Ee C [.ref a] Q H:=by
 unfold Ee Bi
 refine⟨_,rfl,?_⟩
 unfold Fg
 generalize hρ:(fun i=>([.ref a]:List AV).getD i .undef)=ρ0
 change Rho at ρ0
 have r0:ρ0 0 = .ref a:=by rw[<- hρ];rfl
 have hrd:σ.rdy = .none:=by unfold FSt.rdy;rw[hr]
 have hfew:=hdag.few
 have hsb:scanBound=4096:=rfl
 rw[hsb]at hfew
 refine Pv ?_ ?_
 ·simp only [Aw,Aq,Ae r0,F.rdyA,cP,hrd];rfl
 have hcomp:Fr (Ui (Aq (attrD C "_node2info") (vP 0))) (.one 2) (Aw eqV (Aq (attrS C 1) (vP 2)) (cP (.int 0))) (Fx (Aq (attrS C 0) (vP 2))) (.lst false []) ρ0 H=some (.lst false (((σ.nds.filter fun n=>decide (n.nd.npred=0)).map (·.nd.key)).map .int)):=by
  unfold Fr
  have e1:Ui (Aq (attrD C "_node2info") (vP 0)) ρ0 H=some (σ.nds.map fun n=>AV.ref n.info):=by
   unfold Ui
   simp only [Aq,Ae r0,F.n2i]
   refine(?_:aJ H (.ref σ.d)=_)
   unfold aJ
   simp only [F.hd]
   rw[if_pos (by simp[FSt.dicL,Au];exact Ar.r139 hfew)]
   simp[FSt.dicL,Function.comp_def]
  rw[e1]
  dsimp only
  have main:∀ (l:List FN) (acc:List AV),(∀ n ∈ l,n ∈ σ.nds)->acc.length + l.length<=σ.nds.length->Bx (.one 2) (Aw eqV (Aq (attrS C 1) (vP 2)) (cP (.int 0))) (Fx (Aq (attrS C 0) (vP 2))) ρ0 H (.lst false acc) (l.map fun n=>AV.ref n.info)=some (.lst false (acc++((l.filter fun n=>decide (n.nd.npred=0)).map (·.nd.key)).map .int)):=by
   intro l
   induction l with
   | nil=>intro acc _ _;simp[iF]
   | cons n l ih =>
    intro acc hl hz
    have hn:=hl n (by simp)
    have p2:(ρ0.set 2 (.ref n.info)) 2 = .ref n.info:=by simp
    simp only [List.map_cons,fN]
    refine(?_:(match Aw eqV (Aq (attrS C 1) (vP 2)) (cP (.int 0)) (ρ0.set 2 (.ref n.info)) H with
     | some true=>match Fx (Aq (attrS C 0) (vP 2)) (ρ0.set 2 (.ref n.info)) H (.lst false acc) with
      | some o'=>Bx (.one 2) (Aw eqV (Aq (attrS C 1) (vP 2)) (cP (.int 0))) (Fx (Aq (attrS C 0) (vP 2))) ρ0 H o' (l.map fun n:FN=>AV.ref n.info)
      | none=>none
     | some false=>Bx (.one 2) (Aw eqV (Aq (attrS C 1) (vP 2)) (cP (.int 0))) (Fx (Aq (attrS C 0) (vP 2))) ρ0 H (.lst false acc) (l.map fun n:FN=>AV.ref n.info)
     | none=>none)=_)
    have hc:Aw eqV (Aq (attrS C 1) (vP 2)) (cP (.int 0)) (ρ0.set 2 (.ref n.info)) H=some (decide (n.nd.npred=0)):=by
     simp only [Aw,Aq,Ae p2,F.npredA hn,cP]
     refine(?_:eqA 7 (.int n.nd.npred) (.int 0)=_)
     refine(?_:some (n.nd.npred == 0)=_)
     congr 1
    rw[hc]
    simp only [List.length_cons]at hz
    by_cases h0:n.nd.npred=0
    ·simp only [h0,decide_true]
     have he:Fx (Aq (attrS C 0) (vP 2)) (ρ0.set 2 (.ref n.info)) H (.lst false acc)=some (.lst false (acc++[.int n.nd.key])):=by
      unfold Fx
      simp only [Aq,Ae p2,F.keyA hn]
      rw[if_pos ⟨rfl,by rw[Au];exact Ar.r135 hfew hz⟩]
     rw[he]
     dsimp only
     rw[ih _ (fun m hm=>hl m (by simp[hm])) (by simp;exact Ar.r56 hz)]
     simp[h0]
    ·have:decide (n.nd.npred=0)=false:=by simp[h0]
     simp only [this]
     rw[ih _ (fun m hm=>hl m (by simp[hm])) (by exact Ar.r57 hz)]
     simp[h0]
  have:=main σ.nds [] (fun n hn=>hn) (by simp)
  simpa using this
 refine⟨_,hcomp,fun x hx=>?_⟩
 generalize hrl:(σ.nds.filter fun n=>decide (n.nd.npred=0)).map (·.nd.key)=rl
 have hxa:a ≠ x:=Ai F.ha hx rfl
 refine⟨.ref a,_,Ae r0,Fa (by rw[Aa hxa];exact F.ha) rfl (Nat.le_of_ble_eq_true rfl),?_⟩
 generalize hH2:upd (upd H x (.f (.lst false (rl.map .int)))) a (.f (.inst C.tsC (Dt (De σ.d σ.rdy σ.passed σ.fin) "_ready_nodes" (.ref x))))=H2
 have e2:∀ b,b ≠ a->b ≠ x->H2 b=H b:=fun b q1 q2=>by rw[<- hH2,Aa q1,Aa q2]
 have F2:Flat C false none H2 a { σ with ready:=some rl,ra:=x }:=by
  have nx:∀ b o,H b=some o->b ≠ x:=fun b o h q=>by rw[q,hx]at h;exact nqa h
  refine⟨?_,?_,fun r hr=>?_,fun n hn=>?_,fun n hn=>?_,F.ni,F.ns,F.nk,fun z0 n hn=>nx _ _ (F.hs n hn)⟩
  ·rw[<- hH2,Ad];rfl
  ·refine(?_:H2 σ.d=_)
   rw[e2 _ (fun q=>by have:=F.ha;rw[<- q,F.hd]at this;cases this) (nx _ _ F.hd)];exact F.hd
  ·obtain rfl:=Option.some.inj hr
   refine(?_:H2 x=_)
   rw[<- hH2,Aa (Ne.symm hxa),Ad]
  ·rw[e2 _ (fun q=>by have:=F.ha;rw[<- q,F.hi n hn]at this;cases this) (nx _ _ (F.hi n hn))];exact F.hi n hn
  ·rw[e2 _ (fun q=>by have:=F.ha;rw[<- q,F.hs n hn]at this;cases this) (nx _ _ (F.hs n hn))];exact F.hs n hn
 have fr2:Frm C a H σ H2 { σ with ready:=some rl,ra:=x }:=by
  refine⟨fun b hb hn=>e2 b (fun q=>hb (parts_iff.mpr (.inl q))) (fun q=>hn (q ▸ hx)),fun b hb=>?_⟩
  rcases parts_iff.mp hb with q | q | q | q
  ·exact .inl (parts_iff.mpr (.inl q))
  ·exact .inl (parts_iff.mpr (.inr (.inl q)))
  ·right;rw[q.2];exact hx
  ·exact .inl (parts_iff.mpr (.inr (.inr (.inr q))))
 refine gF (a:=a) (ns:=Bk) (vs:=[]) (Ae r0) F2.inst (by decide) rfl rfl ?_
 have hdag2:Dag { σ with ready:=some rl,ra:=x } rk:=⟨hdag.ok,hdag.few⟩
 refine Lg F2 hdag2 fun H3 F3 fr3=>?_
 refine Pv (c:=Fz (vP 1)) ?_ ?_
 ·have:vP 1 (ρ0.set 1 .none) H3=some .none:=by unfold vP;simp
  simp only [Fz,this];rfl
 refine hQ H3 _ F3 (fr2.trans fr3) ?_
 unfold FSt.toS SState.prep
 simp only
 rw[<- hrl]
 simp[List.filter_map,Function.comp_def]
end
end Mine
end
section
namespace Mine
section
variable {C:Cx} {H:AH} {a:Addr} {k:Nat} {f:Value}
theorem Ir {S:SState}{L:FL}(ha:H a=some (.srt S))(hL:SFlat C a S L)(hnd:(L.map (·.1)).Nodup)(hfr:∀ b ∈ L.map (·.1),b ≠ a->H b=none) :
  ∃ σ:FSt,σ.toS=S/\Flat C false none (Db H L) a σ/\∀ (Q:AV->AH->Prop) H1 σ' v,Flat C false none H1 a σ'->Frm C a (Db H L) σ H1 σ'->Q v (upd H a (.srt σ'.toS)) ->
   Pkd C a H Q v H1:=by
 obtain⟨σ,hS,rfl,hk⟩:=hL
 have hin:∀ x ∈ σ.L C a,Db H (σ.L C a) x.1=some (.f x.2):=fun x hx=>by
  unfold Db;rw[Gs hnd (b:=x.1) (v:=x.2) hx]
 refine⟨σ,hS,Flat.ofL hnd hk hin,fun Q H1 σ' v F1 fr hq=>?_⟩
 obtain⟨n1,i1⟩:=F1.toL
 have out:∀ b,¬ Dj C a σ b->Db H (σ.L C a) b=H b:=fun b hb=>by
  unfold Db;rw[lookup_none.mpr hb]
 refine⟨σ'.toS,σ'.L C a,⟨σ',rfl,rfl,F1.nk⟩,n1,i1,fun b o hb e=>?_,fun b hb hba=>?_,hq⟩
 ·have hp:¬ Dj C a σ b:=fun q=>by rw[hfr b q hb]at e;exact nqa e
  rw[fr.out b hp (by rw[out b hp,e];simp),out b hp];exact e
 ·rcases fr.new b hb with q | q
  ·exact hfr b q hba
  ·by_cases hp:Dj C a σ b
   ·exact hfr b hp hba
   ·rw[out b hp]at q;exact q
noncomputable def iH (S:SState) (rk:Int->Nat):Prop:=(∀ n ∈ S.nodes,∀ s ∈ n.succs,s ∈ S.keys/\rk n.key < rk s)/\S.nodes.length + 2 < scanBound
noncomputable def Sw:FW:=fun vs Q H=>vs=[]/\∀ a,H a=none->Q (.ref a) (upd H a (.srt .empty))
noncomputable def Jz:FW:=fun vs Q H=>∃ a S x ps B,vs = .ref a :: .int x :: List.map .int ps/\H a=some (.srt S)/\S.ready=none/\S.Bd B/\B + 2 * ps.length + 2 < lim/\Q .none (upd H a (.srt (S.add x ps)))
noncomputable def Fe:FW:=fun vs Q H=>∃ a S rk,vs=[.ref a]/\H a=some (.srt S)/\S.ready=none/\iH S rk/\Q .none (upd H a (.srt S.prep))
noncomputable def Ef:FW:=fun vs Q H=>∃ a S r,vs=[.ref a]/\H a=some (.srt S)/\S.ready=some r/\r.length<=lim/\(∀ x ∈ r,x ∈ S.keys)/\Q (.tup (r.map .int)) (upd H a (.srt (S.getReady r)))
noncomputable def Ff:FW:=fun vs Q H=>∃ a S r,vs=[.ref a]/\H a=some (.srt S)/\S.ready=some r/\Q (.bool (S.active r)) (upd H a (.srt S))
noncomputable def Je:FW:=fun vs Q H=>∃ a S r ks B,vs = .ref a :: List.map .int ks/\H a=some (.srt S)/\S.ready=some r/\Kg S ks/\S.Bd B/\r.length + ks.length * B + ks.length + 2<=lim/\Q .none (upd H a (.srt (ks.foldl SState.done1 S)))
theorem aF (h:CallR C k f (Bg C)):CallR C k f Sw:=by
 refine h.packNew (S':=.empty) fun vs Q H ⟨e,hq⟩=>?_
 subst e
 refine Ye fun a H' σ ha F hS hk hp=>?_
 obtain⟨n1,i1⟩:=F.toL
 exact⟨a,σ.L C a,rfl,ha,⟨σ,hS,rfl,F.nk⟩,n1,i1,hk,hp,hq a ha⟩
theorem Pi (h:CallR C k f (Jd C)):CallR C k f Jz:=by
 refine h.packed ?_
 rintro vs Q H ⟨a,S,x,ps,B,e,ha,hr,hB,hz,hq⟩
 refine⟨a,S,ha,fun L hL hnd hfr=>?_⟩
 subst e
 obtain⟨σ,hS,F,fin⟩:=Ir ha hL hnd hfr
 refine Zx F (by rw[<- hS]at hr;exact hr) (by rw[hS];exact hB) hz fun H' σ' F' fr hS'=>fin Q H' σ' _ F' fr ?_
 rw[hS',hS];exact hq
theorem My (h:CallR C k f (Ee C)):CallR C k f Fe:=by
 refine h.packed ?_
 rintro vs Q H ⟨a,S,rk,e,ha,hr,hd,hq⟩
 refine⟨a,S,ha,fun L hL hnd hfr=>?_⟩
 subst e
 obtain⟨σ,hS,F,fin⟩:=Ir ha hL hnd hfr
 have hdag:Dag σ rk:=by
  rw[<- hS]at hd
  refine⟨fun n hn s hs=>hd.1 n.nd (List.mem_map.mpr ⟨n,hn,rfl⟩) s hs,?_⟩
  have:=hd.2;simpa [FSt.toS]using this
 refine Os F (by rw[<- hS]at hr;exact hr) hdag fun H' σ' F' fr hS'=>fin Q H' σ' _ F' fr ?_
 rw[hS',hS];exact hq
theorem Jh (h:CallR C k f (Dg C)):CallR C k f Ef:=by
 refine h.packed ?_
 rintro vs Q H ⟨a,S,r,e,ha,hr,hz,hk,hq⟩
 refine⟨a,S,ha,fun L hL hnd hfr=>?_⟩
 subst e
 obtain⟨σ,hS,F,fin⟩:=Ir ha hL hnd hfr
 refine Mi F (by rw[<- hS]at hr;exact hr) hz (by rw[hS];exact hk) fun H' σ' F' fr hS'=>fin Q H' σ' _ F' fr ?_
 rw[hS',hS];exact hq
theorem Jg (h:CallR C k f (Df C)):CallR C k f Ff:=by
 refine h.packed ?_
 rintro vs Q H ⟨a,S,r,e,ha,hr,hq⟩
 refine⟨a,S,ha,fun L hL hnd hfr=>?_⟩
 subst e
 obtain⟨σ,hS,F,fin⟩:=Ir ha hL hnd hfr
 refine Rc F (by rw[<- hS]at hr;exact hr) (fin Q _ σ _ F .refl ?_)
 rw[hS];exact hq
theorem Uh (h:CallR C k f (Gw C)):CallR C k f Je:=by
 refine h.packed ?_
 rintro vs Q H ⟨a,S,r,ks,B,e,ha,hr,hok,hB,hz,hq⟩
 refine⟨a,S,ha,fun L hL hnd hfr=>?_⟩
 subst e
 obtain⟨σ,hS,F,fin⟩:=Ir ha hL hnd hfr
 refine Vx F (by rw[<- hS]at hr;exact hr) (by rw[hS];exact hok) (by rw[hS];exact hB) hz fun H' σ' F' fr hS'=>fin Q H' σ' _ F' fr ?_
 rw[hS',hS];exact hq
end
end Mine
end
section
namespace Mine
noncomputable abbrev FWp:=(AV->AH->Prop)->Rho->AH->Prop
inductive PostB (C:Cx) (s:Shared) (H:AH) (G:Gh) (Q:Bool->AH->Prop) (b:Bool) (s':Shared):Prop
 | mk (H':AH) (G':Gh) (hq:Q b H') (R:Rel C H' G' (own H' G') s'.heap) (S:Step (fun z0=>False) H G s H' G' s')
noncomputable def ImpF (C:Cx) (k:Nat) (sc:Sc) (e:Expr) (W:FWp):Prop :=
 ∀ (A:Around) (env:Env) (s:Shared) (ρ:Rho) (H:AH) (G:Gh) (Q:AV->AH->Prop),AOk k A->WF C A sc env ρ G (own H G) s.heap->stoR sc ρ->Rel C H G (own H G) s.heap->W Q ρ H ->
  wpAny (model C.prog C.w) A (eval e env) (PostV C s H G Q) (fun z0 z0=>False) s
noncomputable def TestsF (C:Cx) (k:Nat) (sc:Sc) (ifs:List Expr) (W:(Bool->AH->Prop)->Rho->AH->Prop):Prop :=
 ∀ (A:Around) (env:Env) (s:Shared) (ρ:Rho) (H:AH) (G:Gh) (Q:Bool->AH->Prop),AOk k A->WF C A sc env ρ G (own H G) s.heap->stoR sc ρ->Rel C H G (own H G) s.heap->W Q ρ H ->
  wpAny (model C.prog C.w) A (forIn ifs true fun c r=>if r=true then do let ok <- isTrue c env (eval c env);pure (ForInStep.yield ok) else pure (ForInStep.yield r)) (PostB C s H G Q) (fun z0 z0=>False) s
noncomputable def Xr (c:CF):(Bool->AH->Prop)->Rho->AH->Prop:=fun Q ρ H=>∃ b,c ρ H=some b/\Q b H
noncomputable def Zt (fs:LF) (W:FW):FWp:=fun Q ρ H=>∃ vs,fs ρ H=some vs/\AV.stos vs=true/\W vs Q H
noncomputable def Gj (tg:Tgt) (Wc:(Bool->AH->Prop)->Rho->AH->Prop) (We:FWp) (D:Addr) (Q:AH->Prop) (ρ:Rho):List AV->AH->Prop
 | [],H=>Q H
 | v :: r,H=>∃ ρ',tg.put H v ρ=some ρ'/\Wc (fun b H1=>(b=true->We (fun x H2=>∃ ws,H2 D=some (.f (.lst false ws))/\x.sto=true/\ws.length < lim/\Gj tg Wc We D Q ρ r (upd H2 D (.f (.lst false (ws++[x]))))) ρ' H1)/\(b=false->Gj tg Wc We D Q ρ r H1)) ρ' H
noncomputable def Mp (fs:LF) (tg:Tgt) (Wc:(Bool->AH->Prop)->Rho->AH->Prop) (We:FWp):Wp AV:=fun Q ρ H=>∃ vs,fs ρ H=some vs/\AV.stos vs=true/\∀ D,H D=none->Gj tg Wc We D (fun H'=>Q (.ref D) ρ H') (und tg.idx ρ) vs (upd H D (.f (.lst false [])))
section
variable {C:Cx} {k:Nat} {sc sc':Sc} {f:PF} {fs:LF}
theorem TestsF.pure {ifs:List Expr}{c:CF}(h:TestsE C k sc ifs c):TestsF C k sc ifs (Xr c):=by
 rintro A env s ρ H G Q hA F hs R ⟨b,hb,hq⟩
 refine wpAny_mono (h A env s ρ H G _ b hA F R hb) (fun ok s1 h1=>?_) fun z0 z0 x=>x
 obtain⟨rfl,k1⟩:=h1
 exact⟨H,G,hq,R.keep k1.k,.kp R k1⟩
theorem ImpF.call {x:Str}{p pos:Pos}{args:List Expr}{a:Addr}{W:FW}{o:Obj}{fd:FuncData}(hx:x ∈ sc.globs)(hm:C.mg x=some (.ref a))(ho:C.h0.get? a=some o)(hd:o.data = .func fd)(hargs:ArgsF C k sc args fs)(hf:CallR C k (.ref a) W)
  (hdb:(x == ("__debug__":Str))=false:=by decide):ImpF C k sc (.Call (.Name x p) args [] pos) (Zt fs W):=by
 rintro A env s ρ H G Q hA F hs R ⟨vs,hvs,hst,hW⟩
 refine wpAny_Call_NameR (wpAny_Name (Cf F R hx (.inl hm) ?_) hdb)
 refine Calls.callWith_function (o:=o) (fd:=fd) (wpAny_mono (hargs (.ref a) pos A env s ρ H G _ vs hA F R hvs) (fun a' s1 h1=>?_) fun z0 z0 x=>x)
 obtain⟨xs,rfl,r1,k1⟩:=h1
 have R1:=R.keep k1.k
 refine⟨⟨(R1.base a o ho).1,hd⟩,?_⟩
 refine wpAny_mono (hf.wp A s1 H G vs xs _ hA (F.keep k1.k).frs R1 r1 hst hW) (fun y s2 h2=>?_) fun z0 z0 x=>x
 obtain⟨v,H2,G2,hq,hv,hsv,R2,S2⟩:=h2
 exact⟨v,H2,G2,hq,hv,hsv,R2,(Step.kp R k1).trans S2⟩
inductive CI (C:Cx) (A:Around) (sc':Sc) (cenv:Env) (is:List Nat) (ρ:Rho) (H0:AH) (G0:Gh) (sB:Shared) (PP:Addr->Prop) (St:Nat->Heap->Prop) (i:Nat) (H':AH) (t:Shared):Prop
 | mk (ρi:Rho) (G':Gh) (F:WF C A sc' cenv ρi G' (own H' G') t.heap) (hs:stoR sc' ρi) (ag:∀ j,j ∉ is->ρi j=ρ j) (R:Rel C H' G' (own H' G') t.heap) (S:Step PP H0 G0 sB H' G' t) (st:St i t.heap)
theorem Ss {elt target iter:Expr}{ifs:List Expr}{scope:Scope}{pos:Pos}{tg:Tgt}{Wc:(Bool->AH->Prop)->Rho->AH->Prop}{We:FWp}(ht:AssignR C sc' target tg)(hc:TestsF C k sc' ifs Wc)(he:ImpF C k sc' elt We)
  {A:Around} {cenv:Env} {s sB:Shared} {ρ:Rho} {H:AH} {G:Gh} {D L I:Addr} {vs:List AV} {fp wr cs:List Addr} {P:Nat->Value->Prop} {St:Nat->Heap->Prop} (hA:AOk k A) (R:Rel C H G (own H G) s.heap) (hst:AV.stos vs=true) (hso:stoR sc' (und tg.idx ρ))
  (CS:CSet C A sc' cenv s sB ρ H G (own H G) D L I tg.idx vs fp wr cs P St fun h b=>Kf h H G (own H G) b) {Q:AH->Prop} {Rr:Result->Shared->Prop} (hn:H D=none) (hgo:Gj tg Wc We D Q (und tg.idx ρ) vs (upd H D (.f (.lst false []))))
  (hR:∀ H' G' t,Q H'->Rel C H' G' (own H' G') t.heap->Step (fun z0=>False) H G s H' G' t->(∃ m,t.heap.Ns L m)->¬ own H' G' L->Rr (.ok .next) t):codeAny (model C.prog C.w) A (.compLoop (.ListComp elt [⟨target,iter,ifs,0⟩] scope pos) 0 (.ref I) (.ref D) cenv) Rr sB:=by
 have K:=CS.K
 have M:Made C (own H G) G (.lst false []) s D [] sB:=⟨⟨rfl,rfl,Nat.zero_le _,0,[],CS.hD,.nil⟩,by simp,fun b hb=>by
  have e:b=D:=hb.resolve_right List.not_mem_nil
  rw[e];exact⟨CS.nD,_,CS.hD⟩,CS.k⟩
 obtain⟨_,R0,S0⟩:=Made.step R M
 have oe:own (upd H D (.f (.lst false []))) (Cd G D [])=fun b=>own H G b\/b=D:=by
  rw[Ot hn]
  funext b;apply propext
  exact⟨fun q=>q.imp id fun q=>q.resolve_right List.not_mem_nil,fun q=>q.imp id .inl⟩
 have F0:WF C A sc' cenv (und tg.idx ρ) (Cd G D []) (own (upd H D (.f (.lst false []))) (Cd G D [])) sB.heap:=by
  rw[oe]
  exact CS.F.keepO (fun x i hx v r=>r.mono (fun b o xs n e hd hb=>⟨e,hb⟩) (hso x i hx)) (fun b o e=>e) fun b o e q=>q
 generalize hH0:upd H D (.f (.lst false []))=H0 at R0 S0 F0 hgo oe
 generalize hG0:Cd G D []=G0 at R0 S0 F0 oe
 let PP:Addr->Prop:=fun b=>ta sc' cenv tg.idx b\/b ∈ wr
 have wns:∀ i h,St i h->∀ b ∈ wr,∀ o,h.get? b=some o->∀ xs n,o.data ≠ .seq xs n:=fun i h st b hb o e xs n q=>by
  obtain⟨o',vs,e',hd⟩:=K.wl i h st b hb
  rw[e']at e;obtain rfl:=Option.some.inj e;rw[hd]at q;cases q
 have hwrO:∀ b ∈ wr,¬ own H0 G0 b:=fun b hb q=>by rw[oe]at q;exact K.wrO b hb q
 have hwrB:∀ b ∈ wr,sB.heap.get? b ≠ none:=fun b hb q=>by
  obtain⟨o',vs,e',hd⟩:=K.wl 0 _ K.st b hb
  rw[q]at e';exact nqa e'
 have hown:∀ H' G' t,Step PP H0 G0 sB H' G' t->∀ b ∈ wr,¬ own H' G' b:=fun H' G' t S b hb q=>(S.fresh b q).elim (hwrO b hb) (hwrB b hb)
 have hcsk:∀ H' G' t,Step PP H0 G0 sB H' G' t->∀ j,St j t.heap->∀ H2 G2 t2,Step (fun z0=>False) H' G' t H2 G2 t2->∀ b ∈ fp,∀ o,t.heap.get? b=some o->t2.heap.get? b=some o:=by
  intro H' G' t S j stj H2 G2 t2 S2 b hb o e
  rcases CS.cont b hb with h' | h'
  ·obtain⟨o2,e2,q2⟩:=S2.keep b o (hown H' G' t S b h') (fun x=>x) e
   obtain⟨ow,vw,ew,dw⟩:=K.wl j _ stj b h'
   rw[e]at ew;obtain rfl:=Option.some.inj ew
   rw[e2,q2.eq fun es ep q=>by rw[dw]at q;cases q]
  ·obtain⟨h2,hk2,hz⟩:=CS.hcs b h'
   rcases hz with ⟨hO,o',xs,n,e',hd⟩ | ⟨a,oa,ha,hl,hba⟩
   ·have eB:=hk2 b o' e'
    have hbw:b ∉ wr:=fun q=>wns 0 _ K.st b q o' eB xs n hd
    have hOB:¬ own H0 G0 b:=fun q=>by rw[oe]at q;exact q.elim hO (K.fpt b hb).2
    obtain⟨o1,e1,q1⟩:=S.keep b o' hOB (fun q=>q.elim (fun q=>(K.fpt b hb).1 (Cq q)) hbw) eB
    rw[q1.eq (Ch hd),e]at e1;obtain rfl:=Option.some.inj e1
    obtain⟨o2,e2,q2⟩:=S2.keep b o (fun q=>(S.fresh b q).elim hOB fun n'=>by rw[n']at eB;exact nqa eB) (fun x=>x) e
    rw[e2,q2.eq (Ch hd)]
   ·have haD:a ≠ D:=fun q=>by rw[q,hn]at ha;exact nqa ha
    have ha0:H0 a=some (.f oa):=by rw[<- hH0,Aa haD];exact ha
    have hg0:G0 a=G a:=by rw[<- hG0];simp[Cd,haD]
    obtain⟨q1,q2,_⟩:=S.lock a oa ha0 hl
    have:=(S2.lock a oa q1 hl).2.2 b (by rw[q2,hg0];exact hba)
    rw[this];exact e
 have hPP:∀ H' G' t H2 G2 t2,Step PP H0 G0 sB H' G' t->(∀ b,fr cenv b->¬ own H' G' b)->Step (fun z0=>False) H' G' t H2 G2 t2->Step PP H0 G0 sB H2 G2 t2:=by
  intro H' G' t H2 G2 t2 S hf S2
  exact S.trans (S2.wide (fun b hb=>hb.elim) fun b o p q e=>p.elim (fun p=>hf b (Cq p)) (hown H' G' t S b))
 have nofr:∀ {ρi:Rho} {H':AH} {G':Gh} {h:Heap},WF C A sc' cenv ρi G' (own H' G') h->∀ b,fr cenv b->¬ own H' G' b:=fun F b hb q=>by
  rcases hb with rfl | ⟨x,hx⟩
  ·exact F.nol q
  ·exact F.noc x b hx q
 have shiftW:∀ i H' G' (t:Shared) h',St i t.heap->Step PP H0 G0 sB H' G' t->Rel C H' G' (own H' G') t.heap->(∀ b ob,b ∉ wr->t.heap.get? b=some ob->h'.get? b=some ob)->Shift C (· ∈ wr) (own H' G') (own H' G') t.heap h':=by
  intro i H' G' t h' st S Rt hk
  refine⟨fun z0 x=>x,fun b ob hb e=>⟨hk b ob hb e,fun x=>x⟩,fun b hb=>K.wrb b hb,fun b ob xs n hb e hd=>absurd hd (wns i _ st b hb ob e xs n),fun b hb=>?_⟩
  obtain⟨ob,e⟩:=Rt.live b hb
  exact⟨ob,hk b ob (fun q=>hown H' G' t S b q hb) e⟩
 have stepW:∀ H' G' (t:Shared) h' tk,Step PP H0 G0 sB H' G' t->Rel C H' G' (own H' G') t.heap->(∀ b ob,b ∉ wr->t.heap.get? b=some ob->h'.get? b=some ob)->(∀ b ∈ wr,∃ o,h'.get? b=some o)->Step PP H0 G0 sB H' G' { t with heap:=h',toks:=tk }:=by
  intro H' G' t h' tk S Rt hk hl
  refine⟨Bb S.same ⟨_,_,rfl⟩,fun b o h1 h2 e=>(let ⟨o',e',q⟩:=S.keep b o h1 h2 e;⟨o',hk b o' (fun q=>h2 (.inr q)) e',q⟩),fun b o p e=>?_,S.fresh,fun a o e l=>?_⟩
  ·by_cases q:b ∈ wr
   ·exact hl b q
   ·obtain⟨o',e'⟩:=S.pl b o p e;exact⟨o',hk b o' q e'⟩
  ·obtain⟨q1,q2,q3⟩:=S.lock a o e l
   refine⟨q1,q2,fun b hb=>?_⟩
   rw[<- q3 b hb]
   have hO:own H' G' b:=⟨a,by rw[q1];simp,by rw[q2];exact hb⟩
   obtain⟨ob,eb⟩:=Rt.live b hO
   refine(?_:h'.get? b=_)
   rw[eb];exact hk b ob (fun q=>hown H' G' t S b q hO) eb
 -- the whole turn,seen from where the comprehension began
 have fin:∀ H' G' t,Step PP H0 G0 sB H' G' t->Step (fun z0=>False) H G s H' G' t:=by
  intro H' G' t S
  refine⟨Bb S0.same S.same,fun b o h1 _ e=>?_,fun b o p e=>p.elim,fun b hb=>?_,fun a o e l=>?_⟩
  ·have eB:=CS.k.k b o e
   refine S.keep b o (fun q=>?_) (fun q=>?_) eB
   ·rw[oe]at q
    exact q.elim h1 fun q=>by rw[q,CS.nD]at e;exact nqa e
   ·rcases q with q | q
    ·rw[CS.nta b q]at e;exact nqa e
    ·rw[CS.nwr b q]at e;exact nqa e
  ·rcases S.fresh b hb with q | q
   ·exact S0.fresh b q
   ·right
    cases e:s.heap.get? b with
    | none=>rfl
    | some o=>rw[CS.k.k b o e]at q;exact nqb q
  ·obtain⟨p1,p2,p3⟩:=S0.lock a o e l
   obtain⟨q1,q2,q3⟩:=S.lock a o p1 l
   exact⟨q1,q2.trans p2,fun b hb=>(q3 b (by rw[p2];exact hb)).trans (p3 b hb)⟩
 refine Mo (p:=iter.pos) (tail:=fun acc env=>do let z0 <- call (.builtin "list.append") [acc,<- eval elt env]) (fun it acc env=>rfl) (fun n t=>∃ i H',n=vs.length - i/\i<=vs.length/\CI C A sc' cenv tg.idx (und tg.idx ρ) H0 G0 sB PP St i H' t/\Gj tg Wc We D Q (und tg.idx ρ) (vs.drop i) H') (fun n t hI=>?_) vs.length ⟨0,H0,by simp,by simp,⟨und tg.idx ρ,G0,F0,hso,fun z0 z0=>rfl,R0,.refl sB,K.st⟩,by simpa using hgo⟩
 refine Ac fun PZ ret=>?_
 obtain⟨i,H1,rfl,hi,⟨ρ1,G1,F1,hs1,ag1,R1,S1,st1⟩,hgo1⟩:=hI
 rcases Nat.lt_or_ge i vs.length with hlt | hge
 ·refine ret (K.W.item i t _ _ hlt st1 fun v h5 tk5 hP st5 hk5=>?_)
  refine Ac fun PZ ret=>?_
  have S5:=shiftW i H1 G1 t h5 st1 S1 R1 hk5
  have F5:=S5.wf F1 K.wrf K.wrA
  have R5:=S5.rel R1 (hown H1 G1 t S1)
  have T5:=stepW H1 G1 t h5 tk5 S1 R1 hk5 fun b hb=>let ⟨o,_,e,_⟩:=K.wl _ _ st5 b hb;⟨o,e⟩
  obtain⟨u,hu,hru⟩:=K.item i v hP
  have hdrop:vs.drop i=u :: vs.drop (i + 1):=by
   obtain⟨hlt',e⟩:=List.getElem?_eq_some_iff.mp hu
   rw[List.drop_eq_getElem_cons hlt',e]
  have hsu:u.sto=true:=Bq hst (List.mem_of_getElem? hu)
  rw[hdrop]at hgo1
  obtain⟨ρ',hput,hT⟩:=hgo1
  have hput':=Tgt.put_agree (ρ1:=ρ1) ag1 hput
  have ru5:VRel h5 (own H1 G1) G1 u v:=hru.mono (fun b o' xs n e hd hb=>by
   have hbw:b ∉ wr:=fun q=>wns 0 _ K.st b q o' e xs n hd
   have hOB:¬ own H0 G0 b:=fun q=>by rw[oe]at q;exact hb q
   obtain⟨o1,e1,q1⟩:=S1.keep b o' hOB (fun q=>q.elim (fun q=>F0.noseq e hd (Cq q)) hbw) e
   rw[q1.eq (Ch hd)]at e1
   exact⟨hk5 b o' hbw e1,fun q=>(S1.fresh b q).elim hOB fun n'=>by rw[n']at e;exact nqa e⟩) hsu
  refine ret (K.tup (i + 1) _ _ _ _ _ st5 ?_)
  refine ht k A cenv { t with heap:=h5,toks:=tk5 } ρ1 ρ' H1 G1 _ u v _ hA F5 R5 ru5 hput' fun s6 s7 k6 fs7 F7=>?_
  have F6:=F5.keep k6.k
  have R6:=R5.keep k6.k
  have R7:=R6.fs F6 (fs7.mono fun z0=>Cq)
  have S6:Step PP H0 G0 sB H1 G1 s6:=T5.trans (Step.kp R5 k6)
  have S7:Step PP H0 G0 sB H1 G1 s7:=S6.trans ⟨fs7.same,fun b o h1 h2 e=>⟨o,fs7.k b o (fun q=>h2 (.inl q)) e,.refl o⟩,fun b o p e=>by
   by_cases q:ta sc' cenv tg.idx b
   ·exact fs7.l b o e
   ·exact⟨o,fs7.k b o q e⟩,fun b hb=>.inl hb,fun a o e l=>⟨e,rfl,fun b hb=>by
   have hO:own H1 G1 b:=⟨a,by rw[e];simp,hb⟩
   obtain⟨ob,eb⟩:=R6.live b hO
   rw[eb];exact fs7.k b ob (fun q=>nofr F6 b (Cq q) hO) eb⟩⟩
  have st7:St (i + 1) s7.heap:=K.W.frame _ _ _ st5 fun b hb o e=>fs7.k b o (fun q=>(K.fpt b hb).1 (Cq q)) (k6.k b o e)
  have hs7:stoR sc' ρ':=Tgt.put_sto (s:={ t with heap:=h5,toks:=tk5 }) R5 hs1 hsu hput'
  have ag7:∀ j,j ∉ tg.idx->ρ' j=und tg.idx ρ j:=fun j hj=>Tgt.put_off hput j hj
  refine wpAny_mono (hc A cenv s7 ρ' H1 G1 _ hA F7 hs7 R7 hT) (fun okb s8 h8=>?_) fun z0 z0 x=>x
  obtain⟨H8,G8,hq8,R8,S78⟩:=h8
  have S8:=hPP H1 G1 s7 H8 G8 s8 S7 (nofr F7) S78
  have F8:=S78.wf F7 hs7
  have st8:St (i + 1) s8.heap:=K.W.frame _ _ _ st7 fun b hb o e=>hcsk H1 G1 s7 S7 _ st7 H8 G8 s8 S78 b hb o e
  cases okb with
  | false =>
   refine Oc ?_
   exact⟨vs.length - (i + 1),by exact Ar.r193 hlt,i + 1,H8,rfl,hlt,⟨ρ',G8,F8,hs7,ag7,R8,S8,st8⟩,hq8.2 rfl⟩
  | true =>
   refine Ob ?_
   refine wpAny_bind (wpAny_mono (he A cenv s8 ρ' H8 G8 _ hA F8 hs7 R8 (hq8.1 rfl)) (fun y s9 h9=>?_) fun z0 z0 x=>x)
   obtain⟨w,H9,G9,⟨ws,hD9,hsw,hlw,hgo9⟩,hv9,_,R9,S89⟩:=h9
   have S9:=hPP H8 G8 s8 H9 G9 s9 S8 (nofr F8) S89
   have F9:=S89.wf F8 hs7
   have st9:St (i + 1) s9.heap:=K.W.frame _ _ _ st8 fun b hb o e=>hcsk H8 G8 s8 S8 _ st8 H9 G9 s9 S89 b hb o e
   obtain⟨_,hss,hzz,n,items,hl9,hr9⟩:=R9.obj D _ hD9
   have hlen:=hr9.length
   refine wpAny_bind (Kw hl9 (by have:=Cj;rw[hlen];exact Nat.le_trans (Nat.le_of_lt hlw) this) fun h10 n10 hl10 hs10=>wpAny_pure ?_)
   have hp:He H9 (.ref D) (ws++[w])=some (upd H9 D (.f (.lst false (ws++[w])))):=by
    refine(?_:(match H9 D with | some (.f (.lst false _))=>if (ws++[w]).length<=lim/\AV.stos (ws++[w])=true then some (upd H9 D (.f (.lst false (ws++[w])))) else none | _=>none)=_)
    rw[hD9]
    refine if_pos ⟨by rw[List.length_append];exact hlw,stos_iff.mpr fun x hx=>?_⟩
    rcases List.mem_append.mp hx with q | q
    ·exact stos_iff.mp hss x q
    ·rw[List.mem_singleton.mp q];exact hsw
   obtain⟨R10,S910⟩:=Ip (s':=s9) (tk:=s9.toks) (vs:=ws) (n:=n) (items:=items) R9 (by simp[vRr]) hp (h':=h10) (fun b ob hb e=>hs10.extBut b ob hb e) hl10 (hr9.append (.one hv9))
   have S10:=hPP H9 G9 s9 _ G9 _ S9 (nofr F9) S910
   exact⟨vs.length - (i + 1),by exact Ar.r193 hlt,i + 1,_,rfl,hlt,⟨ρ',G9,S910.wf F9 hs7,hs7,ag7,R10,S10,K.W.frame _ _ _ st9 fun b hb o e=>hcsk H9 G9 s9 S9 _ st9 _ G9 _ S910 b hb o e⟩,hgo9⟩
 ·have:i=vs.length:=Nat.le_antisymm hi hge
  rw[this,List.drop_length]at hgo1
  rw[this]at st1
  refine ret (this ▸ K.W.done _ _ _ st1 fun h5 tk5 hk5=>?_)
  have S5:=shiftW _ H1 G1 t h5 st1 S1 R1 hk5
  have F5:=S5.wf F1 K.wrf K.wrA
  have R5:=S5.rel R1 (hown H1 G1 t S1)
  have Sf:=fin H1 G1 t S1
  obtain⟨m,hm,_⟩:=F5.ns
  rw[CS.lo]at hm
  refine hR H1 G1 _ hgo1 R5 ⟨Bb Sf.same ⟨_,_,rfl⟩,fun b o h1 h2 e=>?_,fun b o p e=>p.elim,Sf.fresh,fun a o e l=>?_⟩ ⟨m,hm⟩ (fun q=>F5.nol (by rw[CS.lo];exact q))
  ·obtain⟨o',e',q'⟩:=Sf.keep b o h1 h2 e
   exact⟨o',hk5 b o' (fun q=>by rw[CS.nwr b q]at e;exact nqa e) e',q'⟩
  ·obtain⟨q1,q2,q3⟩:=Sf.lock a o e l
   refine⟨q1,q2,fun b hb=>?_⟩
   rw[<- q3 b hb]
   have hO:own H1 G1 b:=⟨a,by rw[q1];simp,by rw[q2];exact hb⟩
   obtain⟨ob,eb⟩:=R1.live b hO
   refine(?_:h5.get? b=_)
   rw[eb];exact hk5 b ob (fun q=>hown H1 G1 t S1 b q hO) eb
theorem Zl {elt target iter:Expr}{ifs:List Expr}{scope:Scope}{pos p2:Pos}{tg:Tgt}{Wc:(Bool->AH->Prop)->Rho->AH->Prop}{We:FWp}(hit:IterS C k sc iter fs)(hsc:CompSc sc scope sc' tg.idx)(ht:AssignR C sc' target tg)(hc:TestsF C k sc' ifs Wc)(he:ImpF C k sc' elt We)
  (hsi:∀ env x,foldedSetIterable iter env x=pure x) {A:Around} {env:Env} {s:Shared} {ρ:Rho} {H:AH} {G:Gh} {Q0:AV->Rho->AH->Prop} (hA:AOk k A) (F:WF C A sc env ρ G (own H G) s.heap) (hs:stoR sc ρ) (R:Rel C H G (own H G) s.heap) (hW:Mp fs tg Wc We Q0 ρ H) {use:Option (Value->Sem Unit)} {Q:Value->Shared->Prop}
  (hQ:∀ D L m H' G' t,Q0 (.ref D) ρ H'->Rel C H' G' (own H' G') t.heap->Step (fun z0=>False) H G s H' G' t->t.heap.Ns L m->s.heap.get? L=none->¬ own H' G' L->compPost (model C.prog C.w) A (fun z0 z0=>False) use Q (.ref D) L (.ok .next) t) :
  wpAny (model C.prog C.w) A (comprehension (.ListComp elt [⟨target,iter,ifs,0⟩] scope pos) scope env p2 (newList []) false (eval iter env) use) Q (fun z0 z0=>False) s:=by
 obtain⟨vs,hvs,hst,hgo⟩:=hW
 have hso:stoR sc' (und tg.idx ρ):=fun x i hx=>by
  unfold und
  by_cases q:i ∈ tg.idx
  ·rw[if_pos q];rfl
  ·rw[if_neg q]
   rcases hsc.vars x i hx with ⟨_,h1⟩ | ⟨_,h1,_⟩
   ·exact absurd h1 q
   ·exact hs x i h1
 refine Qt F R (hit A env s ρ H G _ vs hA F R hvs) (fun h b z=>⟨.none,.inl z⟩) hsc hsi fun D L I cenv sB fp wr cs P St CS=>?_
 have hn:H D=none:=R.none_of CS.nD
 refine Ss ht hc he hA R hst hso CS hn (hgo D hn) fun H' G' t hq R' S' hm hL=>?_
 obtain⟨m,hm⟩:=hm
 exact hQ D L m H' G' t hq R' S' hm CS.nL hL
theorem gM {s t:Shared}{H H':AH}{G G':Gh}{PP:Addr->Prop}{L:Addr}{m:Str->Option Value}(hm:t.heap.Ns L m)(hL:s.heap.get? L=none)(hLo:¬ own H' G' L)(hP:¬ PP L)(R:Rel C H G (own H G) s.heap)(R':Rel C H' G' (own H' G') t.heap)(S':Step PP H G s H' G' t){h':Heap}(hsb:Heap.SameBut L t.heap h') :
  Shift C (· = L) (own H' G') (own H' G') t.heap h'/\Rel C H' G' (own H' G') h'/\Step PP H G s H' G' { t with heap:=h' }:=by
 have Sf:Step PP H G s H' G' { t with heap:=h' }:=by
  refine⟨Bb S'.same ⟨_,_,rfl⟩,fun b o h1 h2 e=>?_,fun b o p e=>?_,S'.fresh,fun a o e l=>?_⟩
  ·obtain⟨o',e',q'⟩:=S'.keep b o h1 h2 e
   exact⟨o',hsb.extBut b o' (fun q=>by rw[q,hL]at e;exact nqa e) e',q'⟩
  ·obtain⟨o',e'⟩:=S'.pl b o p e
   exact⟨o',hsb.extBut b o' (fun q=>hP (q ▸ p)) e'⟩
  ·obtain⟨q1,q2,q3⟩:=S'.lock a o e l
   refine⟨q1,q2,fun b hb=>?_⟩
   rw[<- q3 b hb]
   have hO:own H' G' b:=⟨a,by rw[q1];simp,by rw[q2];exact hb⟩
   obtain⟨ob,eb⟩:=R'.live b hO
   refine(?_:h'.get? b=_)
   rw[eb];exact hsb.extBut b ob (fun q=>hLo (q ▸ hO)) eb
 have Sh:Shift C (· = L) (own H' G') (own H' G') t.heap h':=by
  refine⟨fun z0 x=>x,fun b ob hb e=>⟨hsb.extBut b ob hb e,fun x=>x⟩,fun b hb=>?_,fun b ob xs n hb e hd=>?_,fun b hb=>?_⟩
  ·rw[hb]
   cases e:C.h0.get? L with
   | none=>rfl
   | some ob=>have:=(R.base L ob e).1;rw[hL]at this;exact nqa this
  ·rw[hb]at e;exact absurd hd (Du hm ob e xs n)
  ·obtain⟨ob,e⟩:=R'.live b hb
   exact⟨ob,hsb.extBut b ob (fun q=>hLo (q ▸ hb)) e⟩
 exact⟨Sh,Sh.rel R' fun b hb q=>hLo (hb ▸ q),Sf⟩
theorem ImpE.compI {elt target iter:Expr}{ifs:List Expr}{scope:Scope}{pos:Pos}{tg:Tgt}{Wc:(Bool->AH->Prop)->Rho->AH->Prop}{We:FWp}(hit:IterS C k sc iter fs)(hsc:CompSc sc scope sc' tg.idx)(ht:AssignR C sc' target tg)(hc:TestsF C k sc' ifs Wc)(he:ImpF C k sc' elt We)
  (hsi:∀ env x,foldedSetIterable iter env x=pure x:=by intro _ _;rfl):ImpE C k sc (.ListComp elt [⟨target,iter,ifs,0⟩] scope pos) (Mp fs tg Wc We):=by
 intro A env s ρ H G Q hA F hs R hW
 rw[eval_ListComp]
 refine Zl hit hsc ht hc he hsi hA F hs R hW fun D L m H' G' t hq R' S' hm hL hLo=>⟨m,hm,fun h' hsb=>?_⟩
 obtain⟨_,R2,Sf⟩:=gM hm hL hLo (fun x=>x) R R' S' hsb
 exact⟨.ref D,ρ,H',G',hq,by simp[vRr],rfl,Sf.wf F hs,hs,R2,Sf.frm F⟩
theorem StmtR.letCompI {x:Str}{i:Nat}{p spos:Pos}{elt target iter:Expr}{ifs:List Expr}{scope:Scope}{pos:Pos}{tg:Tgt}{Wc:(Bool->AH->Prop)->Rho->AH->Prop}{We:FWp}(hx:(x,i) ∈ sc.vars)(hit:IterS C k sc iter fs)(hsc:CompSc sc scope sc' tg.idx)(ht:AssignR C sc' target tg)(hc:TestsF C k sc' ifs Wc)(he:ImpF C k sc' elt We)
  (hsi:∀ env x,foldedSetIterable iter env x=pure x:=by intro _ _;rfl):StmtR C k sc (.Assign [.Name x p] (.ListComp elt [⟨target,iter,ifs,0⟩] scope pos) spos) (Bj i (Mp fs tg Wc We)):=by
 intro A env s ρ H G Q hA F hs R hT
 cases hb:(env.blockKind == .function && env.kindOf x == some .local && p.line == (Expr.ListComp elt [⟨target,iter,ifs,0⟩] scope pos).pos.line && !(scope.names.any fun (n,k)=>n == x && (k == .local || k == .cell))) with
 | false =>
  have hsw:swapsWith (.ListComp elt [⟨target,iter,ifs,0⟩] scope pos) (some (.Name x p)) spos.line env=pure false:=by
   rw[<- hb];rfl
  refine wpAny_Assign_Name (wpAny_mono (ImpE.compI hit hsc ht hc he hsi A env s ρ H G _ hA F hs R hT) (fun y s1 h1=>?_) fun z0 z0 x=>x) hsw
  obtain⟨v,ρ1,H1,G1,hq,hv,hsv,F1,hs1,R1,S1⟩:=h1
  refine Ds F1 hx hv fun s2 F2 fs hv2=>?_
  have fs':=fs.mono fun z0=>Cq
  exact⟨.next,_,H1,G1,hq,trivial,F2,hs1.set hsv,R1.fs F1 fs',S1.trans (.fs F1 R1 fs')⟩
 | true =>
  have hsw:swapsWith (.ListComp elt [⟨target,iter,ifs,0⟩] scope pos) (some (.Name x p)) spos.line env=pure true:=by
   rw[<- hb];rfl
  rw[exec_Assign_Name_used _ _ _ _ hsw]
  refine wpAny_bind (wpAny_standAt (wpAny_bind ?_))
  refine(?_:wpAny _ A (do let _ <- comprehension (.ListComp elt [⟨target,iter,ifs,0⟩] scope pos) scope env _ (newList []) false (eval iter env) (some (assign (.Name x p) env))) _ _ s)
  refine wpAny_bind (wpAny_mono (Zl hit hsc ht hc he hsi hA F hs R hT (use:=some (assign (.Name x p) env)) (Q:=fun z0 s'=>PostS C A sc env s H G Q .next s') fun D L m H' G' t hq R1 S1 hm hL hLo=>?_) (fun z0 s' hq=>wpAny_pure (wpAny_pure hq)) fun z0 z0 e=>e)
  refine(?_:wpAny _ A (assign (.Name x p) env (.ref D)) _ _ _)
  have F1:=S1.wf F hs
  refine wpAny_assign_Name (Ds F1 hx (v:=.ref D) (by simp[vRr]) fun s2 F2 fs hv2=>?_)
  have hLf:¬ fr env L:=by
   clear F1 F2 R1 S1 fs hA hLo hq hb hm hs hsw hv2 hx;rintro(rfl | ⟨z,hz⟩)
   ·obtain⟨m',⟨o',_,_,e,_⟩,_⟩:=F.ns;rw[hL]at e;exact nqa e
   ·obtain⟨ov,o',e,_⟩:=F.cli z L hz;rw[hL]at e;exact nqa e
  have fs':=fs.mono fun z0=>Cq
  have hm2:s2.heap.Ns L m:=hm.at' fun o' e=>fs'.k _ _ hLf e
  refine⟨m,hm2,fun h' hs'=>?_⟩
  obtain⟨Sh,R3,S3⟩:=gM hm2 hL hLo hLf R (R1.fs F1 fs') ((S1.frm F).trans (.fs F1 R1 fs')) hs'
  exact⟨.next,_,_,_,hq,trivial,Sh.wf F2 (fun b hb q=>hLf (hb ▸ q)) (fun b hb q=>by
   obtain⟨_,o',_,_,e,_⟩:=F.frs.live q
   rw[hb,hL]at e;exact nqa e),hs.set rfl,R3,S3⟩
end
end Mine
end
section
namespace Mine
section
variable {C:Cx} {k:Nat} {sc:Sc} {fs:LF} {K:Frag} {ts ni:Addr}
theorem ImpF.callK {x:Str}{p pos:Pos}{args:List Expr}{a:Addr}{W:FW}(E:Env0 C K ts ni)(hx:x ∈ sc.globs)(hm:C.mg x=some (.ref a))(hd:(Ej K a).isSome=true)(hargs:ArgsF C k sc args fs)(hf:CallR C k (.ref a) W)
  (hdb:(x == ("__debug__":Str))=false:=by decide):ImpF C k sc (.Call (.Name x p) args [] pos) (Zt fs W):=by
 obtain⟨fd,hfd⟩:=Option.isSome_iff_exists.mp hd
 obtain⟨o,ho,hod⟩:=Jv hfd
 exact ImpF.call hx hm (E.hK a o ho) hod hargs hf hdb
end
end Mine
end
section
namespace Mine
section
variable {C:Cx} {k:Nat} {sc:Sc} {f fe:PF}
noncomputable def Tw (W:Wp AV) (tg:Tgt) (T:Wp AFlow):Wp AFlow:=fun Q=>W fun v ρ H=>∃ a o vs,H a=some (.f o)/\o.hold.lk=true/\Nd (upd H a (.f o.hold)) v=some vs/\AV.stos vs=true /\
 Di tg T (fun fl ρ' H'=>Q fl ρ' (upd H' a (.f o))) vs ρ (upd H a (.f o.hold))
theorem PostS.after {A:Around}{env:Env}{s s1 s2:Shared}{H H1:AH}{G G1:Gh}{Q:AFlow->Rho->AH->Prop}{fl:Flow}(S1:Step (fr env) H G s H1 G1 s1)(h:PostS C A sc env s1 H1 G1 Q fl s2):PostS C A sc env s H G Q fl s2:=by
 obtain⟨af,ρ3,H3,G3,hq3,hf,F3,hs3,R3,S3⟩:=h
 exact⟨af,ρ3,H3,G3,hq3,hf,F3,hs3,R3,S1.trans S3⟩
theorem StmtR.forI {target iter:Expr}{body:List Stmt}{pos:Pos}{W:Wp AV}{tg:Tgt}{T:Wp AFlow}(hit:ImpE C k sc iter W)(ht:AssignR C sc target tg)(hb:StmtsR C k sc body T)(hsi:∀ env x,foldedSetIterable iter env x=pure x:=by intro _ _;rfl) :
  StmtR C k sc (.For target iter body [] pos) (Tw W tg T):=by
 intro A env s ρ H G Q hA F hs R hW
 refine wpAny_For (wpAny_mono (hit A env s ρ H G _ hA F hs R hW) (fun x s1 h1=>?_) fun z0 z0 x=>x) (hsi env)
 obtain⟨v,ρ1,H1,G1,⟨a,o,vs,ha,hlk,hi,hst,hgo⟩,rx,hsv,F1,hs1,R1,S1⟩:=h1
 have oe:own (upd H1 a (.f o.hold)) G1=own H1 G1:=Go (by rw[ha];simp)
 have R2:Rel C (upd H1 a (.f o.hold)) G1 (own (upd H1 a (.f o.hold)) G1) s1.heap:=R1.relabel ha (ORelF.hold.mpr (R1.obj a _ ha))
 have F2:WF C A sc env ρ1 G1 (own (upd H1 a (.f o.hold)) G1) s1.heap:=by rw[oe];exact F1
 rw[<- oe]at rx
 refine wpAny_mono (Qh hA.1 ⟨⟨_,_,rfl⟩,fun b o e=>e⟩ R2 rx hi) (fun it s2 h2=>?_) fun z0 z0 x=>x
 exact Qn ht hb hA F2 hs1 R2 hst hgo h2 fun fl t h=>(h.unhold ha hlk).after S1
theorem ImpE.sub {v i:Expr}{pos:Pos}{W:Wp AV}(hv:ImpE C k sc v W)(hi:PureE C k sc i f)(hs:∀ o x,subscripted i false o x=operate [o,x] (getItem o x):=by intro _ _;rfl):ImpE C k sc (.Subscript v i pos) (fP W f):=by
 intro A env s ρ H G Q hA F hs0 R hW
 refine Subscript_ (wpAny_mono (hv A env s ρ H G _ hA F hs0 R hW) (fun x s1 h1=>?_) fun z0 z0 x=>x)
 refine Ac fun PP ret=>?_
 obtain⟨u,ρ1,H1,G1,⟨j,r,hj,he,hsr,hq⟩,rx,hsv,F1,hs1,R1,S1⟩:=h1
 refine ret (wpAny_mono (hi A env s1 ρ1 H1 G1 _ j hA F1 R1 hj) (fun y s2 h2=>?_) fun z0 z0 x=>x)
 refine Ac fun PP ret=>?_
 obtain⟨ry,k2⟩:=h2
 have F2:=F1.keep k2.k
 have R2:=R1.keep k2.k
 obtain⟨⟨T,id,hT,hl⟩,hg⟩:=Ia (A:=A) (Q:=fun z s''=>PostE C A sc env s H G Q z s'') R2 (rx.keep k2.k) ry he (fun z tk hz=>⟨r,ρ1,H1,G1,hq,hz,hsr,F2,hs1,R2,(S1.trans (.kp R1 k2)).trans (.kp R2 .tok)⟩)
 exact ret (tail_any hT hl hg (hs x y))
end
end Mine
end
section
namespace Mine
section
variable {C:Cx} {k:Nat} {sc:Sc} {f:PF}
noncomputable def cT (m:Rho->AH->Option FObj):FWp:=fun Q ρ H=>∃ o,m ρ H=some o/\∀ a,H a=none->Q (.ref a) (upd H a (.f o))
theorem ImpF.make {e:Expr}{m:Rho->AH->Option FObj}(h:MakeE C k sc e m):ImpF C k sc e (cT m):=by
 rintro A env s ρ H G Q hA F hs R ⟨o,ho,hQ⟩
 refine wpAny_mono (h A env s ρ H G _ o hA F R ho) (fun x s1 h1=>?_) fun z0 z0 x=>x
 obtain⟨a,g,rfl,h2,h3,h4,h5⟩:=h1
 obtain⟨hn,R1,S1⟩:=Made.step R ⟨h2,h3,h4,h5⟩
 exact⟨.ref a,_,_,hQ a hn,rfl,rfl,R1,S1⟩
noncomputable def fQ (W:FWp) (f:PF):FWp:=fun Q ρ=>W (fun v H=>∃ i r,f ρ H=some i/\idx H v i=some r/\r.sto=true/\Q r H) ρ
theorem ImpF.sub {v i:Expr}{pos:Pos}{W:FWp}(hv:ImpF C k sc v W)(hi:PureE C k sc i f)(hs:∀ o x,subscripted i false o x=operate [o,x] (getItem o x):=by intro _ _;rfl):ImpF C k sc (.Subscript v i pos) (fQ W f):=by
 intro A env s ρ H G Q hA F hs0 R hW
 refine Subscript_ (wpAny_mono (hv A env s ρ H G _ hA F hs0 R hW) (fun x s1 h1=>?_) fun z0 z0 x=>x)
 refine Ac fun PP ret=>?_
 obtain⟨u,H1,G1,⟨j,r,hj,he,hsr,hq⟩,rx,hsv,R1,S1⟩:=h1
 have F1:=S1.wf F hs0
 refine ret (wpAny_mono (hi A env s1 ρ H1 G1 _ j hA F1 R1 hj) (fun y s2 h2=>?_) fun z0 z0 x=>x)
 refine Ac fun PP ret=>?_
 obtain⟨ry,k2⟩:=h2
 have R2:=R1.keep k2.k
 obtain⟨⟨T,id,hT,hl⟩,hg⟩:=Ia (A:=A) (Q:=fun z s''=>PostV C s H G Q z s'') R2 (rx.keep k2.k) ry he (fun z tk hz=>⟨r,H1,G1,hq,hz,hsr,R2,(S1.trans (.kp R1 k2)).trans (.kp R2 .tok)⟩)
 exact ret (tail_any hT hl hg (hs x y))
noncomputable def isNotR (H:AH) (u v:AV):Option Bool:=haveI:=Classical.propDecidable (∃ a:Addr,u = .ref a/\v = .ref a);if ∃ a:Addr,u = .ref a/\v = .ref a then some false else none
theorem CmpR.isNotR:CmpR C k .IsNot Mine.isNotR:=by
 intro A s H G O u v r x y hA R hu hv e
 obtain⟨b,hb,rfl⟩:=Option.map_eq_some_iff.mp e
 by_cases q:∃ a:Addr,u = .ref a/\v = .ref a
 ·have e2:Mine.isNotR H u v=some false:=if_pos q
  obtain⟨a,rfl,rfl⟩:=q
  rw[e2]at hb
  obtain rfl:=Option.some.inj hb
  simp only [vRr]at hu hv
  subst hu;subst hv
  exact wpAny_isNot_ref_self ⟨by simp[vRb],.refl' s⟩
 ·have e2:Mine.isNotR H u v=none:=if_neg q
  rw[e2]at hb;exact nqa hb
end
end Mine
end
section
set_option genInjectivity false
set_option genSizeOf false
namespace Mine
namespace Ar
theorem q33 {a b c d}:(I (L p0 p1) (I (E p2 p0) (I (L p1 p3) (L p2 p3)))).p [a,b,c,d]:=w 4 _ _ (by kernel_rfl)
theorem q39 {a b}:(I (N (L p0 p1)) (L p1 p0)).p [a,b]:=w 2 _ _ (by kernel_rfl)
theorem q75 {a:Nat}:¬(a:Int) < 0:=by lia
theorem q82 {a:Nat}{b:Nat}(_:¬a<=b):max 0 (min (a:Int) (b:Int))=(b:Int):=by lia
end Ar
end Mine
end
section
set_option genInjectivity false
set_option genSizeOf false
namespace Mine
namespace Ar
theorem u49 {a b}:(I (L p0 (K 60)) (I (L p1 p0) (T (A p1 (K 2)) (K 4096)))).p [a,b]:=w 2 _ _ (by kernel_rfl)
theorem u70 {a}:(I (T p0 (K 64)) (L p0 (K 1048576))).p [a]:=w 1 _ _ (by kernel_rfl)
end Ar
end Mine
end
section
namespace Mine
namespace SState
noncomputable def np (S:SState) (j:Int):Int:=(S.node j).npred
noncomputable def sc (S:SState) (j:Int):List Int:=(S.node j).succs
theorem Qp (k:Int)(g:NodeS)(hg:g.key=k)(j:Int):∀ l:List NodeS,(l.map fun n=>if n.key=k then g else n).find? (fun n=>decide (n.key=j))=if j=k then (l.find? fun n=>decide (n.key=k)).map (fun z0=>g) else l.find? fun n=>decide (n.key=j)
 | []=>by simp
 | n :: l=>by
  have ih:=Qp k g hg j l
  rw[List.map_cons,List.find?_cons,List.find?_cons]
  by_cases hk:n.key=k
  ·rw[if_pos hk]
   by_cases hj:j=k
   ·clear ih;subst hj;simp[hg,hk]
   ·have h1:decide (g.key=j)=false:=by simp[hg];exact fun e=>hj e.symm
    have h2:decide (n.key=j)=false:=by simp[hk];exact fun e=>hj e.symm
    rw[h1];dsimp only
    rw[ih,if_neg hj,if_neg hj,List.find?_cons,h2]
  ·rw[if_neg hk]
   by_cases hj:j=k
   ·clear hg;subst hj
    have h1:decide (n.key=j)=false:=by simp[hk]
    rw[h1];dsimp only
    rw[ih,if_pos rfl,if_pos rfl]
   ·rw[if_neg hj]
    clear hg hk;cases q:decide (n.key=j) with
    | true=>simp[q]
    | false=>dsimp only;rw[ih,if_neg hj,List.find?_cons,q]
theorem Kt {k:Int}:∀ {l:List NodeS},k ∈ l.map (·.key)->∃ n,l.find? (fun n=>decide (n.key=k))=some n
 | [],h=>by simp at h
 | n :: l,h=>by
  rw[List.find?_cons]
  cases q:decide (n.key=k) with
  | true=>exact⟨n,rfl⟩
  | false =>
   have:¬ n.key=k:=by simpa using q
   simp only [List.map_cons,List.mem_cons]at h
   rcases h with h | h
   ·exact absurd h.symm this
   ·exact Kt h
theorem Gd {S:SState}{k:Int}{g:NodeS}(hk:k ∈ S.keys)(hg:g.key=k)(j:Int):(S.set k g).node j=if j=k then g else S.node j:=by
 unfold node SState.set
 dsimp only
 rw[Qp k g hg]
 by_cases h:j=k
 ·rw[if_pos h,if_pos h]
  obtain⟨n,hn⟩:=Kt hk
  rw[hn];rfl
 ·rw[if_neg h,if_neg h]
theorem Iw {S:SState}{k:Int}(j:Int):(S.get k).node j=S.node j:=by
 unfold SState.get
 set_option tactic.hygienic true in split
 ·rfl
 rename_i hk
 unfold node
 dsimp only
 rw[List.find?_append]
 cases q:S.nodes.find? fun n=>decide (n.key=j) with
 | some n=>rfl
 | none =>
  simp only [Option.none_or,List.find?_cons,List.find?_nil]
  by_cases h:k=j
  ·simp[h]
  ·simp[h]
theorem keys_get {S:SState}{k x:Int}:x ∈ (S.get k).keys <-> x ∈ S.keys\/x=k:=by
 unfold SState.get
 set_option tactic.hygienic true in split
 ·rename_i h;constructor
  ·exact .inl
  ·rintro(q | rfl);exact q;exact h
 ·unfold keys;simp
theorem Nw {S:SState}{k:Int}(h:S.keys.Nodup):(S.get k).keys.Nodup:=by
 unfold SState.get
 set_option tactic.hygienic true in split
 ·exact h
 ·rename_i hk
  refine(?_:((S.nodes++[(⟨k,0,[]⟩:NodeS)]).map (fun n=>n.key)).Nodup)
  rw[List.map_append,List.nodup_append]
  refine⟨h,by simp,fun u hu v hv=>?_⟩
  simp at hv;subst hv
  exact fun e=>hk (e ▸ hu)
theorem node_key' {S:SState}(j:Int):(S.node j).key=j:=by
 unfold node
 cases q:S.nodes.find? (fun n=>decide (n.key=j)) with
 | none=>rfl
 | some n=>have:=List.find?_some q;simpa using this
theorem Yc {S:SState}{k p:Int}(j:Int):(S.arc k p).node j=if j=p then { S.node p with succs:=(S.node p).succs++[k] } else S.node j:=by
 unfold arc
 rw[Gd (keys_get.mpr (.inr rfl)) (by dsimp only;exact node_key' p),Iw,Iw]
theorem Yo {S:SState}{k p x:Int}:x ∈ (S.arc k p).keys <-> x ∈ S.keys\/x=p:=by
 unfold arc
 rw[Ck (by dsimp only;exact node_key' p)];exact keys_get
theorem Vh {S:SState}{k p:Int}(h:S.keys.Nodup):(S.arc k p).keys.Nodup:=by
 unfold arc
 rw[Ck (by dsimp only;exact node_key' p)];exact Nw h
theorem Xn {S:SState}{k p:Int}:(S.arc k p).ready=S.ready/\(S.arc k p).passed=S.passed/\(S.arc k p).fin=S.fin:=by
 unfold arc SState.set SState.get
 set_option tactic.hygienic true in split <;> exact⟨rfl,rfl,rfl⟩
theorem arcs {k:Int}:∀ (ps:List Int) {S:SState},(∀ j,(ps.foldl (SState.arc k) S).np j=S.np j/\(ps.foldl (SState.arc k) S).sc j=S.sc j++List.replicate (ps.count j) k)/\(∀ x,x ∈ (ps.foldl (SState.arc k) S).keys <-> x ∈ S.keys\/x ∈ ps)/\(S.keys.Nodup->(ps.foldl (SState.arc k) S).keys.Nodup)/\(ps.foldl (SState.arc k) S).ready=S.ready/\(ps.foldl (SState.arc k) S).passed=S.passed/\(ps.foldl (SState.arc k) S).fin=S.fin
 | [],S=>by simp
 | p :: ps,S=>by
  refine Ac fun PP ret=>?_
  obtain⟨h1,h2,h3,h4,h5,h6⟩:=arcs ps (S:=S.arc k p)
  obtain⟨r1,r2,r3⟩:=Xn (S:=S) (k:=k) (p:=p)
  refine ret ?_
  rw[List.foldl_cons]
  refine⟨fun j=>?_,fun x=>?_,fun h=>h3 (Vh h),h4.trans r1,h5.trans r2,h6.trans r3⟩
  ·rw[(h1 j).1,(h1 j).2]
   unfold np sc
   rw[Yc]
   by_cases e:j=p
   ·clear h1 h2 h3 h4 h5 h6 r1 r2 r3 ret;subst e
    rw[if_pos rfl]
    refine⟨rfl,?_⟩
    dsimp only
    rw[List.append_assoc,List.count_cons_self,List.replicate_succ];rfl
   ·rw[if_neg e,List.count_cons_of_ne (Ne.symm e)];exact⟨rfl,rfl⟩
  ·rw[h2 x,Yo];simp[or_assoc]
theorem add_facts {S:SState}{k:Int}{ps:List Int}:(∀ j,(S.add k ps).np j=S.np j + (if j=k then (ps.length:Int) else 0)/\(S.add k ps).sc j=S.sc j++List.replicate (ps.count j) k)/\(∀ x,x ∈ (S.add k ps).keys <-> x ∈ S.keys\/x=k\/x ∈ ps)/\(S.keys.Nodup->(S.add k ps).keys.Nodup)/\(S.add k ps).ready=S.ready/\(S.add k ps).passed=S.passed/\(S.add k ps).fin=S.fin:=by
 unfold SState.add
 obtain⟨h1,h2,h3,h4,h5,h6⟩:=arcs (k:=k) ps (S:=(S.get k).set k { (S.get k).node k with npred:=((S.get k).node k).npred + ps.length })
 have hg:({ (S.get k).node k with npred:=((S.get k).node k).npred + ps.length }:NodeS).key=k:=node_key' k
 have hkk:k ∈ (S.get k).keys:=keys_get.mpr (.inr rfl)
 refine⟨fun j=>?_,fun x=>?_,fun h=>h3 ?_,h4.trans ?_,h5.trans ?_,h6.trans ?_⟩
 ·rw[(h1 j).1,(h1 j).2]
  unfold np sc
  rw[Gd hkk hg,Iw,Iw]
  by_cases e:j=k
  ·clear h1 h2 h3 h4 h5 h6 hg hkk;subst e;rw[if_pos rfl,if_pos rfl];exact⟨rfl,rfl⟩
  ·rw[if_neg e,if_neg e];exact⟨by lia,rfl⟩
 ·rw[h2 x,Ck hg,keys_get,or_assoc]
 ·rw[Ck hg];exact Nw h
 ·refine(?_:(S.get k).ready=_);exact ready_get
 ·refine(?_:(S.get k).passed=_);unfold SState.get;set_option tactic.hygienic true in split <;> rfl
 ·refine(?_:(S.get k).fin=_);unfold SState.get;set_option tactic.hygienic true in split <;> rfl
structure B (pre:Int->List Int) (S:SState):Prop where
 kn:S.keys.Nodup
 np:∀ k,S.np k=(pre k).length
 sc:∀ p k,(S.sc p).count k=(pre k).count p
 pk:∀ k,∀ p ∈ pre k,p ∈ S.keys/\k ∈ S.keys
 rd:S.ready=none
 ps:S.passed=0
 fn:S.fin=0
theorem B.empty:B (fun z0=>[]) .empty:=⟨by simp[keys,SState.empty],fun k=>rfl,fun p k=>rfl,fun k p h=>by simp at h,rfl,rfl,rfl⟩
structure I (pre:Int->List Int) (S:SState) (D O r:List Int):Prop where
 kn:S.keys.Nodup
 np:∀ k ∈ S.keys,k ∉ D->k ∉ O->S.np k=((pre k).filter fun p=>decide (p ∉ D)).length
 npO:∀ k ∈ O,S.np k = -1
 sc:∀ p k,(S.sc p).count k=(pre k).count p
 pk:∀ k,∀ p ∈ pre k,p ∈ S.keys/\k ∈ S.keys
 dk:∀ k,k ∈ D\/k ∈ O->k ∈ S.keys/\∀ p ∈ pre k,p ∈ D
 rd:S.ready=some r
 rn:r.Nodup
 rm:∀ x,x ∈ r <-> x ∈ S.keys/\x ∉ D/\x ∉ O/\∀ p ∈ pre x,p ∈ D
 dn:(D++O).Nodup
 ps:S.passed=D.length + O.length
 fn:S.fin=D.length
theorem Mb {S:SState}(h:S.keys.Nodup){n:NodeS}(hn:n ∈ S.nodes):S.node n.key=n:=by
 unfold node
 unfold keys at h
 generalize S.nodes=l at h hn
 induction l with
 | nil=>simp at hn
 | cons m l ih =>
  rw[List.map_cons,List.nodup_cons]at h
  rw[List.find?_cons]
  rcases List.mem_cons.mp hn with rfl | hn
  ·simp
  ·have:m.key ≠ n.key:=fun e=>h.1 (e ▸ List.mem_map.mpr ⟨n,hn,rfl⟩)
   have h1:decide (m.key=n.key)=false:=by simp[this]
   rw[h1];exact ih h.2 hn
theorem B.prep {pre:Int->List Int}{S:SState}(h:B pre S):∃ r,I pre S.prep [] [] r:=by
 refine⟨(S.nodes.filter fun n=>decide (n.npred=0)).map (·.key),h.kn,fun k hk z0 z0=>?_,by simp,h.sc,h.pk,by simp,rfl,?_,fun x=>?_,by simp,h.ps,h.fn⟩
 ·have:=h.np k
  refine(?_:S.np k=_)
  rw[this]
  have e:(pre k).filter (fun p=>decide (p ∉ ([]:List Int)))=pre k:=by rw[List.filter_eq_self];simp
  rw[e]
 ·exact(List.filter_sublist.map _).nodup h.kn
 ·simp only [List.mem_map,List.mem_filter,decide_eq_true_eq,List.not_mem_nil,not_false_eq_true,true_and]
  constructor
  ·rintro⟨n,⟨hn,h0⟩,rfl⟩
   refine⟨List.mem_map.mpr ⟨n,hn,rfl⟩,fun p hp=>?_⟩
   have:=h.np n.key
   unfold SState.np at this
   rw[Mb h.kn hn,h0]at this
   have:pre n.key=[]:=by apply List.eq_nil_of_length_eq_zero;lia
   rw[this]at hp;simp at hp
  ·rintro⟨hx,hp⟩
   obtain⟨n,hn,rfl⟩:=List.mem_map.mp hx
   refine⟨n,⟨hn,?_⟩,rfl⟩
   have:=h.np n.key
   unfold SState.np at this
   rw[Mb h.kn hn]at this
   rw[this]
   have:pre n.key=[]:=List.eq_nil_iff_forall_not_mem.mpr hp
   simp[this]
theorem B.dag {pre:Int->List Int}{S:SState}(h:B pre S){rk:Int->Nat}(hr:∀ k,∀ p ∈ pre k,rk p < rk k)(hz:S.nodes.length + 2 < scanBound):iH S rk:=by
 refine⟨fun n hn s hs=>?_,hz⟩
 have h1:s ∈ S.sc n.key:=by unfold SState.sc;rw[Mb h.kn hn];exact hs
 have h2:0 < (S.sc n.key).count s:=List.count_pos_iff.mpr h1
 rw[h.sc]at h2
 have h3:n.key ∈ pre s:=List.count_pos_iff.mp h2
 exact⟨(h.pk s _ h3).2,hr s _ h3⟩
theorem outs:∀ (l:List Int) {S:SState},(∀ k ∈ l,k ∈ S.keys)->(∀ j,(l.foldl SState.out S).np j=(if j ∈ l then -1 else S.np j)/\(l.foldl SState.out S).sc j=S.sc j)/\(l.foldl SState.out S).keys=S.keys/\(l.foldl SState.out S).passed=S.passed/\(l.foldl SState.out S).fin=S.fin
 | [],S,_=>by simp
 | k :: l,S,h=>by
  have hk:=h k (by simp)
  have hg:({ S.node k with npred:=-1 }:NodeS).key=k:=node_key' k
  have ke:(S.out k).keys=S.keys:=Ck hg
  obtain⟨h1,h2,h3,h4⟩:=outs l (S:=S.out k) (fun j hj=>by rw[ke];exact h j (by simp[hj]))
  rw[List.foldl_cons]
  refine⟨fun j=>?_,h2.trans ke,h3,h4⟩
  rw[(h1 j).1,(h1 j).2]
  unfold np sc SState.out
  rw[Gd hk hg]
  by_cases e:j=k
  ·clear h h1 h2 h3 h4 hg hk ke;subst e;simp
  ·simp[e]
theorem Wa {S:SState}{s:Int}(hs:s ∈ S.keys){r:List Int}(hr:S.ready=some r):(∀ j,(S.dec s).np j=S.np j - (if j=s then 1 else 0)/\(S.dec s).sc j=S.sc j)/\(S.dec s).keys=S.keys/\(S.dec s).passed=S.passed/\(S.dec s).fin=S.fin/\(S.dec s).ready=some (if S.np s - 1=0 then r++[s] else r):=by
 have hg:({ S.node s with npred:=(S.node s).npred - 1 }:NodeS).key=s:=node_key' s
 have hn:∀ j,((S.dec s).node j)=if j=s then { S.node s with npred:=(S.node s).npred - 1 } else S.node j:=fun j=>by
  rw[<- Gd hs hg]
  unfold SState.dec
  dsimp only
  set_option tactic.hygienic true in split <;> rfl
 refine⟨fun j=>?_,?_,?_,?_,?_⟩
 ·unfold np sc
  rw[hn j]
  by_cases e:j=s
  ·clear hg hn hr hs;subst e;simp
  ·simp[e]
 ·exact Mc hs
 ·unfold SState.dec;dsimp only;set_option tactic.hygienic true in split <;> rfl
 ·unfold SState.dec;dsimp only;set_option tactic.hygienic true in split <;> rfl
 ·unfold SState.dec np
  dsimp only
  set_option tactic.hygienic true in split
  ·refine(?_:Option.map _ S.ready=_);rw[hr];rfl
  ·exact hr
theorem decs:∀ (l:List Int) {S:SState} {r:List Int},S.ready=some r->(∀ s ∈ l,s ∈ S.keys)->(∀ s ∈ l,(l.count s:Int)<=S.np s)->∃ e:List Int,(∀ j,(l.foldl SState.dec S).np j=S.np j - l.count j/\(l.foldl SState.dec S).sc j=S.sc j)/\(l.foldl SState.dec S).keys=S.keys/\(l.foldl SState.dec S).passed=S.passed/\(l.foldl SState.dec S).fin=S.fin/\(l.foldl SState.dec S).ready=some (r++e)/\e.Nodup/\∀ x,x ∈ e <-> x ∈ l/\S.np x=l.count x
 | [],S,r,hr,_,_=>⟨[],by simp,rfl,rfl,rfl,by simpa using hr,by simp,by simp⟩
 | s :: l,S,r,hr,hk,hc=>by
  obtain⟨h1,h2,h3,h4,h5⟩:=Wa (hk s (by simp)) hr
  have hcs:=hc s (by simp)
  rw[List.count_cons_self]at hcs
  obtain⟨e,g1,g2,g3,g4,g5,g6,g7⟩:=decs l (S:=S.dec s) h5 (fun x hx=>by rw[h2];exact hk x (by simp[hx])) (fun x hx=>by
   rw[(h1 x).1]
   by_cases q:x=s
   ·subst q;simp;push_cast at hcs;lia
   ·have:=hc x (by simp[hx]);rw[List.count_cons_of_ne (Ne.symm q)]at this;simp[q];exact this)
  have key:∀ x,x ∈ e <-> x ∈ l/\S.np x=(s :: l).count x:=fun x=>by
   rw[g7 x,(h1 x).1]
   by_cases q:x=s
   ·subst q;simp only [if_true,List.count_cons_self];push_cast
    constructor
    ·rintro⟨a,b⟩;exact⟨a,by lia⟩
    ·rintro⟨a,b⟩;exact⟨a,by lia⟩
   ·rw[List.count_cons_of_ne (Ne.symm q)];simp[q]
  refine⟨(if S.np s - 1=0 then [s] else [])++e,fun j=>?_,g2.trans h2,g3.trans h3,g4.trans h4,?_,?_,fun x=>?_⟩
  ·rw[List.foldl_cons,(g1 j).1,(g1 j).2,(h1 j).1,(h1 j).2]
   refine⟨?_,rfl⟩
   by_cases q:j=s
   ·subst q;simp;lia
   ·rw[List.count_cons_of_ne (Ne.symm q)];simp[q]
  ·rw[List.foldl_cons,g5];set_option tactic.hygienic true in split <;> simp
  ·set_option tactic.hygienic true in split
   ·rename_i h0
    rw[List.nodup_append]
    refine⟨by simp,g6,fun u hu v hv=>?_⟩
    simp at hu;subst hu
    rintro rfl
    have:=(key u).mp hv
    have h9:=this.2
    rw[List.count_cons_self]at h9
    have:0 < l.count u:=List.count_pos_iff.mpr this.1
    push_cast at h9;lia
   ·simpa using g6
  ·rw[List.mem_append,key x,List.mem_cons]
   constructor
   ·rintro(q | q)
    ·set_option tactic.hygienic true in split at q
     ·rename_i h0
      simp at q;subst q
      refine⟨.inl rfl,?_⟩
      push_cast at hcs ⊢
      rw[List.count_cons_self];push_cast;lia
     ·simp at q
    ·exact⟨.inr q.1,q.2⟩
   ·rintro⟨q1,q2⟩
    by_cases q:x ∈ l
    ·exact .inr ⟨q,q2⟩
    ·left
     rcases q1 with rfl | q1
     ·rw[List.count_cons_self,List.count_eq_zero_of_not_mem q]at q2
      rw[if_pos (by rw[q2];rfl)];simp
     ·exact absurd q1 q
theorem Ew {D:List Int}{k:Int}(hk:k ∉ D):∀ l:List Int,(l.filter fun p=>decide (p ∉ D++[k])).length + l.count k=(l.filter fun p=>decide (p ∉ D)).length
 | []=>by simp
 | x :: l=>by
  have ih:=Ew hk l
  rw[List.filter_cons,List.filter_cons]
  by_cases e:x=k
  ·subst e
   have h1:decide (x ∉ D++[x])=false:=by simp
   have h2:decide (x ∉ D)=true:=by simp[hk]
   rw[h1,h2,List.count_cons_self]
   simp only [Bool.false_eq_true,if_false,if_true,List.length_cons];exact Ar.r14 ih
  ·rw[List.count_cons_of_ne e]
   by_cases hx:x ∈ D
   ·have h1:decide (x ∉ D++[k])=false:=by simp[hx]
    have h2:decide (x ∉ D)=false:=by simp[hx]
    rw[h1,h2];exact ih
   ·have h1:decide (x ∉ D++[k])=true:=by simp[hx,e]
    have h2:decide (x ∉ D)=true:=by simp[hx]
    rw[h1,h2];simp only [if_true,List.length_cons];exact Ar.r13 ih
theorem I.done1 {pre:Int->List Int}{S:SState}{D O r:List Int}(h:I pre S D O r){k:Int}(hk:k ∈ O):k ∈ S.keys/\(S.node k).npred = -1/\(∀ s ∈ (S.node k).succs,s ∈ S.keys)/\(S.done1 k).keys=S.keys/\∃ e,I pre (S.done1 k) (D++[k]) (O.erase k) (r++e):=by
 have hkD:k ∉ D:=fun q=>by have:=h.dn;rw[List.nodup_append]at this;exact this.2.2 k q k hk rfl
 have hkk:=(h.dk k (.inr hk)).1
 have hOn:O.Nodup:=by have:=h.dn;rw[List.nodup_append]at this;exact this.2.1
 have hDn:D.Nodup:=by have:=h.dn;rw[List.nodup_append]at this;exact this.1
 have memO:∀ j,j ∈ O.erase k <-> j ∈ O/\j ≠ k:=fun j=>by rw[hOn.mem_erase_iff];exact And.comm
 have hs:∀ s ∈ S.sc k,s ∈ S.keys/\k ∈ pre s/\s ∉ D/\s ∉ O/\s ≠ k:=fun s hs=>by
  have h2:0 < (S.sc k).count s:=List.count_pos_iff.mpr hs
  rw[h.sc]at h2
  have h3:k ∈ pre s:=List.count_pos_iff.mp h2
  have n1:¬ (s ∈ D\/s ∈ O):=fun q=>hkD ((h.dk s q).2 k h3)
  exact⟨(h.pk s k h3).2,h3,fun q=>n1 (.inl q),fun q=>n1 (.inr q),fun q=>n1 (.inr (q ▸ hk))⟩
 have hg:({ S.node k with npred:=-2 }:NodeS).key=k:=node_key' k
 have f1:∀ j,(S.set k { S.node k with npred:=-2 }).np j=(if j=k then -2 else S.np j)/\(S.set k { S.node k with npred:=-2 }).sc j=S.sc j:=fun j=>by
  unfold SState.np SState.sc
  rw[Gd hkk hg]
  by_cases e:j=k
  ·clear h hDn hOn hg hk hkD hkk hs memO;subst e;simp
  ·simp[e]
 have ke:(S.set k { S.node k with npred:=-2 }).keys=S.keys:=Ck hg
 obtain⟨e,g1,g2,g3,g4,g5,g6,g7⟩:=decs (S.sc k) (S:=S.set k { S.node k with npred:=-2 }) (r:=r) h.rd (fun s q=>by rw[ke];exact(hs s q).1) (fun s q=>by
  obtain⟨q1,q2,q3,q4,q5⟩:=hs s q
  rw[(f1 s).1,if_neg q5,h.np s q1 q3 q4,h.sc,<- Ew hkD (pre s)]
  exact Ar.r268)
 have kd:(S.done1 k).keys=S.keys:=g2.trans ke
 refine⟨hkk,h.npO k hk,fun s q=>(hs s q).1,kd,e,⟨?_,fun j hj hD hO=>?_,fun j hj=>?_,fun p j=>?_,fun j p hp=>?_,fun j hj=>?_,g5,?_,fun x=>?_,?_,?_,?_⟩⟩
 ·rw[kd];exact h.kn
 ·rw[kd]at hj
  have hjk:j ≠ k:=fun q=>hD (by simp[q])
  have hjD:j ∉ D:=fun q=>hD (by simp[q])
  have hjO:j ∉ O:=fun q=>hO ((memO j).mpr ⟨q,hjk⟩)
  refine(?_:((S.sc k).foldl SState.dec _).np j=_)
  rw[(g1 j).1,(f1 j).1,if_neg hjk,h.np j hj hjD hjO,h.sc,<- Ew hkD (pre j)]
  exact Ar.r267
 ·obtain⟨q1,q2⟩:=(memO j).mp hj
  refine(?_:((S.sc k).foldl SState.dec _).np j=_)
  rw[(g1 j).1,(f1 j).1,if_neg q2,h.npO j q1]
  have:j ∉ S.sc k:=fun q=>(hs j q).2.2.2.1 q1
  rw[List.count_eq_zero_of_not_mem this];rfl
 ·refine(?_:(((S.sc k).foldl SState.dec _).sc p).count j=_)
  rw[(g1 p).2,(f1 p).2];exact h.sc p j
 ·rw[kd];exact h.pk j p hp
 ·rw[kd]
  rcases hj with q | q
  ·rcases List.mem_append.mp q with q | q
   ·exact⟨(h.dk j (.inl q)).1,fun p hp=>List.mem_append_left _ ((h.dk j (.inl q)).2 p hp)⟩
   ·simp at q;clear f1 g1 g2 g3 g4 g5 g6 g7 hDn hOn hg hkD hs kd ke memO;subst q
    exact⟨hkk,fun p hp=>List.mem_append_left _ ((h.dk j (.inr hk)).2 p hp)⟩
  ·have q:=((memO j).mp q).1
   exact⟨(h.dk j (.inr q)).1,fun p hp=>List.mem_append_left _ ((h.dk j (.inr q)).2 p hp)⟩
 ·rw[List.nodup_append]
  refine⟨h.rn,g6,fun u hu v hv e=>?_⟩
  clear f1 g1 g2 g3 g4 g5 g6 hDn hOn hg hk hkk kd ke memO;subst e
  have q1:=hs u ((g7 u).mp hv).1
  exact hkD (((h.rm u).mp hu).2.2.2 k q1.2.1)
 ·rw[kd,List.mem_append,h.rm x,g7 x]
  constructor
  ·rintro(⟨q1,q2,q3,q4⟩ | ⟨q1,q2⟩)
   ·exact⟨q1,fun q=>by rcases List.mem_append.mp q with q | q;exact q2 q;simp at q;exact q3 (q ▸ hk),fun q=>q3 ((memO x).mp q).1,fun p hp=>List.mem_append_left _ (q4 p hp)⟩
   ·obtain⟨s1,s2,s3,s4,s5⟩:=hs x q1
    refine⟨s1,fun q=>by rcases List.mem_append.mp q with q | q;exact s3 q;simp at q;exact s5 q,fun q=>s4 ((memO x).mp q).1,fun p hp=>?_⟩
    rw[(f1 x).1,if_neg s5,h.np x s1 s3 s4,h.sc,<- Ew hkD (pre x)]at q2
    have:((pre x).filter fun p=>decide (p ∉ D++[k]))=[]:=by apply List.eq_nil_of_length_eq_zero;exact Ar.r261 q2
    rw[List.filter_eq_nil_iff]at this
    have:=this p hp
    rw[decide_eq_true_eq]at this
    exact Decidable.of_not_not this
  ·rintro⟨q1,q2,q3,q4⟩
   have hxk:x ≠ k:=fun q=>q2 (by simp[q])
   have hxD:x ∉ D:=fun q=>q2 (by simp[q])
   have hxO:x ∉ O:=fun q=>q3 ((memO x).mpr ⟨q,hxk⟩)
   by_cases hkx:k ∈ pre x
   ·right
    have hc:0 < (pre x).count k:=List.count_pos_iff.mpr hkx
    refine⟨List.count_pos_iff.mp (by rw[h.sc];exact hc),?_⟩
    rw[(f1 x).1,if_neg hxk,h.np x q1 hxD hxO,h.sc,<- Ew hkD (pre x)]
    have:((pre x).filter fun p=>decide (p ∉ D++[k]))=[]:=by
     rw[List.filter_eq_nil_iff];intro p hp;have:=q4 p hp;rw[decide_eq_true_eq];exact fun q=>q this
    rw[this];simp
   ·left
    refine⟨q1,hxD,hxO,fun p hp=>?_⟩
    rcases List.mem_append.mp (q4 p hp)with q | q
    ·exact q
    ·simp at q;exact absurd (q ▸ hp) hkx
 ·have pm:List.Perm (D++[k]++O.erase k) (D++O):=by
   rw[List.append_assoc]
   exact List.Perm.append_left D (List.perm_cons_erase hk).symm
  exact pm.nodup_iff.mpr h.dn
 ·refine(?_:((S.sc k).foldl SState.dec _).passed=_)
  rw[g3]
  refine(?_:S.passed=_)
  rw[h.ps,List.length_append,List.length_erase_of_mem hk]
  have:=List.length_pos_of_mem hk
  simp;lia
 ·refine(?_:((S.sc k).foldl SState.dec _).fin + 1=_)
  rw[g4]
  refine(?_:S.fin + 1=_)
  rw[h.fn];simp
theorem I.pos {pre:Int->List Int}{S:SState}{D r:List Int}(h:I pre S D [] r){rk:Int->Nat}(hr:∀ k,∀ p ∈ pre k,rk p < rk k){x:Int}(hx:x ∈ S.keys)(hD:x ∉ D):r ≠ []:=by
 intro e
 subst e
 have main:∀ (n:Nat) (x:Int),rk x<=n->x ∈ S.keys->x ∉ D->False:=by
  intro n
  induction n with
  | zero =>
   intro x hn hx hD
   have:=(h.rm x).mpr ⟨hx,hD,by simp,fun p hp=>by have:=hr x p hp;exact(Ar.r76 hn this).elim⟩
   simp at this
  | succ n ih =>
   intro x hn hx hD
   have:¬ ∀ p ∈ pre x,p ∈ D:=fun q=>by
    have:=(h.rm x).mpr ⟨hx,hD,by simp,q⟩
    simp at this
   apply this
   intro p hp
   by_cases hpD:p ∈ D
   ·exact hpD
   ·exact(ih p (by have:=hr x p hp;exact Ar.r71 hn this) (h.pk x p hp).1 hpD).elim
 exact main _ x (Nat.le_refl _) hx hD
theorem Bd.outs {B:Nat}:∀ (l:List Int) {S:SState},S.Bd B->(l.foldl SState.out S).Bd B
 | [],_,h=>h
 | k :: l,S,h=>Bd.outs l (h.np k (-1))
theorem Bd.getReady {S:SState}{B:Nat}(h:S.Bd B)(r:List Int):(S.getReady r).Bd B:=Bd.outs r h
theorem Bd.dones {B:Nat}:∀ (l:List Int) {S:SState},S.Bd B->(l.foldl SState.done1 S).Bd B
 | [],_,h=>h
 | k :: l,S,h=>Bd.dones l (h.done1 k)
theorem Bd.arcs {k:Int}:∀ (ps:List Int) {S:SState} {B:Nat},S.Bd B->(ps.foldl (SState.arc k) S).Bd (B + 2 * ps.length)
 | [],_,_,h=>h
 | p :: ps,S,B,h=>(Bd.arcs ps (h.arc k p)).mono (by simp;exact Ar.r200)
theorem Bd.add {S:SState}{B:Nat}(h:S.Bd B)(k:Int)(ps:List Int):(S.add k ps).Bd (B + 2 * ps.length + 1):=by
 unfold SState.add
 have h1:=h.get k
 have h2:=h1.np k (((S.get k).node k).npred + ps.length)
 exact(Bd.arcs ps h2).mono (by exact Ar.r199)
theorem I.len {pre:Int->List Int}{S:SState}{D O r:List Int}(h:I pre S D O r):(D++O).length<=S.keys.length:=Ax h.dn fun x hx=>(h.dk x (List.mem_append.mp hx)).1
theorem I.rlen {pre:Int->List Int}{S:SState}{D O r:List Int}(h:I pre S D O r):r.length<=S.keys.length:=Ax h.rn fun x hx=>((h.rm x).mp hx).1
theorem I.fin {pre:Int->List Int}{S:SState}{D r:List Int}(h:I pre S D [] r)(hD:∀ x ∈ S.keys,x ∈ D):r=[]/\S.active r=false:=by
 have hr:r=[]:=List.eq_nil_iff_forall_not_mem.mpr fun x hx=>((h.rm x).mp hx).2.1 (hD x ((h.rm x).mp hx).1)
 refine⟨hr,?_⟩
 subst hr
 unfold SState.active
 rw[h.ps,h.fn];simp
end SState
end Mine
end
section
namespace Mine
section
variable {ρ:Rho} {H:AH} {f f':PF} {fs:LF} {a b:Int} {m n i k:Nat}
theorem eW (h:f ρ H=some (.int a)) (h':f' ρ H=some (.int b)) (hb:0 < b):opP (iop Yg) f f' ρ H=some (.int (a % b)):=by
 simp only [opP,h,h',iop,Yg,if_pos hb,Option.map_some]
theorem eZ (h:f ρ H=some (.int a))(h':f' ρ H=some (.int b))(hb:0 < b)(hb2:b < 1073741824):opP (iop Hm) f f' ρ H=some (.int (a / b)):=by
 simp only [opP,h,h',iop,Hm,if_pos (And.intro hb hb2),Option.map_some]
theorem fB (h:f ρ H=some (.int a))(h':f' ρ H=some (.int b)):opP (iop Fy) f f' ρ H=some (.int (a + b)):=by simp only [opP,h,h',iop,Fy,Option.map_some]
theorem eV (h:f ρ H=some (.int a))(h':f' ρ H=some (.int b)):opP (iop subI) f f' ρ H=some (.int (a - b)):=by simp only [opP,h,h',iop,subI,Option.map_some]
theorem Zc (h:f ρ H=some (.int a))(h':f' ρ H=some (.int b))(hb:b.natAbs < 2 ^ 64):opP (iop Le) f f' ρ H=some (.int (a * b)):=by simp only [opP,h,h',iop,Le,if_pos (Or.inr hb:a.natAbs < 2 ^ 64\/b.natAbs < 2 ^ 64),Option.map_some]
theorem Pa {v w x:AV}(h:f ρ H=some v)(h':f' ρ H=some w)(hi:idx H v w=some x):opP idx f f' ρ H=some x:=by simp only [opP,h,h',hi]
theorem Pc {g:AH->AV->AV->Option Bool}{v w:AV}{r:Bool}(h:f ρ H=some v)(h':f' ρ H=some w)(hg:g H v w=some r):Aw g f f' ρ H=some r:=by simp only [Aw,h,h',hg]
theorem Ay {v:AV}{vs:List AV}(h:f ρ H=some v)(h':fs ρ H=some vs):Af f fs ρ H=some (v :: vs):=by simp only [Af,h,h']
theorem Oz {vs:List AV}(h:fs ρ H=some vs)(hz:vs.length<=lim)(hs:AV.stos vs=true):Ec fs ρ H=some (.lst false vs):=by simp only [Ec,h];rw[if_pos ⟨hz,hs⟩]
theorem Pb {g:Rho->AH->Option FObj}{lk:Bool}{vs:List AV}(h:g ρ H=some (.lst lk vs)):Jt g ρ H=some (.fl vs):=by simp only [Jt,h]
theorem fA {fs':LF}{vs ws:List AV}(h:fs ρ H=some vs)(h':fs' ρ H=some ws):Wh fs fs' ρ H=some (vs++ws):=by simp only [Wh,h,h']
theorem Mj {v:AV}{vs:List AV}(h:f ρ H=some v)(h':Bf H v=some vs):Jm f ρ H=some vs:=by simp only [Jm,h,h']
theorem eY {v:AV}{vs:List AV}(h:f ρ H=some v)(h':Nd H v=some vs):Ix f ρ H=some vs:=by simp only [Ix,h,h']
theorem Vw {g:AH->List AV->Option AV}{vs:List AV}{v:AV}(h:fs ρ H=some vs)(h':g H vs=some v):bP' g fs ρ H=some v:=by simp only [bP',h,h']
noncomputable def tb (n:Nat) (g:Nat->AV):List AV:=(List.range n).map g
theorem Hp (g:Nat->AV):(tb n g).length=n:=by simp[tb]
theorem cK {g:Nat->AV}(h:k < n):(tb n g)[k]'(by rw[Hp];exact h)=g k:=by simp[tb]
theorem Gl {g:Nat->AV}(h:∀ i,i < n->(g i).sto=true):AV.stos (tb n g)=true:=by
 rw[stos_iff];intro v hv;unfold tb at hv
 obtain⟨i,hi,rfl⟩:=List.mem_map.mp hv
 exact h i (by simpa using hi)
theorem Va (h:f ρ H=some (.int (n:Int)))(hn:n<=1000000):Hc (Af f Ak) ρ H=some (tb n fun i=>.int (i:Int)):=by
 unfold Hc
 simp only [Af,Ak,h,cQ,cO]
 rw[if_pos (Nq hn),Lx]
 simp[tb,Function.comp_def]
theorem hY {α:Type}{tg:Tgt}{c:CF}{vs:List α}{e:α->AV}{ρ':α->Rho}{p:α->Bool}{g:α->AV}(hfs:fs ρ H=some (vs.map e))(hput:∀ x ∈ vs,tg.put H (e x) ρ=some (ρ' x))(hc:∀ x ∈ vs,c (ρ' x) H=some (p x))
  (hf:∀ x ∈ vs,p x=true->f (ρ' x) H=some (g x)/\(g x).sto=true) (hz:vs.length<=lim):Fr fs tg c (Fx f) (.lst false []) ρ H=some (.lst false ((vs.filter p).map g)):=by
 unfold Fr
 rw[hfs]
 dsimp only
 have main:∀ (l:List α) (acc:List AV),(∀ x ∈ l,x ∈ vs)->acc.length + l.length<=lim->Bx tg c (Fx f) ρ H (.lst false acc) (l.map e)=some (.lst false (acc++(l.filter p).map g)):=by
  intro l
  induction l with
  | nil=>intro acc _ _;simp[iF]
  | cons x l ih =>
   intro acc hl hz
   have hx:=hl x (by simp)
   simp only [List.map_cons,fN,hput x hx,hc x hx]
   simp only [List.length_cons]at hz
   cases q:p x with
   | true =>
    obtain⟨h1,h2⟩:=hf x hx q
    have he:Fx f (ρ' x) H (.lst false acc)=some (.lst false (acc++[g x])):=by
     unfold Fx;simp only [h1];rw[if_pos ⟨h2,by exact Ar.r58 hz⟩]
    simp only [he]
    rw[ih _ (fun y hy=>hl y (by simp[hy])) (by simp;exact Ar.r56 hz),List.filter_cons,q]
    simp
   | false =>
    dsimp only
    rw[ih _ (fun y hy=>hl y (by simp[hy])) (by exact Ar.r57 hz),List.filter_cons,q]
    simp
 simpa using main vs [] (fun x hx=>hx) (by simpa using hz)
theorem iA {c:CF}{x:Nat}{p:Nat->Bool}{g:Nat->AV}(hfs:fs ρ H=some (tb n fun i=>.int (i:Int)))(hc:∀ i,i < n->c (ρ.set x (.int (i:Int))) H=some (p i))
  (hf:∀ i,i < n->p i=true->f (ρ.set x (.int (i:Int))) H=some (g i)/\(g i).sto=true) (hz:n<=lim):Fr fs (.one x) c (Fx f) (.lst false []) ρ H=some (.lst false (((List.range n).filter p).map g)) :=
 hY (vs:=List.range n) (ρ':=fun i=>ρ.set x (.int (i:Int))) hfs (fun i z0=>rfl) (fun i hi=>hc i (by simpa using hi)) (fun i hi=>hf i (by simpa using hi)) (by simpa using hz)
theorem iB {x:Nat}{g:Nat->AV}(hfs:fs ρ H=some (tb n fun i=>.int (i:Int)))(hf:∀ i,i < n->f (ρ.set x (.int (i:Int))) H=some (g i)/\(g i).sto=true)(hz:n<=lim):Fr fs (.one x) ttC (Fx f) (.lst false []) ρ H=some (.lst false (tb n g)):=by
 have:=iA (c:=ttC) (p:=fun z0=>true) (x:=x) hfs (fun z0 z0=>rfl) (fun i hi z0=>hf i hi) hz
 rw[this,List.filter_eq_self.mpr (by simp)];rfl
theorem Qa {l:List Int}:Nu H (.fl (l.map .int))=some l:=by
 unfold Nu
 refine(?_:(some (l.map AV.int)).bind Gi=_)
 refine(?_:Gi (l.map .int)=some l)
 induction l with
 | nil=>rfl
 | cons x l ih=>exact congrArg (Option.map (x :: ·)) ih
theorem bZ {T:Wp AFlow}{x:Nat}{K:AFlow->Rho->AH->Prop}(I:Nat->Rho->AH->Prop)(h0:I 0 ρ H)
  (step:∀ (i:Nat) (ρ:Rho) (H:AH) (K':AFlow->Rho->AH->Prop),i < n->I i ρ H->(∀ ρ2 H2,I (i + 1) ρ2 H2->K' .next ρ2 H2/\K' .cont ρ2 H2)->T K' (ρ.set x (.int (i:Int))) H)
  (fin:∀ ρ H,I n ρ H->K .next ρ H):Di (.one x) T K (tb n fun i=>.int (i:Int)) ρ H:=by
 refine Ju I h0 (fun i v ρ H K' hv hI hK=>?_) (by rw[Hp];exact fin)
 have hi:i < n:=by have:=(List.getElem?_eq_some_iff.mp hv).1;rw[Hp]at this;exact this
 have:v = .int (i:Int):=by
  have:=(List.getElem?_eq_some_iff.mp hv).2
  rw[cK hi]at this;exact this.symm
 clear fin h0 hv;subst this
 exact⟨_,rfl,step i ρ H K' hi hI hK⟩
theorem Dc {v:AV}{j:Nat}(h:j ≠ i):(ρ.set i v) j=ρ j:=by simp[Rho.set,h]
theorem aZ {v:AV}:(ρ.set i v) i=v:=by simp
theorem gH {lo:Nat}{v w:PF}(h:v ρ H=some (.int (lo:Int)))(h':w ρ H=some (.int ((lo + n:Nat):Int)))(hn:lo + n<=1000000):Hc (Af v (Af w Ak)) ρ H=some (tb n fun i=>.int ((lo + i:Nat):Int)):=by
 unfold Hc
 simp only [Af,Ak,h,h',cQ,cO]
 have hs:(Builtin.Range.rangeSize (lo:Int) ((lo + n:Nat):Int) 1).toNat=n:=by
  unfold Builtin.Range.rangeSize
  simp;split <;> lia
 have ok:Dh (lo:Int) ((lo + n:Nat):Int) 1=true:=by
  unfold Dh
  simp only [Bool.and_eq_true,decide_eq_true_eq]
  have hl:lim=1048576:=Au
  lia
 rw[if_pos ok]
 unfold Bs
 rw[hs]
 simp[tb,Function.comp_def]
end
end Mine
end
section
namespace Mine
noncomputable def ltP (x y:Int × Int):Bool:=decide (x.1 < y.1) || (decide (x.1=y.1) && decide (x.2 < y.2))
noncomputable def embP:Emb (Int × Int) where
 e x:=.tup [.int x.1,.int x.2]
 lt:=ltP
 hlt x y:=by
  refine(?_:(match some (x.1 == y.1) with
   | some true=>(match some (x.2 == y.2) with
    | some true=>some false
    | some false=>some (decide (x.2 < y.2))
    | none=>none)
   | some false=>some (decide (x.1 < y.1))
   | none=>none)=some (decide (x.1 < y.1) || (decide (x.1=y.1) && decide (x.2 < y.2))))
  by_cases h:x.1=y.1
  ·have:(x.1 == y.1)=true:=by simp[h]
   rw[this]
   by_cases h2:x.2=y.2
   ·have:(x.2 == y.2)=true:=by simp[h2]
    simp[this,h,h2]
   ·have:(x.2 == y.2)=false:=by simp[h2]
    simp[this,h]
  ·have:(x.1 == y.1)=false:=by simp[h]
   simp[this,h]
 val _:=rfl
 sto _:=rfl
theorem eC:Ord ltP where
 irr x:=by simp[ltP]
 tr x y z h1 h2:=by
  simp only [ltP,Bool.or_eq_true,Bool.and_eq_true,decide_eq_true_eq]at *
  exact Ar.r239 h1 h2
 nt x y z h1 h2:=by
  simp only [ltP,Bool.or_eq_false_iff,Bool.and_eq_false_iff,decide_eq_false_iff_not]at *
  omega
end Mine
end
section
namespace Mine
theorem Mq {tg:Tgt}{Wc:(Bool->AH->Prop)->Rho->AH->Prop}{We:FWp}{D:Addr}{Q:AH->Prop}{ρ:Rho}{H:AH}{l:List AV}(I:Nat->AH->Prop)(h0:I 0 H)
  (step:∀ (i:Nat) (v:AV) (H:AH) (K':AH->Prop),l[i]? = some v->I i H->(∀ H2,I (i + 1) H2->K' H2)->∃ ρ',tg.put H v ρ=some ρ'/\Wc (fun b H1=>(b=true->We (fun x H2=>∃ ws,H2 D=some (.f (.lst false ws))/\x.sto=true/\ws.length < lim/\K' (upd H2 D (.f (.lst false (ws++[x]))))) ρ' H1)/\(b=false->K' H1)) ρ' H)
  (fin:∀ H,I l.length H->Q H):Gj tg Wc We D Q ρ l H:=by
 have main:∀ (m:List AV) (j:Nat) (H:AH),(∀ i,m[i]? = l[j + i]?)->j + m.length=l.length->I j H->Gj tg Wc We D Q ρ m H:=by
  intro m
  induction m with
  | nil =>
   intro j H hl hj hI
   rw[List.length_nil,Nat.add_zero]at hj
   rw[hj]at hI;exact fin H hI
  | cons v m ih =>
   intro j H hl hj hI
   exact step j v H (fun H2=>Gj tg Wc We D Q ρ m H2) ((hl 0).symm) hI fun H2 hI2=>ih (j + 1) H2 (fun i=>by
     have:=hl (i + 1)
     rw[List.getElem?_cons_succ]at this
     rw[this,Nat.add_right_comm];rfl) (by rw[<- hj,List.length_cons,Nat.add_right_comm];rfl) hI2
 exact main l 0 H (fun i=>by rw[Nat.zero_add]) (Nat.zero_add _) h0
end Mine
end
section
namespace Mine
structure HS (As:List Addr) (os:List AObj) (H:AH):Prop where
 nd:As.Nodup
 ln:As.length=os.length
 at':∀ (i:Nat) (a:Addr) (o:AObj),As[i]? = some a->os[i]? = some o->H a=some o
section
variable {As:List Addr} {os:List AObj} {H:AH} {a b:Addr} {o:AObj}
theorem HS.mem (h:HS As os H)(ha:a ∈ As):∃ o,H a=some o:=by
 obtain⟨i,hi,e⟩:=List.getElem_of_mem ha
 exact⟨os[i]'(h.ln ▸ hi),h.at' i a _ (List.getElem?_eq_some_iff.mpr ⟨hi,e⟩) (List.getElem?_eq_some_iff.mpr ⟨h.ln ▸ hi,rfl⟩)⟩
theorem HS.fresh (h:HS As os H)(hb:H b=none):HS As os (upd H b o) :=
 ⟨h.nd,h.ln,fun i a o' ha ho=>by
  have q:=h.at' i a o' ha ho
  rw[Aa fun e=>by rw[e,hb]at q;exact nqa q];exact q⟩
theorem HS.snoc (h:HS As os H)(hb:H b=none):HS (As++[b]) (os++[o]) (upd H b o):=by
 have hn:b ∉ As:=fun q=>by obtain⟨o,e⟩:=h.mem q;rw[hb]at e;exact nqa e
 refine⟨?_,by rw[List.length_append,List.length_append,h.ln];rfl,fun i a o' ha ho=>?_⟩
 ·rw[List.nodup_append]
  exact⟨h.nd,List.pairwise_singleton _ _,fun x hx y hy e=>hn (by rw[<- List.mem_singleton.mp hy,<- e];exact hx)⟩
 ·by_cases q:i < As.length
  ·rw[List.getElem?_append_left q]at ha
   rw[List.getElem?_append_left (h.ln ▸ q)]at ho
   exact(h.fresh hb).at' i a o' ha ho
  ·rw[List.getElem?_append_right (Nat.le_of_not_lt q)]at ha
   rw[List.getElem?_append_right (h.ln ▸ Nat.le_of_not_lt q),<- h.ln]at ho
   cases e:i - As.length with
   | zero=>rw[e]at ha ho;rw[<- Option.some.inj ha,<- Option.some.inj ho];exact Ad
   | succ n=>rw[e]at ha;exact nqa ha
theorem HS.set (h:HS As os H)(i:Nat)(hi:As[i]? = some a):HS As (os.set i o) (upd H a o):=by
 refine⟨h.nd,by rw[List.length_set];exact h.ln,fun j c o' hc ho=>?_⟩
 by_cases q:i=j
 ·subst q
  rw[List.getElem?_set_self (h.ln ▸ (List.getElem?_eq_some_iff.mp hi).1)]at ho
  rw[hi]at hc
  rw[<- Option.some.inj hc,<- Option.some.inj ho];exact Ad
 ·rw[List.getElem?_set_ne q]at ho
  have hca:c ≠ a:=fun e=>by
   subst e
   obtain⟨h1,e1⟩:=List.getElem?_eq_some_iff.mp hi
   obtain⟨h2,e2⟩:=List.getElem?_eq_some_iff.mp hc
   exact q ((List.getElem_inj h.nd).mp (e1.trans e2.symm))
  rw[Aa hca];exact h.at' j c o' hc ho
theorem HS.get (h:HS As os H)(i:Nat)(ha:As[i]? = some a)(ho:os[i]? = some o):H a=some o:=h.at' i a o ha ho
theorem HS.one (h:H a=some o):HS [a] [o] H:=⟨List.pairwise_singleton _ _,rfl,fun i b o' hb ho=>by
 cases i with
 | zero=>rw[<- Option.some.inj hb,<- Option.some.inj ho];exact h
 | succ i=>exact nqa hb⟩
end
end Mine
end
section
namespace Mine
section
variable {H:AH} {x b:Addr} {lk:Bool} {k:Nat} {M:List (List AV)} {vs:List AV} {ρ:Rho} {fs:LF}
theorem dZ {us ws:List AV}(h:H x=some (.f (.lst false us)))(hz:ws.length<=lim)(hs:AV.stos ws=true):He H (.ref x) ws=some (upd H x (.f (.lst false ws))):=by
 refine(?_:(match H x with | some (.f (.lst false _))=>if ws.length<=lim/\AV.stos ws=true then some (upd H x (.f (.lst false ws))) else none | _=>none)=_)
 rw[h];exact if_pos ⟨hz,hs⟩
theorem hJ (h:fs ρ H=some vs)(hz:vs.length<=lim):Rh fs ρ H=some (.tup vs):=by simp only [Rh,h];rw[if_pos hz]
theorem Pp {vs:List AV}(h:H x=some (.f (.lst lk vs))):Bf H (.ref x)=some vs:=bC h
end
end Mine
end
section
namespace Mine
section
variable {C:Cx} {k:Nat} {sc:Sc} {f f':PF}
theorem Ls (items:Array Value)(b:Nat):slicePick items none (some b) none=(items.toList.take b).toArray:=by
 by_cases h:b<=items.size
 ·exact slicePick_upto items b h
 ·have e:sliceBounds none (some (b:Int)) none items.size=sliceBounds none none none items.size:=by
   simp only [sliceBounds,Option.getD_none]
   have h2:¬ ((b:Int) < 0):=by exact Ar.q75
   simp only [h2,if_false,show (1:Int) > 0 by decide,if_true]
   congr 2
   exact Ar.q82 h
  have:slicePick items none (some (b:Int)) none=slicePick items none none none:=by unfold slicePick;rw[e]
  rw[this,slicePick_all,List.take_of_length_le (by simp;exact Ar.q39 h)]
noncomputable def Td (n:Nat) (fs:LF):LF:=fun ρ H=>(fs ρ H).map (·.take n)
theorem MakeE.upto {v:Expr}{n:Nat}{j:Nat}{p p1 pos:Pos}(hv:PureE C k sc v f)(ht:∀ o r,letTemporaryGo v o r=pure ():=by intro _ _;rfl) :
  MakeE C k sc (.Subscript v (.Slice none (some (.Constant (.int (n:Int)) j p1)) none p) pos) (Ec (Td n (Jm f))):=by
 intro A env s ρ H G O o hA F R ho
 obtain⟨vs,hvs,hz,hs,rfl⟩:=Gr ho
 clear ho;obtain⟨ws,hws,rfl⟩:=Option.map_eq_some_iff.mp hvs
 obtain⟨u,hu,hws⟩:=Gn hws
 refine wpAny_Subscript_list_slice (wpAny_mono (hv A env s ρ H G O u hA F R hu) (fun x s1 h1=>?_) fun z0 z0 x=>x) ht
 obtain⟨rx,k1⟩:=h1
 obtain⟨a,m,items,rfl,hg,hr,hzw⟩:=Ao (R.keep k1.k) rx hws
 rw[evalPart_none]
 refine wpAny_pure ?_
 rw[evalPart_some]
 refine wpAny_mono (PureE.int (C:=C) (k:=k) (sc:=sc) A env s1 ρ H G O _ hA (F.keep k1.k) (R.keep k1.k) rfl) (fun y s2 h2=>?_) fun z0 z0 x=>x
 obtain⟨ry,k2⟩:=h2
 simp only [vRi]at ry
 obtain⟨t,rfl⟩:=ry
 have k12:=k1.trans' k2
 have hl:=hr.length
 refine⟨a,items.toArray,none,some n,rfl,Aj (k2.k _ _ hg),by have:=Cj;simp;exact Ar.q33 hzw hl this,.none,.int _ _,?_⟩
 have:=Gq (s1:={ s2 with heap:=s2.heap.push { cls:=.type "slice",data:=.fields #[.none,.int n t,.none] } }) (O:=O) (G:=G) ((R.keep k12.k).keep fun b o e=>Heap.get?_push_of_some _ e) (k12.trans' .push) hz hs ((hr.take n).keep fun z0 z0 e=>Heap.get?_push_of_some _ (k2.k _ _ e))
 rw[Ls]
 rw[show s2.heap.objs.size + 1=(s2.heap.push { cls:=.type "slice",data:=.fields #[.none,.int n t,.none] }).objs.size by rw[Heap.size_push]]
 exact this
end
end Mine
end
section
namespace Mine
section
variable {C:Cx} {k:Nat} {sc:Sc} {f f':PF}
theorem Um {C:Cx}{A:Around}{env:Env}{s:Shared}{E:Value->Shared->Prop}{v:Expr}{lo up st:Option Expr}{p pos:Pos}{Q:Value->Shared->Prop}
  (h:wpAny (model C.prog C.w) A (eval v env) (fun o s1=>wpAny (model C.prog C.w) A (eval (.Slice lo up st p) env) (fun i s2=>s2.TypeIs o "list"/\wpAny (model C.prog C.w) A (getItem o i) Q E s2) E s1) E s):wpAny (model C.prog C.w) A (eval (.Subscript v (.Slice lo up st p) pos) env) Q E s:=by
 rw[eval_Subscript]
 refine wpAny_bind (wpAny_mono h (fun o s1 h1=>wpAny_bind (wpAny_holding (wpAny_mono h1 (fun i s2 h2=>wpAny_bind (wpAny_standAt ?_)) fun z0 z0 x=>x))) fun z0 z0 x=>x)
 have fin:wpAny (model C.prog C.w) A (subscripted (.Slice lo up st p) false o i) (fun r s3=>wpAny (model C.prog C.w) A (letTemporaryGo v o r >>= fun z0=>pure r) Q E s3) E s2:=by
  cases st <;> exact wpAny_operating (wpAny_mono h2.2 (fun r s3 h3=>wpAny_bind (wpAny_letTemporaryGo (wpAny_pure h3))) fun z0 z0 x=>x)
 refine wpAny_bind ?_
 rw[getitemInPython_of_ne h2.1.not_modules]
 refine wpAny_bind (wpAny_specialOf h2.1 list_getitem_lookup ?_)
 exact wpAny_pure (wpAny_bind fin)
end
end Mine
end
section
namespace Mine
theorem VRels.places {h:Heap}{O:Addr->Prop}{G:Gh}{ws:List AV}{xs:List Value}(r:VRels h O G ws xs):∀ js:List Nat,VRels h O G (js.filterMap (ws[·]?)) (js.filterMap (xs[·]?))
 | []=>.nil
 | j :: js=>by
  have ih:=VRels.places r js
  cases q:ws[j]? with
  | none =>
   have e:xs[j]? = none:=by rw[List.getElem?_eq_none_iff]at q ⊢;rw[r.length];exact q
   rw[List.filterMap_cons,List.filterMap_cons,q,e];exact ih
  | some v =>
   obtain⟨x,hx,hr⟩:=r.get q
   rw[List.filterMap_cons,List.filterMap_cons,q,hx];exact .cons hr ih
noncomputable def Gc (ws:List AV) (lo hi st:Option Int):List AV:=(sliceRange (sliceBounds lo hi st ws.length).1 (sliceBounds lo hi st ws.length).2.1 (sliceBounds lo hi st ws.length).2.2).filterMap (ws[·]?)
theorem VRels.pick {h:Heap}{O:Addr->Prop}{G:Gh}{ws:List AV}{xs:List Value}(r:VRels h O G ws xs)(lo hi st:Option Int):VRels h O G (Gc ws lo hi st) (slicePick xs.toArray lo hi st).toList:=by
 have e:(slicePick xs.toArray lo hi st).toList=(sliceRange (sliceBounds lo hi st ws.length).1 (sliceBounds lo hi st ws.length).2.1 (sliceBounds lo hi st ws.length).2.2).filterMap (xs[·]?):=by
  simp[slicePick,r.length]
 rw[e];exact r.places _
theorem Vd {ws:List AV}{lo hi st:Option Int}{v:AV}(h:v ∈ Gc ws lo hi st):v ∈ ws:=by
 obtain⟨j,_,e⟩:=List.mem_filterMap.mp h
 exact List.mem_of_getElem? e
section
variable {C:Cx} {k:Nat} {sc:Sc} {f f':PF}
noncomputable def noP:Rho->AH->Option (Option Int):=fun z0 z0=>some none
noncomputable def Lz (f:PF):Rho->AH->Option (Option Int):=fun ρ H=>(f ρ H).bind fun v=>match v with
 | .int i=>some (some i)
 | _=>none
variable (C k sc) in
noncomputable def PartE (e:Option Expr) (g:Rho->AH->Option (Option Int)):Prop :=
 ∀ (A:Around) (env:Env) (s:Shared) (ρ:Rho) (H:AH) (G:Gh) (O:Addr->Prop) (x:Option Int),AOk k A->WF C A sc env ρ G O s.heap->Rel C H G O s.heap->g ρ H=some x ->
  wpAny (model C.prog C.w) A (evalPart e env) (fun v s'=>IsPart v x/\Kp s s') (fun z0 z0=>False) s
theorem PartE.no:PartE C k sc none noP:=fun A env s ρ H G O x hA F R e=>Option.some.inj e ▸ wpAny_pure ⟨.none,.refl' s⟩
theorem PartE.of {e:Expr}(h:PureE C k sc e f):PartE C k sc (some e) (Lz f):=by
 intro A env s ρ H G O x hA F R hx
 obtain⟨v,hv,hx⟩:=Option.bind_eq_some_iff.mp hx
 cases v <;> first | exact nqa hx | skip
 obtain rfl:=Option.some.inj hx
 refine wpAny_mono (h A env s ρ H G O _ hA F R hv) (fun y s' hy=>?_) fun z0 z0 x=>x
 obtain⟨⟨t,rfl⟩,k1⟩:=hy
 exact⟨.int _ t,k1⟩
theorem Rk {A:Around}{env:Env}{s:Shared}{E:Value->Shared->Prop}{v:Expr}{lo up st:Option Expr}{p pos:Pos}{Q:Value->Shared->Prop}
  (h:wpAny (model C.prog C.w) A (eval v env) (fun o s1=>wpAny (model C.prog C.w) A (evalPart lo env) (fun vl s2=>wpAny (model C.prog C.w) A (evalPart up env) (fun vu s3=>wpAny (model C.prog C.w) A (evalPart st env) (fun vk s4 =>
   ∃ l items a b c,o = .ref l/\s4.heap.IsList l items/\items.size<=sizeLine/\IsPart vl a/\IsPart vu b/\IsPart vk c/\c ≠ some 0 /\
    Q (.ref (s4.heap.objs.size + 1)) { s4 with heap:=(s4.heap.push { cls:=.type "slice",data:=.fields #[vl,vu,vk] }).push { cls:=.type "list",data:=.seq (slicePick items a b c) } }) E s3) E s2) E s1) E s) :
  wpAny (model C.prog C.w) A (eval (.Subscript v (.Slice lo up st p) pos) env) Q E s:=by
 refine Um (wpAny_mono h (fun o s1 h1=>wpAny_Slice (wpAny_mono h1 (fun vl s2 h2=>wpAny_mono h2 (fun vu s3 h3=>wpAny_mono h3 (fun vk s4 h4=>?_) fun z0 z0 x=>x) fun z0 z0 x=>x) fun z0 z0 x=>x)) fun z0 z0 x=>x)
 clear h h1 h2 h3;obtain⟨l,items,a,b,c,rfl,hl,hsz,pl,pu,pk,hc,hQ⟩:=h4
 refine⟨(hl.push _).typeIs,wpAny_getItem_list_slice (hl.push _) (Heap.IsSliceOf.new ..) pl pu pk hc ?_ hsz⟩
 rw[Heap.size_push]
 exact hQ
noncomputable def Un (f:PF) (a b c:Rho->AH->Option (Option Int)):LF:=fun ρ H=>(Jm f ρ H).bind fun ws=>(a ρ H).bind fun x=>(b ρ H).bind fun y=>(c ρ H).bind fun z=>if z ≠ some 0 then some (Gc ws x y z) else none
theorem MakeE.slc {v:Expr}{lo up st:Option Expr}{p pos:Pos}{a b c:Rho->AH->Option (Option Int)}(hv:PureE C k sc v f)(ha:PartE C k sc lo a)(hb:PartE C k sc up b)(hc:PartE C k sc st c) :
  MakeE C k sc (.Subscript v (.Slice lo up st p) pos) (Ec (Un f a b c)):=by
 intro A env s ρ H G O o hA F R ho
 obtain⟨vs,hvs,hz,hs,rfl⟩:=Gr ho
 clear ho
 obtain⟨ws,hw,hvs⟩:=Option.bind_eq_some_iff.mp hvs
 obtain⟨x,hx,hvs⟩:=Option.bind_eq_some_iff.mp hvs
 obtain⟨y,hy,hvs⟩:=Option.bind_eq_some_iff.mp hvs
 obtain⟨z,hz',hvs⟩:=Option.bind_eq_some_iff.mp hvs
 refine Bo hvs ?_;clear hvs;intro h0 hvs
 obtain rfl:=Option.some.inj hvs
 obtain⟨w,hw,hws⟩:=Gn hw
 refine Rk (wpAny_mono (hv A env s ρ H G O w hA F R hw) (fun o s1 h1=>?_) fun z0 z0 x=>x)
 obtain⟨rx,k1⟩:=h1
 obtain⟨l,m,items,rfl,hg,hr,hzw⟩:=Ao (R.keep k1.k) rx hws
 refine wpAny_mono (ha A env s1 ρ H G O x hA (F.keep k1.k) (R.keep k1.k) hx) (fun vl s2 h2=>?_) fun z0 z0 x=>x
 have k2:=k1.trans' h2.2
 refine wpAny_mono (hb A env s2 ρ H G O y hA (F.keep k2.k) (R.keep k2.k) hy) (fun vu s3 h3=>?_) fun z0 z0 x=>x
 have k3:=k2.trans' h3.2
 refine wpAny_mono (hc A env s3 ρ H G O z hA (F.keep k3.k) (R.keep k3.k) hz') (fun vk s4 h4=>?_) fun z0 z0 x=>x
 have k4:=k3.trans' h4.2
 have hk:∀ b o,s1.heap.get? b=some o->s4.heap.get? b=some o:=fun b o e=>h4.2.k _ _ (h3.2.k _ _ (h2.2.k _ _ e))
 refine⟨l,items.toArray,x,y,z,rfl,Aj (hk _ _ hg),by have:=Cj;have hl:=hr.length;simp;lia,h2.1,h3.1,h4.1,h0,?_⟩
 have:=Gq (s1:={ s4 with heap:=s4.heap.push { cls:=.type "slice",data:=.fields #[vl,vu,vk] } }) (O:=O) (G:=G) ((R.keep k4.k).keep fun b o e=>Heap.get?_push_of_some _ e) (k4.trans' .push) hz hs ((hr.pick x y z).keep fun z0 z0 e=>Heap.get?_push_of_some _ (hk _ _ e))
 rw[show s4.heap.objs.size + 1=(s4.heap.push { cls:=.type "slice",data:=.fields #[vl,vu,vk] }).objs.size by rw[Heap.size_push]]
 exact this
end
end Mine
end
section
namespace Mine
section
variable {H:AH} {x:Addr} {lk:Bool} {n k j:Nat} {W:Nat->Nat->AV} {ρ:Rho} {f f1 f2:PF}
noncomputable def Xv (l:List Int) (lo hi st:Option Int):List Int:=(sliceRange (sliceBounds lo hi st l.length).1 (sliceBounds lo hi st l.length).2.1 (sliceBounds lo hi st l.length).2.2).filterMap (l[·]?)
theorem Rz {l:List Int}{lo hi st:Option Int}:Gc (l.map .int) lo hi st=(Xv l lo hi st).map .int:=by
 unfold Gc Xv
 rw[List.length_map,List.map_filterMap]
 refine congrArg (fun g=>List.filterMap g _) (funext fun j=>?_)
 rw[List.getElem?_map]
theorem Ve {ws:List AV}{lo hi st:Option Int}:(Gc ws lo hi st).length<=ws.length:=by
 have h:=slicePick_size_le (ws.map fun z0=>Value.none).toArray lo hi st
 have e:(slicePick (ws.map fun z0=>Value.none).toArray lo hi st).toList=(Gc ws lo hi st).map fun z0=>Value.none:=by
  unfold slicePick Gc
  rw[List.size_toArray,List.length_map,List.map_filterMap]
  refine congrArg (fun g=>List.filterMap g _) (funext fun j=>?_)
  rw[List.getElem?_toArray,List.getElem?_map]
 have e2:=congrArg List.length e
 rw[List.length_map]at e2
 rw[<- e2]
 refine Nat.le_trans h ?_
 rw[List.size_toArray,List.length_map]
 exact Nat.le_refl _
theorem Zb {ws:List AV}{a b c:Rho->AH->Option (Option Int)}{x y z:Option Int}(hf:Jm f ρ H=some ws)(ha:a ρ H=some x)(hb:b ρ H=some y)(hc:c ρ H=some z)(h0:z ≠ some 0)(hz:ws.length<=lim)(hs:AV.stos ws=true):Ec (Un f a b c) ρ H=some (.lst false (Gc ws x y z)):=by
 refine Oz ?_ (Nat.le_trans Ve hz) (stos_iff.mpr fun v hv=>stos_iff.mp hs v (Vd hv))
 unfold Un
 rw[hf,ha,hb,hc]
 exact if_pos h0
theorem Xu {ws:List AV}:Gc ws none none none=ws:=by
 have e:sliceBounds none none none ws.length=(((0:Nat):Int),(ws.length:Int),1):=by simp[sliceBounds]
 unfold Gc
 rw[e]
 refine(?_:(sliceRange ((0:Nat):Int) (ws.length:Int) 1).filterMap (ws[·]?)=ws)
 rw[sliceRange_one]
 refine Eq.trans (congrArg (fun g=>List.filterMap g _) (funext fun j=>(List.getElem?_toArray ..).symm)) ((pick_run ws.toArray 0 (ws.length - 0)).trans ?_)
 exact List.take_of_length_le (Nat.le_refl _)
theorem Tx {v:Int}(h:f ρ H=some (.int v)):Lz f ρ H=some (some v):=by unfold Lz;rw[h];rfl
end
end Mine
end
section
namespace Mine
theorem Ys {H:AH}{a:Addr}{lk:Bool}{vs:List AV}{i:Nat}{v:AV}(ha:H a=some (.f (.lst lk vs)))(h:vs[i]? = some v):idx H (.ref a) (.int (i:Int))=some v:=by
 obtain⟨h1,h2⟩:=List.getElem?_eq_some_iff.mp h
 rw[Et ha h1,h2]
section
variable {ρ:Rho} {H:AH} {f f1 f2 fs':PF} {c c':CF}
theorem dB {v w:AV}(h1:f1 ρ H=some v)(h2:f2 ρ H=some w):Rh (Af f1 (Af f2 Ak)) ρ H=some (.tup [v,w]):=hJ (Ay h1 (Ay h2 rfl)) (by rw[Au];exact(by decide:2<=1048576))
theorem eX {a b:Int}(h1:f1 ρ H=some (.int a))(h2:f2 ρ H=some (.int b)):bP' Yh (Af f1 (Af f2 Ak)) ρ H=some (.int (min a b)):=Vw (vs:=[.int a,.int b]) (Ay h1 (Ay h2 rfl)) rfl
theorem Nl {i:Nat}{vs:List AV}(h:ρ i = .fl vs):vP i ρ H=some (.fl vs):=by unfold vP;rw[h]
structure Laid (n:Nat) (l:List Int) (W:Nat->Nat->Option Int):Prop where
 up:∀ u v,W u v ≠ none->u < v/\v < n
 on:∀ x ∈ l,∀ u v:Nat,u < v -> (x % (n:Int)=u /\ x / (n:Int) % (n:Int)=v \/ x % (n:Int)=v /\ x / (n:Int) % (n:Int)=u) -> W u v ≠ none
end
end Mine
end
section
namespace Mine
end Mine
end
section
namespace Mine
end Mine
end
section
namespace Mine
end Mine
end
section
namespace Mine
noncomputable def Jl (l:List Int):List Int:=l.mergeSort fun a b=>decide (a<=b)
theorem srtI_perm {l:List Int}:(Jl l).Perm l:=List.mergeSort_perm l _
theorem Xe {l:List Int}:(Jl l).Pairwise (·<=·):=by
 have:=List.pairwise_mergeSort (le:=fun a b:Int=>decide (a<=b)) (fun a b c h1 h2=>decide_eq_true (Int.le_trans (of_decide_eq_true h1) (of_decide_eq_true h2))) (fun a b=>by
  rcases Int.le_total a b with h | h
  ·rw[decide_eq_true h];rfl
  ·rw[decide_eq_true h,Bool.or_true]) l
 exact this.imp fun h=>of_decide_eq_true h
theorem Jk {l m:List Int}(h:m.Pairwise (·<=·))(p:m.Perm l):m=Jl l :=
 List.Perm.eq_of_pairwise (fun a b _ _=>Int.le_antisymm) h Xe (p.trans srtI_perm.symm)
section
variable {C:Cx} {k:Nat} {H:AH} {G:Gh} {O:Addr->Prop}
theorem Qj {h:Heap}:∀ {l:List Int} {items:List Value},VRels h O G (l.map .int) items->IntsAre items l
 | [],items,r=>by
  have:items=[]:=by simpa [vSn]using r
  rw[this];exact .nil
 | a :: l,items,r=>by
  simp only [List.map_cons,vSc,vRi]at r
  obtain⟨x,ys,rfl,⟨t,rfl⟩,r⟩:=r
  exact .cons a t (Qj r)
theorem Ra {h:Heap}:∀ {items:List Value} {l:List Int},IntsAre items l->VRels h O G (l.map .int) items
 | _,_,.nil=>by simp[vSn]
 | _,_,.cons a t r=>by
  simp only [List.map_cons,vSc,vRi]
  exact⟨_,_,rfl,⟨_,rfl⟩,Ra r⟩
noncomputable def Oo (H:AH):List AV->Option AV
 | [v]=>((Bf H v).bind Gi).bind fun l=>if l.length < 64 then some (.fl ((Jl l).map .int)) else none
 | _=>none
theorem BCallR.sorted:BCallR C k (.builtin "sorted") Oo:=by
 intro A s H G O vs xs r hA R hr e
 cases vs with
 | nil=>exact nqa e
 | cons v t=>cases t with
  | cons=>exact nqa e
  | nil =>
   obtain⟨l,hl,e⟩:=Option.bind_eq_some_iff.mp e
   obtain⟨ws,hws,hl⟩:=Option.bind_eq_some_iff.mp hl
   have hwl:=Gu hl
   by_cases h64:l.length < 64
   case neg=>rw[if_neg h64]at e;exact nqa e
   rw[if_pos h64]at e
   obtain rfl:=Option.some.inj e
   simp only [vSn,vSc]at hr
   obtain⟨x,_,rfl,hv,rfl⟩:=hr
   obtain⟨a,n,items,rfl,hg,hr,hz⟩:=Ao R hv hws
   rw[hwl]at hr
   have hlen:=hr.length
   rw[List.length_map]at hlen
   refine sorted_ints (Aj hg) (Qj hr) (by rw[hlen];exact h64) fun out ns' a1 a2 a3=>?_
   obtain⟨c,hc⟩:=sortedAll_at s.heap items out
   have kp:Kp s { s with heap:=sortedAll s.heap items out }:=⟨⟨_,s.toks,rfl⟩,fun b o e=>sortedAll_old e⟩
   refine⟨?_,kp⟩
   rw[<- Jk a3 a2]
   simp only [vRf]
   refine⟨s.heap.objs.size + 1,c,out.toList,rfl,hc,fun q=>?_,?_,Ra a1⟩
   ·obtain⟨o,e⟩:=R.live _ q
    exact absurd (Heap.lt_size e) (Nat.not_lt.mpr (Nat.le_succ _))
   ·rw[List.length_map,a2.length_eq,Au];exact Ar.u70 h64
end
end Mine
end
section
namespace Mine
namespace L08
noncomputable def dU:Sc:={ vars:=[("script",0),("numbers",1),("size",2),("row",3),("other",4),("up",5),("down",6),("k",7),("heap",8),("turn",9),("told",10),("number",11)],cel:=["script","row"],globs:=["range","min","len","heapify","TopologicalSorter","heappush","sum","heappop","_siftup","sorted"],top:=true }
noncomputable def Uy:Sc:={ vars:=[("k",12),("row",3)],cel:=["row"],globs:=["heappop"],top:=false }
noncomputable def Ux:Sc:={ vars:=[("number",13)],cel:=[],globs:=[],top:=false }
noncomputable def Uw:Sc:={ vars:=[("k",14),("script",0)],cel:=["script"],globs:=["sum"],top:=false }
noncomputable def st1:Wp AFlow:=(Bj 1 (Am (Jt (Ec (Wh (Jm (Jt (Fr (Hc (Af (bP' Yh (Af (bP' Fw (Af (vP 0) Ak)) (Af (cP (.int 20)) Ak))) Ak)) (.one 14) ttC (Fx (bP' Ul (Af (Jt (Ec (Un (vP 0) (Lz (vP 14)) noP (Lz (cP (.int 20)))))) Ak))) (.lst false [])))) (Jm (Jt (Ec (Af (cP (.int 7)) (Af (cP (.int 3)) (Af (cP (.int 5)) (Af (cP (.int 1)) Ak))))))))))))
noncomputable def st2:Wp AFlow:=(Bj 2 (Am (bP' Fw (Af (vP 1) Ak))))
noncomputable def st3:Wp AFlow:=(Bj 3 (Mp (Ix (vP 1)) (.one 13) (Xr ttC) (cT (Ec (Af (vP 13) Ak)))))
noncomputable def st4:Wp AFlow:=(Bj 4 (Eh (Ec (Un (vP 3) noP noP noP))))
noncomputable def st5:Wp AFlow:=(Av (Ci (Af (vP 4) Ak) Gy))
noncomputable def st6:Wp AFlow:=(Bj 5 (Ci Ak Sw))
noncomputable def st7:Wp AFlow:=(Bj 6 (Ci Ak Sw))
noncomputable def st8 (C:Cx):Wp AFlow:=(Ib (Hc (Af (vP 2) Ak)) (.one 7) (Ab (Av (Bv C "add" (vP 5) (Af (vP 7) Ak) Jz)) (Ab (Av (Bv C "add" (vP 6) (Af (vP 7) Ak) Jz)) Ag)))
noncomputable def st9 (C:Cx):Wp AFlow:=(Ib (Hc (Af (cP (.int 1)) (Af (vP 2) Ak))) (.one 7) (Ab (Av (Bv C "add" (vP 5) (Af (opP (iop Hm) (opP (iop subI) (vP 7) (cP (.int 1))) (cP (.int 2))) (Af (vP 7) Ak)) Jz)) (Ab (Av (Bv C "add" (vP 6) (Af (vP 7) (Af (opP (iop Hm) (opP (iop subI) (vP 7) (cP (.int 1))) (cP (.int 2))) Ak)) Jz)) Ag)))
noncomputable def dT (C:Cx):Wp AFlow:=(Av (Bv C "prepare" (vP 5) Ak Fe))
noncomputable def gC:Wp AFlow:=(Bj 8 (Eh (Ec Ak)))
noncomputable def dR (C:Cx):Wp AFlow:=(Ib (Hc (Af (vP 2) Ak)) (.one 9) (Ab (Tw (Bv C "get_ready" (vP 5) Ak Ef) (.one 7) (Ab (Av (Ci (Af (vP 8) (Af (Rh (Af (opP (iop Yg) (opP (iop Le) (bP' Ul (Af (Jt (Ec (Td 63 (Jm (vP 0))))) Ak)) (vP 7)) (cP (.int 97))) (Af (vP 7) Ak))) Ak)) Co)) Ag)) (Ab (Bj 7 (fP (Ci (Af (vP 8) Ak) Dq) (cP (.int 1)))) (Ab (ifT (Wz (Az (Aw ltV (opP (iop Fy) (opP (iop Le) (cP (.int 2)) (vP 7)) (cP (.int 1))) (vP 2))) (Wz (cJ isNotG (Ci (Af (vP 3) (Af (vP 7) Ak)) Ek) (Am (cP .none))) (Om true))) (Ab (Hd (Am (cP (.bool false)))) Ag) Ag) (Ab (Av (Bv C "done" (vP 5) (Af (vP 7) Ak) Je)) Ag)))))
noncomputable def gB:Wp AFlow:=(Ib (Hc (Af (vP 2) Ak)) (.one 7) (Ab (ifT (Az (Aw isNotR (opP idx (vP 3) (vP 7)) (opP idx (vP 4) (vP 7)))) (Ab (Hd (Am (cP (.bool false)))) Ag) Ag) Ag))
noncomputable def fZ (C:Cx):Wp AFlow:=(Av (Bv C "prepare" (vP 6) Ak Fe))
noncomputable def fY:Wp AFlow:=(Bj 10 (Eh (Ec Ak)))
noncomputable def dQ (C:Cx):Wp AFlow:=(Ib (Hc (Af (vP 2) Ak)) (.one 9) (Ab (Tw (Bv C "get_ready" (vP 6) Ak Ef) (.one 7) (Ab (Av (Ci (Af (vP 8) (Af (Rh (Af (opP idx (opP idx (vP 3) (vP 7)) (cP (.int 0))) (Af (vP 7) Ak))) Ak)) Co)) Ag)) (Ab (dL (.many [11,7]) (Ci (Af (vP 8) Ak) Dq)) (Ab (Av (Ms (vP 10) (vP 11))) (Ab (Av (Bv C "done" (vP 6) (Af (vP 7) Ak) Je)) Ag)))))
noncomputable def fW:Wp AFlow:=(Ib (Hc (Af (vP 2) Ak)) (.one 7) (Ab (ifT (Az (Aw isNotR (opP idx (vP 3) (vP 7)) (opP idx (vP 4) (vP 7)))) (Ab (Hd (Am (cP (.bool false)))) Ag) Ag) Ag))
noncomputable def dP (C:Cx):Wp AFlow:=(ifT (aP (dM (Bv C "is_active" (vP 5) Ak Ff)) (aP (dM (Bv C "is_active" (vP 6) Ak Ff)) (aP (Az (Aw neG (vP 10) (bP' Oo (Af (vP 1) Ak)))) (Om false)))) (Ab (Hd (Am (cP (.bool false)))) Ag) Ag)
noncomputable def aW:Wp AFlow:=(Hd (Uf false (iC eqV (Mp (Hc (Af (vP 2) Ak)) (.one 12) (Xr ttC) (fQ (Zt (Af (vP 3) Ak) Dq) (cP (.int 0)))) (Am (vP 10))) (Am (bP (Aw eqV (vP 3) (Jt (Ec Ak)))))))
noncomputable def Zz (C:Cx):Wp AFlow :=
 (Ab st1 (Ab st2 (Ab st3 (Ab st4 (Ab st5 (Ab st6 (Ab st7 (Ab (st8 C) (Ab (st9 C) (Ab (dT C) (Ab gC (Ab (dR C) (Ab gB (Ab (fZ C) (Ab fY (Ab (dQ C) (Ab fW (Ab (dP C) (Ab aW Ag)))))))))))))))))))
noncomputable def Zy (C:Cx):FW:=Bi (Dx 1) (Zz C)
end L08
end Mine
end
section
namespace Mine
noncomputable def nL (l:List Nat):List Int:=l.map fun (j:Nat)=>(j:Int)
theorem mem_nL {l:List Nat}{k:Nat}:(k:Int) ∈ nL l <-> k ∈ l:=by
 constructor
 ·intro h;obtain⟨j,hj,e⟩:=List.mem_map.mp h;exact Int.ofNat.inj e ▸ hj
 ·intro h;exact List.mem_map.mpr ⟨k,h,rfl⟩
theorem Ov {l:List Nat}:(nL l).length=l.length:=by unfold nL;rw[List.length_map]
theorem HS.cons {As:List Addr}{os:List AObj}{H:AH}{b:Addr}{o:AObj}(h:HS As os H)(hb:H b=none):HS (b :: As) (o :: os) (upd H b o):=by
 have hn:b ∉ As:=fun q=>by obtain⟨o,e⟩:=h.mem q;rw[hb]at e;exact nqa e
 refine⟨List.nodup_cons.mpr ⟨hn,h.nd⟩,congrArg Nat.succ h.ln,fun i a o' ha ho=>?_⟩
 cases i with
 | zero=>rw[<- Option.some.inj ha,<- Option.some.inj ho];exact Ad
 | succ i=>exact(h.fresh hb).at' i a o' ha ho
structure Srs (n:Nat) (pre:Nat->List Nat) (rk:Nat->Nat):Prop where
 lt:∀ k,k < n->∀ j ∈ pre k,j < n
 ln:∀ k,k < n->(pre k).length<=n
 rk:∀ k,k < n->∀ j ∈ pre k,rk j < rk k
 n60:n<=60
inductive SRd (n:Nat) (pre:Nat->List Nat) (S:SState):Prop
 | mk (pr:Int->List Int) (r:List Int) (P1:∀ k:Nat,k < n->pr k=nL (pre k)) (P2:∀ x,(∀ k:Nat,k < n->x ≠ (k:Int))->pr x=[]) (I:SState.I pr S [] [] r) (bd:S.Bd (121 * n))
  (k10:∀ x ∈ S.keys,∃ k:Nat,k < n/\x=(k:Int)) (all:∀ k:Nat,k < n->(k:Int) ∈ S.keys)
theorem cS {n:Nat}{pre:Nat->List Nat}{rk:Nat->Nat}(G:Srs n pre rk){pr:Int->List Int}(P1:∀ k:Nat,k < n->pr k=nL (pre k))(P2:∀ x,(∀ k:Nat,k < n->x ≠ (k:Int))->pr x=[]):∀ k,∀ x ∈ pr k,(fun y:Int=>rk y.toNat) x < (fun y:Int=>rk y.toNat) k:=by
 intro k x hx
 by_cases q:∃ j:Nat,j < n/\k=(j:Int)
 ·obtain⟨j,hj,rfl⟩:=q
  rw[P1 j hj]at hx
  obtain⟨c,hc,rfl⟩:=List.mem_map.mp hx
  exact G.rk j hj c hc
 ·rw[P2 k fun j hj e=>q ⟨j,hj,e⟩]at hx;exact absurd hx List.not_mem_nil
theorem Tn {n:Nat}{l:List Int}(hn:l.Nodup)(h:∀ x ∈ l,∃ k:Nat,k < n/\x=(k:Int)):l.length<=n:=by
 have:=Ax (m:=nL (List.range n)) hn fun x hx=>by
  obtain⟨k,hk,rfl⟩:=h x hx
  exact mem_nL.mpr (List.mem_range.mpr hk)
 rw[Ov,List.length_range]at this;exact this
end Mine
end
section
namespace Mine
namespace L08
theorem No {k q:Nat}(h:Sub k q):q=k\/Sub (2 * k + 1) q\/Sub (2 * k + 2) q:=by
 induction h with
 | here=>exact .inl rfl
 | @left p _ ih =>
  rcases ih with rfl | h | h
  ·exact .inr (.inl .here)
  ·exact .inr (.inl h.left)
  ·exact .inr (.inr h.left)
 | @right p _ ih =>
  rcases ih with rfl | h | h
  ·exact .inr (.inr .here)
  ·exact .inr (.inl h.right)
  ·exact .inr (.inr h.right)
theorem Tf {t j q:Nat}(h:Sub t q)(h':Sub j q):Sub j t\/Sub t j:=by
 induction h with
 | here=>exact .inl h'
 | @left p hp ih =>
  by_cases e:2 * p + 1=j
  ·rw[<- e];exact .inr hp.left
  ·have:=(h'.up e).1
   rw[show (2 * p + 1 - 1) / 2=p by exact Ar.r5]at this;exact ih this
 | @right p hp ih =>
  by_cases e:2 * p + 2=j
  ·rw[<- e];exact .inr hp.right
  ·have:=(h'.up e).1
   rw[show (2 * p + 2 - 1) / 2=p by exact Ar.r6]at this;exact ih this
section
variable {α:Type} [Inhabited α] {lt:α->α->Bool}
inductive Lk (r:Nat) (xs ys:List α):Prop
 | mk (ln:xs.length=ys.length) (at':∀ q,Sub r q->xs.getD q default=ys.getD q default)
theorem Lk.ln {r:Nat}{xs ys:List α}:Lk r xs ys->xs.length=ys.length | .mk h _=>h
theorem Lk.at' {r:Nat}{xs ys:List α}:Lk r xs ys->∀ q,Sub r q->xs.getD q default=ys.getD q default | .mk _ h=>h
theorem Lk.set {r p:Nat}{v:α}{xs ys:List α}(h:Lk r xs ys):Lk r (xs.set p v) (ys.set p v):=by
 refine .mk (by rw[List.length_set,List.length_set];exact h.ln) fun q hq=>?_
 rw[bX,bX,h.ln,h.at' q hq]
theorem bD {s:Nat}{item:α}:∀ (p:Nat) (xs ys:List α),Sub s p->Lk s xs ys->Lk s (sdF lt s item xs p) (sdF lt s item ys p)/\∀ q,¬ Sub s q->(sdF lt s item xs p).getD q default=xs.getD q default:=by
 intro p
 induction p using Nat.strongRecOn with
 | ind p ih =>
  intro xs ys hp h
  have off:∀ {v:α} {zs:List α} {q:Nat},¬ Sub s q->(zs.set p v).getD q default=zs.getD q default:=fun {v zs q} hq=>Bc fun e=>hq (e ▸ hp)
  unfold sdF
  by_cases hs:s < p
  ·have hu:=(hp.up (Nat.ne_of_gt hs)).1
   rw[dif_pos hs,dif_pos hs,h.at' _ hu]
   by_cases hl:lt item (ys.getD ((p - 1) / 2) default)=true
   ·rw[if_pos hl,if_pos hl]
    obtain⟨h1,h2⟩:=ih ((p - 1) / 2) (Ar.r196 hs) _ _ hu (h.set (p:=p) (v:=ys.getD ((p - 1) / 2) default))
    exact⟨h1,fun q hq=>(h2 q hq).trans (off hq)⟩
   ·rw[if_neg hl,if_neg hl];exact⟨h.set,fun q hq=>off hq⟩
  ·rw[dif_neg hs,dif_neg hs];exact⟨h.set,fun q hq=>off hq⟩
inductive SuL (lt:α->α->Bool) (r:Nat) (xs ys:List α) (p:Nat):Prop
 | mk (lk:Lk r (suF lt xs p).1 (suF lt ys p).1) (e:(suF lt xs p).2=(suF lt ys p).2) (sb:Sub r (suF lt xs p).2) (off:∀ q,¬ Sub r q->(suF lt xs p).1.getD q default=xs.getD q default)
theorem aQ {r:Nat}:∀ (n:Nat) (xs ys:List α) (p:Nat),xs.length - p=n->Sub r p->Lk r xs ys->SuL lt r xs ys p:=by
 intro n
 induction n using Nat.strongRecOn with
 | ind n ih =>
  intro xs ys p hn hp h
  have h1:=h.at' _ hp.left
  have h2:=h.at' _ hp.right
  by_cases q:2 * p + 1 < xs.length
  ·have q':2 * p + 1 < ys.length:=by rw[<- h.ln];exact q
   by_cases c:2 * p + 2 < xs.length/\lt (xs.getD (2 * p + 1) default) (xs.getD (2 * p + 2) default)=false
   ·have c':2 * p + 2 < ys.length/\lt (ys.getD (2 * p + 1) default) (ys.getD (2 * p + 2) default)=false:=by rw[<- h.ln,<- h1,<- h2];exact c
    have ex:suF lt xs p=suF lt (xs.set p (xs.getD (2 * p + 2) default)) (2 * p + 2):=by conv=>lhs;unfold suF;rw[dif_pos q,if_pos c]
    have ey:suF lt ys p=suF lt (ys.set p (xs.getD (2 * p + 2) default)) (2 * p + 2):=by conv=>lhs;unfold suF;rw[dif_pos q',if_pos c',<- h2]
    obtain⟨l1,l2,l3,l4⟩:=ih _ (by rw[<- hn,List.length_set];exact Ar.r132 q) (xs.set p (xs.getD (2 * p + 2) default)) (ys.set p (xs.getD (2 * p + 2) default)) (2 * p + 2) rfl hp.right h.set
    rw[<- ex]at l1 l2 l3 l4
    rw[<- ey]at l1 l2
    exact⟨l1,l2,l3,fun q hq=>(l4 q hq).trans (Bc fun e=>hq (e ▸ hp))⟩
   ·have c':¬ (2 * p + 2 < ys.length/\lt (ys.getD (2 * p + 1) default) (ys.getD (2 * p + 2) default)=false):=by rw[<- h.ln,<- h1,<- h2];exact c
    have ex:suF lt xs p=suF lt (xs.set p (xs.getD (2 * p + 1) default)) (2 * p + 1):=by conv=>lhs;unfold suF;rw[dif_pos q,if_neg c]
    have ey:suF lt ys p=suF lt (ys.set p (xs.getD (2 * p + 1) default)) (2 * p + 1):=by conv=>lhs;unfold suF;rw[dif_pos q',if_neg c',<- h1]
    obtain⟨l1,l2,l3,l4⟩:=ih _ (by rw[<- hn,List.length_set];exact Ar.r131 q) (xs.set p (xs.getD (2 * p + 1) default)) (ys.set p (xs.getD (2 * p + 1) default)) (2 * p + 1) rfl hp.left h.set
    rw[<- ex]at l1 l2 l3 l4
    rw[<- ey]at l1 l2
    exact⟨l1,l2,l3,fun q hq=>(l4 q hq).trans (Bc fun e=>hq (e ▸ hp))⟩
  ·have q':¬ 2 * p + 1 < ys.length:=by rw[<- h.ln];exact q
   have ex:suF lt xs p=(xs,p):=by unfold suF;rw[dif_neg q]
   have ey:suF lt ys p=(ys,p):=by unfold suF;rw[dif_neg q']
   refine⟨?_,?_,?_,fun q z0=>?_⟩
   ·rw[ex,ey];exact h
   ·rw[ex,ey]
   ·rw[ex];exact hp
   ·rw[ex]
theorem Hr {k:Nat}{xs ys:List α}(h:Lk k xs ys):Lk k (Ap lt xs k) (Ap lt ys k)/\∀ q,¬ Sub k q->(Ap lt xs k).getD q default=xs.getD q default:=by
 obtain⟨l1,l2,l3,l4⟩:=aQ (lt:=lt) _ xs ys k rfl .here h
 unfold Ap
 rw[<- h.at' k .here,<- l2]
 obtain⟨h1,h2⟩:=bD (lt:=lt) (s:=k) (item:=xs.getD k default) (suF lt xs k).2 _ _ l3 (l1.set (p:=(suF lt xs k).2) (v:=xs.getD k default))
 exact⟨h1,fun q hq=>(h2 q hq).trans ((Bc fun e=>hq (by rw[<- e];exact l3)).trans (l4 q hq))⟩
noncomputable def cn (lt:α->α->Bool) (h:Nat) (xs:List α):Nat->List α:=fun i=>Nat.rec xs (fun i l=>Ap lt l (h - 1 - i)) i
noncomputable abbrev ck (lt:α->α->Bool) (xs:List α) (k:Nat):List α:=cn lt (xs.length / 2) xs (xs.length / 2 - k)
theorem cn_len {h:Nat}{xs:List α}:∀ {i:Nat},(cn lt h xs i).length=xs.length
 | 0=>rfl
 | i + 1=>(Ce (lt:=lt) (xs:=cn lt h xs i)).trans cn_len
theorem Pf {xs:List α}{k:Nat}(h:k < xs.length / 2):ck lt xs k=Ap lt (ck lt xs (k + 1)) k:=by
 refine(?_:cn lt (xs.length / 2) xs (xs.length / 2 - k)=Ap lt (cn lt (xs.length / 2) xs (xs.length / 2 - (k + 1))) k)
 generalize xs.length / 2=n at h
 have e:n - k=n - (k + 1) + 1:=by omega
 rw[e]
 refine(?_:Ap lt (cn lt n xs (n - (k + 1))) (n - 1 - (n - (k + 1)))=_)
 rw[show n - 1 - (n - (k + 1))=k by omega]
theorem Mr {xs:List α}{k:Nat}(h:xs.length / 2<=k):ck lt xs k=xs:=by
 refine(?_:cn lt (xs.length / 2) xs (xs.length / 2 - k)=xs)
 rw[Nat.sub_eq_zero_of_le h];rfl
theorem cG {xs:List α}:ck lt xs 0=Bm lt xs:=by
 have main:∀ m,m<=xs.length / 2->(List.range m).reverse.foldl (fun l i=>Ap lt l i) (ck lt xs m)=ck lt xs 0:=by
  intro m
  induction m with
  | zero=>intro _;rfl
  | succ m ih =>
   intro hm
   rw[List.range_succ,List.reverse_append]
   refine(?_:(List.range m).reverse.foldl (fun l i=>Ap lt l i) (Ap lt (ck lt xs (m + 1)) m)=_)
   rw[<- Pf hm];exact ih (Nat.le_of_succ_le hm)
 have:=main (xs.length / 2) (Nat.le_refl _)
 rw[Mr (Nat.le_refl _)]at this
 exact this.symm
theorem Zp {xs:List α}{k q:Nat}(h:¬ Sub k q):(ck lt xs k).getD q default=(ck lt xs (k + 1)).getD q default:=by
 by_cases e:k < xs.length / 2
 ·rw[Pf e]
  exact(Hr (lt:=lt) (.mk rfl fun q z0=>rfl)).2 q h
 ·rw[Mr (Nat.le_of_not_lt e),Mr (Nat.le_succ_of_le (Nat.le_of_not_lt e))]
theorem Wf {xs:List α}{t q:Nat}(hq:Sub t q):∀ (d j:Nat),t=j + d->(t=0\/(t - 1) / 2 < j)->(ck lt xs j).getD q default=(ck lt xs t).getD q default:=by
 intro d
 induction d with
 | zero=>intro j e _;rw[e];rfl
 | succ d ih =>
  intro j e hj
  have no:¬ Sub j q:=fun h=>by
   rcases Tf hq h with h1 | h1
   ·have h2:=(h1.up (by omega)).2
    omega
   ·have:=h1.ge;omega
  rw[Zp no]
  exact ih (j + 1) (by omega) (hj.imp id fun h=>Nat.lt_succ_of_lt h)
theorem iE {xs:List α}{k:Nat}:∀ (d j:Nat),j + d=xs.length / 2->k < j->(ck lt xs j).getD k default=xs.getD k default:=by
 intro d
 induction d with
 | zero=>intro j e _;rw[Mr (by omega)]
 | succ d ih =>
  intro j e hk
  rw[Zp fun h=>absurd h.ge (Nat.not_le_of_gt hk)]
  exact ih (j + 1) (by omega) (Nat.lt_succ_of_lt hk)
structure Up (lt:α->α->Bool) (xs cur:List α) (D:List Nat):Prop where
 ln:cur.length=xs.length
 cl:∀ t ∈ D,∀ q,q < xs.length->Sub t q->q ∈ D
 at':∀ q t,q < xs.length->Sub t q->t ∈ D->(t=0\/(t - 1) / 2 ∉ D)->cur.getD q default=(ck lt xs t).getD q default
 un:∀ q,q < xs.length->q ∉ D->cur.getD q default=xs.getD q default
theorem Up.nil {xs:List α}:Up lt xs xs []:=⟨rfl,fun t h=>absurd h List.not_mem_nil,fun q t _ _ h=>absurd h List.not_mem_nil,fun q _ _=>rfl⟩
noncomputable def upd1 (lt:α->α->Bool) (cur:List α) (k:Nat):List α:=if 2 * k + 1 < cur.length then Ap lt cur k else cur
theorem Up.step {xs cur:List α}{D:List Nat}(U:Up lt xs cur D){k:Nat}(hk:k < xs.length)(hkD:k ∉ D)(hc1:2 * k + 1 < xs.length->2 * k + 1 ∈ D)(hc2:2 * k + 2 < xs.length->2 * k + 2 ∈ D):Up lt xs (upd1 lt cur k) (D++[k]):=by
 have below:∀ q,q < xs.length->Sub k q->q=k\/∃ c,(c - 1) / 2=k/\k + 1<=c/\0 < c/\c ∈ D/\Sub c q:=fun q hq h=>by
  rcases No h with e | h | h
  ·exact .inl e
  ·exact .inr ⟨2 * k + 1,by omega,by omega,by omega,hc1 (Nat.lt_of_le_of_lt h.ge hq),h⟩
  ·exact .inr ⟨2 * k + 2,by omega,by omega,by omega,hc2 (Nat.lt_of_le_of_lt h.ge hq),h⟩
 have belowD:∀ q,q < xs.length->Sub k q->q=k\/q ∈ D:=fun q hq h=>(below q hq h).imp id fun ⟨c,_,_,_,hc,hs⟩=>U.cl c hc q hq hs
 have off:∀ q,¬ Sub k q->(upd1 lt cur k).getD q default=cur.getD q default:=fun q h=>by
  unfold upd1
  by_cases e:2 * k + 1 < cur.length
  ·rw[if_pos e];exact(Hr (lt:=lt) (.mk rfl fun q z0=>rfl)).2 q h
  ·rw[if_neg e]
 refine⟨?_,?_,?_,?_⟩
 ·unfold upd1
  by_cases e:2 * k + 1 < cur.length
  ·rw[if_pos e,Ce];exact U.ln
  ·rw[if_neg e];exact U.ln
 ·intro t ht q hq hs
  rcases List.mem_append.mp ht with ht | ht
  ·exact List.mem_append_left _ (U.cl t ht q hq hs)
  ·rw[List.mem_singleton.mp ht]at hs
   exact List.mem_append.mpr ((belowD q hq hs).symm.imp id fun e=>List.mem_singleton.mpr e)
 ·intro q t hq hs ht htop
  by_cases etk:t=k
  ·rw[etk]at hs ⊢
   clear ht htop etk
   unfold upd1
   by_cases e:2 * k + 1 < cur.length
   ·rw[if_pos e]
    rw[U.ln]at e
    rw[Pf (lt:=lt) (xs:=xs) (k:=k) (by omega)]
    refine(Hr (lt:=lt) (.mk (by rw[U.ln];exact cn_len.symm) fun q' hq'=>?_)).1.at' q hs
    by_cases l:q' < xs.length
    ·rcases below q' l hq' with e' | ⟨c,hc1,hc2,hc3,hc4,hc5⟩
     ·rw[e',U.un k hk hkD]
      exact(iE (xs.length / 2 - (k + 1)) (k + 1) (by omega) (Nat.lt_succ_self k)).symm
     ·rw[U.at' q' c l hc5 hc4 (.inr (by rw[hc1];exact hkD))]
      exact(Wf hc5 (c - (k + 1)) (k + 1) (by omega) (.inr (by rw[hc1];exact Nat.lt_succ_self k))).symm
    ·have l1:cur.length<=q':=by rw[U.ln];exact Nat.le_of_not_lt l
     have l2:(ck lt xs (k + 1)).length<=q':=by rw[cn_len];exact Nat.le_of_not_lt l
     rw[List.getD_eq_getElem?_getD,List.getD_eq_getElem?_getD,List.getElem?_eq_none l1,List.getElem?_eq_none l2]
   ·rw[if_neg e]
    rw[U.ln]at e
    have eq:q=k:=by
     rcases No hs with e' | h | h
     ·exact e'
     ·have:=h.ge;omega
     ·have:=h.ge;omega
    rw[eq,U.un k hk hkD,Mr (by omega)]
  ·have ht:t ∈ D:=(List.mem_append.mp ht).elim id fun h=>absurd (List.mem_singleton.mp h) etk
   have htop':t=0\/(t - 1) / 2 ∉ D:=htop.imp id fun h h'=>h (List.mem_append_left _ h')
   have hn:¬ Sub k q:=fun h=>by
    rcases Tf hs h with h1 | h1
    ·obtain⟨h2,h3⟩:=h1.up etk
     rcases htop with e | h4
     ·rw[e]at h1
      have:=h1.ge
      omega
     ·have ht2:=Nat.lt_of_le_of_lt hs.ge hq
      rcases belowD _ (by omega) h2 with e | e
      ·exact h4 (List.mem_append_right _ (List.mem_singleton.mpr e))
      ·exact h4 (List.mem_append_left _ e)
    ·exact hkD (U.cl t ht k hk h1)
   rw[off q hn];exact U.at' q t hq hs ht htop'
 ·intro q hq hqD
  have hqD':q ∉ D:=fun h=>hqD (List.mem_append_left _ h)
  rw[off q fun h=>(belowD q hq h).elim (fun e=>hqD (List.mem_append_right _ (List.mem_singleton.mpr e))) hqD']
  exact U.un q hq hqD'
theorem Up.fin {xs cur:List α}{D:List Nat}(U:Up lt xs cur D)(h:∀ k,k < xs.length->k ∈ D):cur=Bm lt xs:=by
 rw[<- cG]
 apply List.ext_getElem
 ·rw[U.ln];exact cn_len.symm
 ·intro i h1 h2
  have hi:i < xs.length:=by rw[<- U.ln];exact h1
  have:=U.at' i 0 hi (.zero i) (h 0 (by omega)) (.inl rfl)
  rw[List.getD_eq_getElem?_getD,List.getD_eq_getElem?_getD,List.getElem?_eq_getElem h1,List.getElem?_eq_getElem h2]at this
  exact this
end
section
variable {n:Nat} {v:Nat->Int}
structure Dn (n:Nat) (v:Nat->Int) (D:List Nat):Prop where
 nd:D.Nodup
 lt:∀ d ∈ D,d < n
 asc:(D.map v).Pairwise (·<=·)
 le:∀ d ∈ D,∀ y,y < n->y ∉ D->v d<=v y
theorem Dn.nil:Dn n v []:=⟨List.nodup_nil,fun d h=>absurd h List.not_mem_nil,List.Pairwise.nil,fun d h=>absurd h List.not_mem_nil⟩
theorem Dn.step {D:List Nat}(h:Dn n v D){k:Nat}(hk:k < n)(hkD:k ∉ D)(hv:∀ i,0 < i->i < n->v ((i - 1) / 2)<=v i)(hmin:∀ y,y < n->y ∉ D->(y=0\/(y - 1) / 2 ∈ D)->v k<=v y):Dn n v (D++[k]):=by
 have main:∀ y,y < n->y ∉ D->v k<=v y:=by
  intro y
  induction y using Nat.strongRecOn with
  | ind y ih =>
   intro hy hyD
   by_cases e:y=0\/(y - 1) / 2 ∈ D
   ·exact hmin y hy hyD e
   ·have h0:0 < y:=by omega
    exact Int.le_trans (ih ((y - 1) / 2) (by omega) (by omega) fun q=>e (.inr q)) (hv y h0 hy)
 refine⟨?_,?_,?_,?_⟩
 ·rw[List.nodup_append]
  exact⟨h.nd,List.nodup_cons.mpr ⟨List.not_mem_nil,List.nodup_nil⟩,fun a ha b hb e=>hkD (by rw[<- List.mem_singleton.mp hb,<- e];exact ha)⟩
 ·intro d hd
  rcases List.mem_append.mp hd with hd | hd
  ·exact h.lt d hd
  ·rw[List.mem_singleton.mp hd];exact hk
 ·rw[List.map_append,List.pairwise_append]
  refine⟨h.asc,List.pairwise_singleton _ _,fun a ha b hb=>?_⟩
  obtain⟨d,hd,rfl⟩:=List.mem_map.mp ha
  rw[List.mem_singleton.mp hb];exact h.le d hd k hk hkD
 ·intro d hd y hy hyD
  have hyD':y ∉ D:=fun q=>hyD (List.mem_append_left _ q)
  rcases List.mem_append.mp hd with hd | hd
  ·exact h.le d hd y hy hyD'
  ·rw[List.mem_singleton.mp hd];exact main y hy hyD'
theorem Dn.all {D:List Nat}(h:Dn n v D)(hl:D.length=n):∀ k,k < n->k ∈ D:=fun k hk=>by
 apply Decidable.byContradiction
 intro hn
 have:=Ax (l:=k :: D) (m:=List.range n) (List.nodup_cons.mpr ⟨hn,h.nd⟩) fun x hx=>List.mem_range.mpr ((List.mem_cons.mp hx).elim (fun e=>e ▸ hk) (h.lt x))
 rw[List.length_range,List.length_cons,hl]at this
 exact absurd this (Nat.not_succ_le_self n)
theorem Dn.perm {D:List Nat}(h:Dn n v D)(hl:D.length=n):D.Perm (List.range n) :=
 (List.perm_ext_iff_of_nodup h.nd List.nodup_range).mpr fun k=>⟨fun q=>List.mem_range.mpr (h.lt k q),fun q=>h.all hl k (List.mem_range.mp q)⟩
end
section
variable {α:Type} [Inhabited α] {lt:α->α->Bool} {v:α->Int}
inductive Pops (lt:α->α->Bool) (v:α->Int) (xs hp ps:List α):Prop
 | mk (pm:(ps++hp).Perm xs) (ho:Cc lt hp) (asc:(ps.map v).Pairwise (·<=·)) (le:∀ p ∈ ps,∀ h ∈ hp,v p<=v h)
theorem Pops.step {xs hp ps:List α}(hlt:∀ x y,lt x y=decide (v x < v y))(o:Ord lt)(h:Pops lt v xs hp ps)(hne:hp ≠ []):Pops lt v xs (Bn lt hp).2 (ps++[(Bn lt hp).1]):=by
 obtain⟨pm,ho,asc,le⟩:=h
 have pp:=Nr (lt:=lt) hne
 have mn:=Py o ho hne
 have hm:(Bn lt hp).1 ∈ hp:=pp.mem_iff.mp List.mem_cons_self
 refine⟨?_,Nt o ho,?_,?_⟩
 ·rw[List.append_assoc]
  exact(List.Perm.append_left ps pp).trans pm
 ·rw[List.map_append,List.pairwise_append]
  refine⟨asc,List.pairwise_singleton _ _,fun a ha b hb=>?_⟩
  obtain⟨p,hp,rfl⟩:=List.mem_map.mp ha
  rw[List.mem_singleton.mp hb];exact le p hp _ hm
 ·intro p hp h hh
  have hh':=pp.mem_iff.mp (List.mem_cons_of_mem _ hh)
  rcases List.mem_append.mp hp with hp | hp
  ·exact le p hp h hh'
  ·rw[List.mem_singleton.mp hp]
   have:=mn h hh'
   rw[hlt]at this
   exact Int.not_lt.mp (of_decide_eq_false this)
end
end L08
end Mine
end
section
namespace Mine
namespace SState
theorem B.addG {pre:Int->List Int}{S:SState}(h:B pre S){k:Int}{ps:List Int}:B (fun j=>if j=k then pre j++ps else pre j) (S.add k ps):=by
 obtain⟨h1,h2,h3,h4,h5,h6⟩:=add_facts (S:=S) (k:=k) (ps:=ps)
 refine⟨h3 h.kn,fun j=>?_,fun p j=>?_,fun j p hp=>?_,h4.trans h.rd,h5.trans h.ps,h6.trans h.fn⟩
 ·rw[(h1 j).1,h.np j]
  by_cases e:j=k
  ·rw[if_pos e,if_pos e,List.length_append,Int.natCast_add]
  ·rw[if_neg e,if_neg e,Int.add_zero]
 ·rw[(h1 p).2,List.count_append,h.sc p j,List.count_replicate]
  by_cases e:j=k
  ·rw[if_pos e,e,List.count_append,beq_self_eq_true,if_pos rfl]
  ·have:(k == j)=false:=by simp;exact fun q=>e q.symm
   rw[if_neg e,this];rfl
 ·rw[h2,h2]
  by_cases e:j=k
  ·rw[if_pos e]at hp
   rcases List.mem_append.mp hp with hp | hp
   ·exact⟨.inl (h.pk j p hp).1,.inl (h.pk j p hp).2⟩
   ·exact⟨.inr (.inr hp),.inr (.inl e)⟩
  ·rw[if_neg e]at hp
   exact⟨.inl (h.pk j p hp).1,.inl (h.pk j p hp).2⟩
end SState
namespace L08
inductive TB (n:Nat) (pre:Nat->List Nat) (m b:Nat) (S:SState):Prop
 | mk (pr:Int->List Int) (B:SState.B pr S) (P1:∀ k:Nat,k < n->pr k=nL (pre k)) (P2:∀ x,(∀ k:Nat,k < n->x ≠ (k:Int))->pr x=[]) (bd:S.Bd b) (k10:∀ x ∈ S.keys,∃ k:Nat,k < n/\x=(k:Int)) (all:∀ k:Nat,k < m->(k:Int) ∈ S.keys)
theorem TB.nil {n:Nat}:TB n (fun z0=>[]) 0 0 .empty:=.mk (fun z0=>[]) .empty (fun k z0=>rfl) (fun x z0=>rfl) ⟨Nat.zero_le _,fun n hn=>absurd hn List.not_mem_nil⟩ (fun x hx=>absurd hx List.not_mem_nil) fun k hk=>absurd hk (Nat.not_lt_zero _)
section
variable {C:Cx} {T':Wp AFlow} {Q K:AFlow->Rho->AH->Prop} {ρ:Rho} {H:AH} {n m m' b b' k i is:Nat} {pre pre':Nat->List Nat} {S:SState} {ps:List Nat} {aS:Addr} {As:List Addr} {os:List AObj} {fk:PF} {fs:LF}
theorem eF {l l':List Nat}:nL (l++l')=nL l++nL l':=List.map_append
theorem TB.add (h:TB n pre m b S)(hk:k < n)(hps:∀ p ∈ ps,p < n)(hpre:∀ j,j < n->pre' j=if j=k then pre j++ps else pre j)(hm:∀ j,j < m'->j < m\/j=k)(hb:b + 2 * ps.length + 1<=b'):TB n pre' m' b' (S.add k (nL ps)):=by
 obtain⟨pr,B,P1,P2,bd,k10,all⟩:=h
 obtain⟨f1,f2,f3⟩:=SState.add_facts (S:=S) (k:=k) (ps:=nL ps)
 refine .mk _ (B.addG (k:=k) (ps:=nL ps)) (fun j hj=>?_) (fun x hx=>?_) ((bd.add k (nL ps)).mono (by rw[Ov];exact hb)) (fun x hx=>?_) fun j hj=>?_
 ·rw[hpre j hj]
  by_cases e:j=k
  ·rw[if_pos e,if_pos (by rw[e]),eF,P1 j hj]
  ·rw[if_neg e,if_neg fun q:(j:Int)=(k:Int)=>e (Int.ofNat.inj q),P1 j hj]
 ·rw[if_neg (hx k hk)];exact P2 x hx
 ·rcases(f2 x).mp hx with q | q | q
  ·exact k10 x q
  ·exact⟨k,hk,q⟩
  ·obtain⟨c,hc,e⟩:=List.mem_map.mp q
   exact⟨c,hps c hc,e.symm⟩
 ·rcases hm j hj with q | q
  ·exact(f2 _).mpr (.inl (all j q))
  ·rw[q];exact(f2 _).mpr (.inr (.inl rfl))
theorem Te (h:TB n pre m b S)(hs:ρ is = .ref aS)(hS:H aS=some (.srt S))(hk:fk ρ H=some (.int (k:Int)))(hfs:fs ρ H=some ((nL ps).map .int))(hb:b + 2 * ps.length + 2 < lim)(hq:T' Q ρ (upd H aS (.srt (S.add k (nL ps))))) :
  Ab (Av (Bv C "add" (vP is) (Af fk fs) Jz)) T' Q ρ H:=by
 obtain⟨pr,B,P1,P2,bd,k10,all⟩:=h
 refine Ru (a:=aS) (ns:=Bk) (vs:=.int (k:Int) :: (nL ps).map .int) (Ae hs) (by unfold Bl;rw[hS]) (by decide) (Ay hk hfs) (Ba ((k:Int) :: nL ps)) ?_
 exact⟨aS,S,k,nL ps,b,rfl,hS,B.rd,bd,by rw[Ov];exact hb,hq⟩
theorem cR {rk:Nat->Nat}(G:Srs n pre rk)(h:TB n pre n b S)(hb:b<=121 * n)(hs:ρ is = .ref aS)(hS:H aS=some (.srt S))(hq:∀ S',SRd n pre S'->T' Q ρ (upd H aS (.srt S'))) :
  Ab (Av (Bv C "prepare" (vP is) Ak Fe)) T' Q ρ H:=by
 have n60:=G.n60
 obtain⟨pr,B,P1,P2,bd,hk,hal⟩:=h
 have hkl:S.nodes.length<=n:=by
  have:=Tn B.kn hk
  unfold SState.keys at this
  rw[List.length_map]at this;exact this
 refine Ru (a:=aS) (ns:=Bk) (vs:=[]) (Ae hs) (by unfold Bl;rw[hS]) (by decide) rfl rfl ?_
 refine⟨aS,S,_,rfl,hS,B.rd,B.dag (cS G P1 P2) (by refine(?_:_ < 4096);exact Ar.u49 n60 hkl),?_⟩
 obtain⟨r,I⟩:=B.prep
 exact hq S.prep (.mk pr r P1 P2 I (bd.mono hb) hk hal)
noncomputable def upP (i p:Nat):List Nat:=((List.range i).filter fun c=>decide (c / 2=p)).map (· + 1)
noncomputable def dnP (i k:Nat):List Nat:=if 1<=k/\k<=i then [(k - 1) / 2] else []
theorem upP_mem {i p c:Nat}:c ∈ upP i p <-> 1<=c/\c<=i/\(c - 1) / 2=p:=by
 unfold upP
 rw[List.mem_map]
 constructor
 ·rintro⟨d,hd,rfl⟩
  obtain⟨h1,h2⟩:=List.mem_filter.mp hd
  have:=List.mem_range.mp h1
  exact⟨Nat.le_add_left 1 d,this,by rw[Nat.add_sub_cancel];exact of_decide_eq_true h2⟩
 ·rintro⟨h1,h2,h3⟩
  exact⟨c - 1,List.mem_filter.mpr ⟨List.mem_range.mpr (by omega),decide_eq_true h3⟩,Nat.sub_add_cancel h1⟩
theorem dK (i j:Nat):upP (i + 1) j=if j=i / 2 then upP i j++[i + 1] else upP i j:=by
 unfold upP
 rw[List.range_succ,List.filter_append,List.map_append]
 by_cases q:j=i / 2
 ·rw[if_pos q,List.filter_cons_of_pos (p:=fun c=>decide (c / 2=j)) (decide_eq_true q.symm)];rfl
 ·rw[if_neg q,List.filter_cons_of_neg (p:=fun c=>decide (c / 2=j)) (by rw[decide_eq_false (Ne.symm q)];decide)];exact List.append_nil _
theorem fC (i j:Nat):dnP (i + 1) j=if j=i + 1 then dnP i j++[i / 2] else dnP i j:=by
 unfold dnP
 by_cases q:j=i + 1
 ·rw[if_pos q,q,if_pos ⟨Nat.le_add_left 1 i,Nat.le_refl _⟩,if_neg fun h=>Nat.not_succ_le_self i h.2,Nat.add_sub_cancel];rfl
 ·rw[if_neg q]
  by_cases h:1<=j/\j<=i
  ·rw[if_pos h,if_pos ⟨h.1,Nat.le_succ_of_le h.2⟩]
  ·rw[if_neg h,if_neg fun h'=>h ⟨h'.1,Nat.le_of_lt_succ (Nat.lt_of_le_of_ne h'.2 q)⟩]
theorem cC {j:Nat}:dnP 0 j=[]:=if_neg fun h=>by omega
theorem aL (i p:Nat):(upP i p).length<=i:=by
 unfold upP
 rw[List.length_map]
 have:=List.length_filter_le (fun c=>decide (c / 2=p)) (List.range i)
 rw[List.length_range]at this;exact this
theorem Wu (h0:0 < n)(h60:n<=60):Srs n (upP (n - 1)) fun k=>n - k:=by
 refine⟨fun k z0 j hj=>?_,fun k z0=>Nat.le_trans (aL _ k) (Nat.sub_le _ _),fun k hk j hj=>?_,h60⟩
 ·have:=(upP_mem.mp hj).2.1;omega
 ·obtain⟨h1,h2,h3⟩:=upP_mem.mp hj
  omega
theorem dn_mem {i k j:Nat}:j ∈ dnP i k <-> (1<=k/\k<=i)/\j=(k - 1) / 2:=by
 unfold dnP
 by_cases h:1<=k/\k<=i
 ·rw[if_pos h,List.mem_singleton];exact⟨fun q=>⟨h,q⟩,fun q=>q.2⟩
 ·rw[if_neg h];exact⟨fun q=>absurd q List.not_mem_nil,fun q=>absurd q.1 h⟩
theorem Zh (h0:0 < n)(h60:n<=60):Srs n (dnP (n - 1)) fun k=>k:=by
 refine⟨fun k z0 j hj=>?_,fun k z0=>?_,fun k hk j hj=>?_,h60⟩
 ·have:=dn_mem.mp hj;omega
 ·unfold dnP
  by_cases h:1<=k/\k<=n - 1
  ·rw[if_pos h];exact h0
  ·rw[if_neg h];exact Nat.zero_le _
 ·have:=dn_mem.mp hj;omega
theorem iK {aU aD:Addr}(h4:0 < n)(n60:n<=60)(r2:ρ 2 = .int (n:Int))(r5:ρ 5 = .ref aU)(r6:ρ 6 = .ref aD)(s:HS (aD :: aU :: As) (.srt .empty :: .srt .empty :: os) H)
  (hQ:∀ ρ2 H2 SU SD,(∀ j,j ≠ 7->ρ2 j=ρ j)->HS (aD :: aU :: As) (.srt SD :: .srt SU :: os) H2->SRd n (upP (n - 1)) SU->TB n (dnP (n - 1)) n (6 * n) SD->T' Q ρ2 H2) :
  Ab (st8 C) (Ab (st9 C) (Ab (dT C) T')) Q ρ H:=by
 have lz:∀ {x:Nat},x<=500->x < lim:=fun h=>by rw[Au];exact Nat.lt_of_le_of_lt h (by decide)
 unfold st8
 refine Rv (Va (n:=n) (Ah r2) (Nat.le_trans n60 (by decide))) (Gl fun z0 z0=>rfl) ?_
 refine bZ (fun i ρ' H=>(∀ j,j ≠ 7->ρ' j=ρ j)/\∃ SU SD,HS (aD :: aU :: As) (.srt SD :: .srt SU :: os) H/\TB n (upP 0) i (3 * i) SU/\TB n (dnP 0) i (3 * i) SD) ⟨fun j z0=>rfl,.empty,.empty,s,.nil,by rw[(funext fun j=>cC:dnP 0=fun z0=>[])];exact .nil⟩ ?_ ?_
 ·rintro i ρ1 H1 K' hi ⟨r1,SU,SD,s,tu,td⟩ hK
  have q:∀ j,j ≠ 7->(ρ1.set 7 (.int (i:Int))) j=ρ j:=fun j hj=>(Dc hj).trans (r1 j hj)
  have q7:(ρ1.set 7 (.int (i:Int))) 7 = .int (i:Int):=rfl
  generalize (ρ1.set 7 (.int (i:Int)))=ρ2 at q q7 ⊢
  refine Te (ps:=[]) tu ((q 5 (by decide)).trans r5) (s.get 1 rfl rfl) (Ah q7) rfl (lz (by rw[List.length_nil];omega)) ?_
  have s1:HS (aD :: aU :: As) (.srt SD :: .srt (SU.add i []) :: os) (upd H1 aU (.srt (SU.add i []))):=s.set 1 rfl
  refine(?_:Ab _ _ _ _ (upd H1 aU (.srt (SU.add i []))))
  generalize (upd H1 aU (.srt (SU.add i [])))=H2 at s1 ⊢
  refine Te (ps:=[]) td ((q 6 (by decide)).trans r6) (s1.get 0 rfl rfl) (Ah q7) rfl (lz (by rw[List.length_nil];omega)) ?_
  refine(hK ρ2 _ ⟨q,SU.add i [],SD.add i [],s1.set 0 rfl,tu.add (ps:=[]) hi (fun p hp=>absurd hp List.not_mem_nil) (fun j hj=>?_) (fun j hj=>?_) ?_,td.add (ps:=[]) hi (fun p hp=>absurd hp List.not_mem_nil) (fun j hj=>?_) (fun j hj=>?_) ?_⟩).1
  ·rw[List.append_nil,ite_self]
  ·omega
  ·rw[List.length_nil];omega
  ·rw[List.append_nil,ite_self]
  ·omega
  ·rw[List.length_nil];omega
 ·rintro ρ1 H1 ⟨r1,SU,SD,s,tu,td⟩
  dsimp only
  unfold st9
  refine Rv (gH (n:=n - 1) (lo:=1) rfl (Ah (((r1 2 (by decide)).trans r2).trans (congrArg AV.int (by omega)))) (by omega)) (Gl fun z0 z0=>rfl) ?_
  refine Ju (fun i ρ' H=>(∀ j,j ≠ 7->ρ' j=ρ j)/\∃ SU SD,HS (aD :: aU :: As) (.srt SD :: .srt SU :: os) H/\TB n (upP i) n (3 * n + 3 * i) SU/\TB n (dnP i) n (3 * n + 3 * i) SD) ⟨r1,SU,SD,s,tu,td⟩ ?_ ?_
  ·rintro i v ρ2 H2 K' hv ⟨r3,SU,SD,s,tu,td⟩ hK
   obtain⟨hi,e⟩:=List.getElem?_eq_some_iff.mp hv
   rw[Hp]at hi
   rw[cK hi]at e
   refine⟨_,rfl,?_⟩
   rw[<- e]
   clear e hv
   have q:∀ j,j ≠ 7->(ρ2.set 7 (.int ((1 + i:Nat):Int))) j=ρ j:=fun j hj=>(Dc hj).trans (r3 j hj)
   have q7:(ρ2.set 7 (.int ((1 + i:Nat):Int))) 7 = .int ((i + 1:Nat):Int):=by rw[Nat.add_comm i 1];rfl
   generalize (ρ2.set 7 (.int ((1 + i:Nat):Int)))=ρ3 at q q7 ⊢
   have half:∀ H,opP (iop Hm) (opP (iop subI) (vP 7) (cP (.int 1))) (cP (.int 2)) ρ3 H=some (.int ((i / 2:Nat):Int)):=fun H=>(eZ (b:=2) (eV (b:=1) (Ah q7) rfl) rfl (by decide) (by decide)).trans (congrArg (fun z=>some (AV.int z)) (by omega))
   refine Te (ps:=[i + 1]) tu ((q 5 (by decide)).trans r5) (s.get 1 rfl rfl) (half _) (Ay (Ah q7) rfl) (lz (by rw[List.length_singleton];omega)) ?_
   have s1:HS (aD :: aU :: As) (.srt SD :: .srt (SU.add ((i / 2:Nat):Int) (nL [i + 1])) :: os) (upd H2 aU (.srt (SU.add ((i / 2:Nat):Int) (nL [i + 1])))):=s.set 1 rfl
   refine(?_:Ab _ _ _ _ (upd H2 aU (.srt (SU.add ((i / 2:Nat):Int) (nL [i + 1])))))
   generalize (upd H2 aU (.srt (SU.add ((i / 2:Nat):Int) (nL [i + 1]))))=H3 at s1 ⊢
   refine Te (ps:=[i / 2]) td ((q 6 (by decide)).trans r6) (s1.get 0 rfl rfl) (Ah q7) (Ay (half _) rfl) (lz (by rw[List.length_singleton];omega)) ?_
   refine hK ρ3 _ ⟨q,_,_,s1.set 0 rfl,tu.add (k:=i / 2) (ps:=[i + 1]) (by omega) (fun p hp=>by rw[List.mem_singleton.mp hp];omega) (fun j hj=>dK i j) (fun j hj=>.inl hj) ?_,td.add (k:=i + 1) (ps:=[i / 2]) (by omega) (fun p hp=>by rw[List.mem_singleton.mp hp];omega) (fun j hj=>fC i j) (fun j hj=>.inl hj) ?_⟩ |>.1
   ·rw[List.length_singleton];omega
   ·rw[List.length_singleton];omega
  ·rintro ρ2 H2 ⟨r3,SU,SD,s,tu,td⟩
   rw[Hp]at tu td
   dsimp only
   unfold dT
   refine cR (Wu h4 n60) tu (by omega) ((r3 5 (by decide)).trans r5) (s.get 1 rfl rfl) fun SU' hU=>?_
   have td':TB n (dnP (n - 1)) n (6 * n) SD:=by
    obtain⟨pr,B,P1,P2,bd,k10,all⟩:=td
    exact .mk pr B P1 P2 (bd.mono (by omega)) k10 all
   exact hQ ρ2 _ SU' SD r3 (s.set 1 rfl) hU td'
end
end L08
end Mine
end
section
namespace Mine
namespace SState
theorem I.getReady2 {pre:Int->List Int}{S:SState}{D O r:List Int}(h:I pre S D O r):I pre (S.getReady r) D (O++r) []/\(S.getReady r).keys=S.keys:=by
 refine Ac fun PP ret=>?_
 obtain⟨h1,h2,h3,h4⟩:=outs r (S:=S) (fun k hk=>((h.rm k).mp hk).1)
 refine ret ?_
 refine⟨⟨?_,fun k hk hD hO=>?_,fun k hk=>?_,fun p k=>?_,fun k p hp=>?_,fun k hk=>?_,rfl,List.nodup_nil,fun x=>?_,?_,?_,?_⟩,h2⟩
 ·refine(?_:(r.foldl SState.out S).keys.Nodup);rw[h2];exact h.kn
 ·refine(?_:(r.foldl SState.out S).np k=_)
  rw[(h1 k).1,if_neg fun q=>hO (List.mem_append_right _ q)]
  have hk':k ∈ S.keys:=by rw[<- h2];exact hk
  exact h.np k hk' hD fun q=>hO (List.mem_append_left _ q)
 ·refine(?_:(r.foldl SState.out S).np k=_)
  rw[(h1 k).1]
  by_cases q:k ∈ r
  ·rw[if_pos q]
  ·rw[if_neg q];exact h.npO k ((List.mem_append.mp hk).resolve_right q)
 ·refine(?_:((r.foldl SState.out S).sc p).count k=_)
  rw[(h1 p).2];exact h.sc p k
 ·refine(?_:p ∈ (r.foldl SState.out S).keys/\k ∈ (r.foldl SState.out S).keys)
  rw[h2];exact h.pk k p hp
 ·refine(?_:k ∈ (r.foldl SState.out S).keys/\_)
  rw[h2]
  rcases hk with hk | hk
  ·exact h.dk k (.inl hk)
  ·rcases List.mem_append.mp hk with q | q
   ·exact h.dk k (.inr q)
   ·have:=(h.rm k).mp q;exact⟨this.1,this.2.2.2⟩
 ·refine(?_:x ∈ [] <-> x ∈ (r.foldl SState.out S).keys/\_)
  rw[h2]
  constructor
  ·intro q;exact absurd q List.not_mem_nil
  ·rintro⟨q1,q2,q3,q4⟩
   exact absurd ((h.rm x).mpr ⟨q1,q2,fun q=>q3 (List.mem_append_left _ q),q4⟩) fun q=>q3 (List.mem_append_right _ q)
 ·rw[<- List.append_assoc,List.nodup_append]
  refine⟨h.dn,h.rn,fun u hu v hv e=>?_⟩
  have hv:=(h.rm v).mp hv
  rw[e]at hu
  rcases List.mem_append.mp hu with q | q
  ·exact hv.2.1 q
  ·exact hv.2.2.1 q
 ·refine(?_:S.passed + r.length=_)
  rw[h.ps,List.length_append];omega
 ·refine(?_:(r.foldl SState.out S).fin=_)
  rw[h4];exact h.fn
end SState
namespace L08
noncomputable abbrev rkI (rk:Nat->Int × Int) (x:Int):Int × Int:=rk x.toNat
noncomputable abbrev oH (hp:List (Int × Int)):AObj:=.f (.lst false (hp.map embP.e))
structure KN (n:Nat) (S:SState):Prop where
 k10:∀ x ∈ S.keys,∃ k:Nat,k < n/\x=(k:Int)
 all:∀ k:Nat,k < n->(k:Int) ∈ S.keys
 bd:S.Bd (121 * n)
inductive TI (n:Nat) (pre:Nat->List Nat) (rk:Nat->Int × Int) (D:List Nat) (hp:List (Int × Int)) (S:SState):Prop
 | mk (pr:Int->List Int) (O r:List Int) (P1:∀ k:Nat,k < n->pr k=nL (pre k)) (P2:∀ x,(∀ k:Nat,k < n->x ≠ (k:Int))->pr x=[]) (I:SState.I pr S (nL D) O r) (K:KN n S) (ho:Cc ltP hp) (pm:hp.Perm (O.map (rkI rk)))
theorem TI.start {n:Nat}{pre:Nat->List Nat}{rk:Nat->Int × Int}{S:SState}(h:SRd n pre S):TI n pre rk [] [] S:=by
 obtain⟨pr,r,P1,P2,I,bd,k10,all⟩:=h
 exact .mk pr [] r P1 P2 I ⟨k10,all,bd⟩ (fun i h0 h=>absurd h (Nat.not_lt_zero _)) .nil
inductive Nxt (n:Nat) (pre:Nat->List Nat) (rk:Nat->Int × Int) (D:List Nat) (k:Nat):Prop
 | mk (hk:k < n) (hkD:k ∉ D) (hp:∀ j ∈ pre k,j ∈ D) (mn:∀ y,y < n->y ∉ D->(∀ j ∈ pre y,j ∈ D)->(rk k).1<=(rk y).1)
section
variable {C:Cx} {T':Wp AFlow} {Q K:AFlow->Rho->AH->Prop} {ρ:Rho} {H:AH} {aH aX aS aO:Addr} {n is ih iv:Nat} {pre:Nat->List Nat} {As:List Addr} {os:List AObj} {rk:Nat->Int × Int} {D:List Nat} {hp:List (Int × Int)} {S:SState} {fk:PF} {ox:AObj} {vs:List AV}
theorem gP {pr:Int->List Int}{O r:List Int}(I:SState.I pr S (nL D) O r)(K:KN n S):O.length + D.length<=n/\r.length<=n:=by
 have hk:=Tn I.kn K.k10
 have h1:=Nat.le_trans I.len hk
 have h2:=Nat.le_trans I.rlen hk
 rw[List.length_append,Ov]at h1
 exact⟨by omega,h2⟩
theorem Xq {rn:Nat->Nat}(G:Srs n pre rn)(hrk:∀ k:Nat,(rk k).2=(k:Int))(hD:D.length < n)(rS:ρ is = .ref aS)(rH:ρ ih = .ref aH)(nS:is ≠ iv)(nH:ih ≠ iv)(s:HS (aH :: aX :: aS :: aO :: As) (oH hp :: ox :: .srt S :: .f (.lst false vs) :: os) H)(hst:AV.stos vs=true)(h:TI n pre rk D hp S)
  (hkey:∀ (k:Nat) ρ' H' o1 o2 o3 o4,k < n->(∀ j,j ≠ iv->ρ' j=ρ j)->ρ' iv = .int (k:Int)->HS (aH :: aX :: aS :: aO :: As) (o1 :: o2 :: o3 :: o4 :: os) H'->fk ρ' H' = some (embP.e (rk k)))
  (hQ:∀ ρ2 H2 hp2 k S2,(∀ j,j ≠ iv->ρ2 j=ρ j)->HS (aH :: aX :: aS :: aO :: As) (oH hp2 :: ox :: .srt S2 :: .f (.lst false vs) :: os) H2->hp2 ≠ []->hp2.length<=lim->(Bn ltP hp2).1=rk k->Nxt n pre rk D k ->
   (∃ r,S2.ready=some r/\Kg S2 [(k:Int)]/\S2.Bd (121 * n)/\r.length + 1 * (121 * n) + 1 + 2<=lim)->TI n pre rk (D++[k]) (Bn ltP hp2).2 (S2.done1 k)->T' Q ρ2 H2) :
  Ab (Tw (Bv C "get_ready" (vP is) Ak Ef) (.one iv) (Ab (Av (Ci (Af (vP ih) (Af fk Ak)) Co)) Ag)) T' Q ρ H:=by
 have n60:=G.n60
 obtain⟨pr,O,r,P1,P2,I,KN1,ho,pm⟩:=h
 obtain⟨l1,l2⟩:=gP I KN1
 have lim31:∀ {m:Nat},m<=200->m<=lim:=fun h=>by rw[Au];exact Nat.le_trans h (by decide)
 refine⟨aS,Bk,[],Ae rS,by unfold Bl;rw[s.get 2 rfl rfl],by decide,rfl,rfl,aS,S,r,rfl,s.get 2 rfl rfl,I.rd,lim31 (Nat.le_trans l2 (Nat.le_trans n60 (by decide))),fun x hx=>((I.rm x).mp hx).1,?_⟩
 obtain⟨I2,hk2⟩:=I.getReady2
 have KN2:KN n (S.getReady r):=⟨by rw[hk2];exact KN1.k10,by rw[hk2];exact KN1.all,KN1.bd.getReady r⟩
 have s2:HS (aH :: aX :: aS :: aO :: As) (oH hp :: ox :: .srt (S.getReady r) :: .f (.lst false vs) :: os) (upd H aS (.srt (S.getReady r))):=s.set 2 rfl
 generalize (upd H aS (.srt (S.getReady r)))=H1 at s2 ⊢
 refine⟨aO,.lst false vs,r.map .int,s2.get 3 rfl rfl,rfl,rfl,Ba _,?_⟩
 have s3:HS (aH :: aX :: aS :: aO :: As) (oH hp :: ox :: .srt (S.getReady r) :: .f (.lst true vs) :: os) (upd H1 aO (.f (.lst true vs))):=s2.set 3 rfl
 refine(?_:Di _ _ _ _ _ (upd H1 aO (.f (.lst true vs))))
 generalize (upd H1 aO (.f (.lst true vs)))=H2 at s3 ⊢
 refine Lp (fun j ρ' H=>(∀ j,j ≠ iv->ρ' j=ρ j)/\∃ hp',HS (aH :: aX :: aS :: aO :: As) (oH hp' :: ox :: .srt (S.getReady r) :: .f (.lst true vs) :: os) H/\Cc ltP hp'/\hp'.Perm ((O++r.take j).map (rkI rk))) ⟨fun z0 z0=>rfl,hp,s3,ho,by rw[List.take_zero,List.append_nil];exact pm⟩ ?_ ?_
 ·rintro j x ρ1 H3 K' hx ⟨rg,hp',s,ho',pm'⟩ hK'
  have hxr:=List.mem_of_getElem? hx
  obtain⟨k,hk,rfl⟩:=KN1.k10 x ((I.rm x).mp hxr).1
  have hz:hp'.length<=120:=by
   rw[pm'.length_eq,List.length_map,List.length_append,List.length_take]
   omega
  have rg':∀ j,j ≠ iv->(ρ1.set iv (.int (k:Int))) j=ρ j:=fun j hj=>(Dc hj).trans (rg j hj)
  refine Xm (vs:=[.ref aH,embP.e (rk k)]) (Ay (Ae ((rg' ih nH).trans rH)) (Ay (hkey k _ H3 _ _ _ _ hk rg' aZ s) rfl)) (by
   have:=embP.sto (rk k)
   exact stos_iff.mpr fun v hv=>(List.mem_cons.mp hv).elim (fun e=>by rw[e];rfl) fun h=>by rw[List.mem_singleton.mp h];exact this) (Nf (M:=embP) (s.get 0 rfl rfl) (by rw[Au];exact Nat.lt_of_le_of_lt hz (by decide)) ?_)
  refine(hK' (ρ1.set iv (.int (k:Int))) _ ⟨rg',Ly ltP hp' (rk k),s.set 0 rfl,Ry eC ho',pushF_perm.trans ?_⟩).1
  rw[List.take_succ,hx,<- List.append_assoc,List.map_append]
  exact(pm'.cons _).trans (List.perm_append_singleton _ _).symm
 ·rintro ρ1 H3 ⟨rg,hp',s,ho',pm'⟩
  rw[List.take_length]at pm'
  have s4:HS (aH :: aX :: aS :: aO :: As) (oH hp' :: ox :: .srt (S.getReady r) :: .f (.lst false vs) :: os) (upd H3 aO (.f (.lst false vs))):=s.set 3 rfl
  refine(?_:T' Q ρ1 (upd H3 aO (.f (.lst false vs))))
  generalize (upd H3 aO (.f (.lst false vs)))=H4 at s4 ⊢
  have hz:hp'.length<=120:=by
   rw[pm'.length_eq,List.length_map,List.length_append]
   omega
  have hne:hp' ≠ []:=fun e=>by
   rw[e]at pm'
   have h0:=pm'.length_eq
   rw[List.length_nil,List.length_map,List.length_append]at h0
   have hr:r=[]:=List.length_eq_zero_iff.mp (by omega)
   have hO:O=[]:=List.length_eq_zero_iff.mp (by omega)
   rw[hr,hO]at I
   have:∃ k,k < n/\k ∉ D:=by
    apply Classical.byContradiction
    intro q
    have hsub:∀ x ∈ List.range n,x ∈ D:=fun x hx=>Classical.byContradiction fun z=>q ⟨x,List.mem_range.mp hx,z⟩
    have:=Ax List.nodup_range hsub
    rw[List.length_range]at this;omega
   obtain⟨k,hk,hkD⟩:=this
   exact I.pos (cS G P1 P2) (KN1.all k hk) (fun q=>hkD (mem_nL.mp q)) rfl
  have pp:=Nr (lt:=ltP) hne
  have hmin:=Py eC ho' hne
  obtain⟨x,hx,ex⟩:=List.mem_map.mp (pm'.mem_iff.mp (pp.mem_iff.mp List.mem_cons_self))
  obtain⟨k,hk,rfl⟩:=KN2.k10 x (I2.dk x (.inr hx)).1
  have ex:rk k=(Bn ltP hp').1:=ex
  rw[<- ex]at pp hmin
  obtain⟨d1,d2,d3,d4,e,I3⟩:=I2.done1 hx
  rw[List.nil_append]at I3
  have dn:=I2.dn
  rw[List.nodup_append]at dn
  have hkD:k ∉ D:=fun q=>dn.2.2 _ (mem_nL.mpr q) _ hx rfl
  have KN3:KN n ((S.getReady r).done1 k):=⟨by rw[d4];exact KN2.k10,by rw[d4];exact KN2.all,SState.Bd.dones [(k:Int)] KN2.bd⟩
  have e2:nL D++[(k:Int)]=nL (D++[k]):=by unfold nL;rw[List.map_append];rfl
  rw[e2]at I3
  refine hQ ρ1 H4 hp' k _ rg s4 hne (lim31 (by omega)) ex.symm (.mk hk hkD (fun j hj=>?_) fun y hy hyD hyp=>?_) ⟨[],I2.rd,⟨d1,d2,d3,trivial⟩,KN2.bd,by rw[Au,List.length_nil];omega⟩ (.mk pr _ e P1 P2 I3 KN3 (Nt eC ho') (List.Perm.cons_inv (a:=rk k) (pp.trans (pm'.trans ((List.perm_cons_erase hx).map (rkI rk))))))
  ·have:=(I2.dk k (.inr hx)).2 (j:Int) (by rw[P1 k hk];exact mem_nL.mpr hj)
   exact mem_nL.mp this
  ·have hyO:(y:Int) ∈ O++r:=by
    by_cases q:(y:Int) ∈ O
    ·exact List.mem_append_left _ q
    ·exact List.mem_append_right _ ((I.rm _).mpr ⟨KN1.all y hy,fun z=>hyD (mem_nL.mp z),q,fun p hpz=>by
      rw[P1 y hy]at hpz
      obtain⟨z,hz,rfl⟩:=List.mem_map.mp hpz
      exact mem_nL.mpr (hyp z hz)⟩)
   have h1:=hmin (rk y) (pm'.mem_iff.mpr (List.mem_map.mpr ⟨_,hyO,rfl⟩))
   unfold ltP at h1
   simp only [Bool.or_eq_false_iff,decide_eq_false_iff_not]at h1
   exact Int.not_lt.mp h1.1
theorem dC {k:Nat}{T2:Wp AFlow}(rS:ρ is = .ref aS)(rk':ρ iv = .int (k:Int))(hS:H aS=some (.srt S))(h:∃ r,S.ready=some r/\Kg S [(k:Int)]/\S.Bd (121 * n)/\r.length + 1 * (121 * n) + 1 + 2<=lim)(hq:T2 Q ρ (upd H aS (.srt (S.done1 k)))) :
  Ab (Av (Bv C "done" (vP is) (Af (vP iv) Ak) Je)) T2 Q ρ H:=by
 obtain⟨r,h1,h2,h3,h4⟩:=h
 refine Ru (a:=aS) (ns:=Bk) (vs:=[.int (k:Int)]) (Ae rS) (by unfold Bl;rw[hS]) (by decide) (Ay (Ah rk') rfl) rfl ?_
 exact⟨aS,S,r,[(k:Int)],121 * n,rfl,hS,h1,h2,h3,h4,hq⟩
theorem TI.fin {rn:Nat->Nat}(G:Srs n pre rn)(h:TI n pre rk D hp S)(hD:∀ k,k < n->k ∈ D):∃ r,S.ready=some r/\S.active r=false/\hp=[]:=by
 obtain⟨pr,O,r,P1,P2,I,K,ho,pm⟩:=h
 have hall:∀ x ∈ S.keys,x ∈ nL D:=fun x hx=>by
  obtain⟨k,hk,rfl⟩:=K.k10 x hx
  exact mem_nL.mpr (hD k hk)
 have hO:O=[]:=List.eq_nil_iff_forall_not_mem.mpr fun x hx=>by
  have dn:=I.dn
  rw[List.nodup_append]at dn
  exact dn.2.2 _ (hall x (I.dk x (.inr hx)).1) _ hx rfl
 rw[hO]at I pm
 exact⟨r,I.rd,(I.fin hall).2,List.Perm.eq_nil pm⟩
end
end L08
end Mine
end
section
namespace Mine
namespace L08
noncomputable def gA (Fs:List Addr) (k:Nat):Addr:=Fs.getD k (Fs.getD 0 0)
noncomputable def nu (ns:List Int) (k:Nat):Int:=ns.getD k (ns.getD 0 0)
noncomputable def oE (ns:List Int):List AObj:=ns.map fun x=>.f (.lst false [.int x])
noncomputable abbrev eR (Fs:List Addr) (k:Nat):AV:=.ref (gA Fs k)
noncomputable abbrev oR (Fs:List Addr) (l:List Nat):AObj:=.f (.lst false (l.map (eR Fs)))
noncomputable abbrev ltN (ns:List Int) (x y:Nat):Bool:=decide (nu ns x < nu ns y)
noncomputable def Elm (Fs:List Addr) (ns:List Int) (a:Addr) (H:AH):Prop:=∀ k,H (gA Fs k)=some (.f (.lst false [.int (nu ns k)]))/\gA Fs k ≠ a
noncomputable def emR {Fs:List Addr} {ns:List Int} {a:Addr} {H:AH} (h:Elm Fs ns a H):EmbA H a Nat where
 e:=eR Fs
 lt:=ltN ns
 cmp o x y:=by
  unfold ltV
  rw[Pp ((Aa (h x).2).trans (h x).1),Pp ((Aa (h y).2).trans (h y).1)]
  refine(?_:(match some (nu ns x == nu ns y) with
   | some true=>some false
   | some false=>some (decide (nu ns x < nu ns y))
   | none=>none)=some (decide (nu ns x < nu ns y)))
  by_cases e:nu ns x=nu ns y
  ·have:(nu ns x == nu ns y)=true:=by simp[e]
   rw[this,e]
   exact congrArg some (decide_eq_false (Int.lt_irrefl _)).symm
  ·have:(nu ns x == nu ns y)=false:=by simp[e]
   rw[this]
 ne _:=nofun
 sto _:=rfl
theorem gL {ns:List Int}:Ord (ltN ns) where
 irr x:=decide_eq_false (Int.lt_irrefl _)
 tr x y z h1 h2:=decide_eq_true (Int.lt_trans (of_decide_eq_true h1) (of_decide_eq_true h2))
 nt x y z h1 h2:=decide_eq_false fun h=>absurd (Int.lt_of_lt_of_le h (Int.not_lt.mp (of_decide_eq_false h1))) (of_decide_eq_false h2)
theorem Ml {As Fs:List Addr}{os:List AObj}{ns:List Int}{H:AH}{a:Addr}{d i:Nat}(s:HS As os H)(hl:Fs.length=ns.length)(h0:0 < ns.length)(hF:∀ k,As[k + d]? = Fs[k]?)(ho:∀ k,os[k + d]? = (oE ns)[k]?)(hi:As[i]? = some a)(hd:i < d):Elm Fs ns a H:=by
 have main:∀ k,k < ns.length->H (Fs.getD k (Fs.getD 0 0))=some (.f (.lst false [.int (ns.getD k (ns.getD 0 0))]))/\Fs.getD k (Fs.getD 0 0) ≠ a:=fun k hk=>by
  have hk':k < Fs.length:=by rw[hl];exact hk
  have e1:As[k + d]? = some (Fs.getD k (Fs.getD 0 0)):=by rw[hF,List.getD_eq_getElem?_getD,List.getElem?_eq_getElem hk'];rfl
  have e2:os[k + d]? = some (.f (.lst false [.int (ns.getD k (ns.getD 0 0))])):=by
   rw[ho];unfold oE;rw[List.getElem?_map,List.getD_eq_getElem?_getD,List.getElem?_eq_getElem hk];rfl
  refine⟨s.at' _ _ _ e1 e2,fun e=>?_⟩
  rw[e]at e1
  obtain⟨p1,p2⟩:=List.getElem?_eq_some_iff.mp hi
  obtain⟨q1,q2⟩:=List.getElem?_eq_some_iff.mp e1
  have:=(List.getElem_inj s.nd).mp (p2.trans q2.symm)
  omega
 intro k
 unfold gA nu
 by_cases q:k < ns.length
 ·exact main k q
 ·have z1:Fs.getD k (Fs.getD 0 0)=Fs.getD 0 (Fs.getD 0 0):=by
   have hk':Fs.length<=k:=by rw[hl];exact Nat.le_of_not_lt q
   have h0':0 < Fs.length:=by rw[hl];exact h0
   rw[List.getD_eq_getElem?_getD,List.getElem?_eq_none hk',List.getD_eq_getElem?_getD (i:=0),List.getD_eq_getElem?_getD (i:=0),List.getElem?_eq_getElem h0'];rfl
  have z2:ns.getD k (ns.getD 0 0)=ns.getD 0 (ns.getD 0 0):=by
   rw[List.getD_eq_getElem?_getD,List.getElem?_eq_none (Nat.le_of_not_lt q),List.getD_eq_getElem?_getD (i:=0),List.getD_eq_getElem?_getD (i:=0),List.getElem?_eq_getElem h0];rfl
  rw[z1,z2]
  exact main 0 h0
theorem iO {Fs:List Addr}{n:Nat}(h:Fs.length=n):Fs.map AV.ref=(List.range n).map (eR Fs):=by
 apply List.ext_getElem
 ·rw[List.length_map,List.length_map,List.length_range,h]
 ·intro i h1 h2
  rw[List.length_map]at h1
  rw[List.getElem_map,List.getElem_map,List.getElem_range]
  unfold eR gA
  rw[List.getD_eq_getElem?_getD,List.getElem?_eq_getElem h1];rfl
theorem So {Fs:List Addr}{l:List Nat}:AV.stos (l.map (eR Fs))=true:=stos_iff.mpr fun v hv=>by
 obtain⟨k,_,rfl⟩:=List.mem_map.mp hv
 rfl
noncomputable def Reg (xs ns:List Int) (n:Nat) (aR aO aU aD:Addr) (ρ:Rho):Prop:=ρ 0 = .fl (xs.map .int)/\ρ 1 = .fl (ns.map .int)/\ρ 2 = .int (n:Int)/\ρ 3 = .ref aR/\ρ 4 = .ref aO/\ρ 5 = .ref aU/\ρ 6 = .ref aD
section
variable {C:Cx} {T':Wp AFlow} {Q:AFlow->Rho->AH->Prop} {ρ:Rho} {H:AH}
theorem ph7 {xs:List Int}(r0:ρ 0 = .fl (xs.map .int))(hz:xs.length<=63)
  (hQ:∀ ρ2 H2 ns Fs aR aO aU aD,4<=ns.length->ns.length<=24->Fs.length=ns.length->Reg xs ns ns.length aR aO aU aD ρ2->HS (aD :: aU :: aO :: aR :: Fs) (.srt .empty :: .srt .empty :: oR Fs (Bm (ltN ns) (List.range ns.length)) :: oR Fs (List.range ns.length) :: oE ns) H2->T' Q ρ2 H2) :
  Ab st1 (Ab st2 (Ab st3 (Ab st4 (Ab st5 (Ab st6 (Ab st7 T')))))) Q ρ H:=by
 have hlz:(xs.map AV.int).length<=lim:=by rw[List.length_map,Au];exact Nat.le_trans hz (by decide)
 have hm:min xs.length 20<=20:=Nat.min_le_right _ _
 generalize hm':min xs.length 20=m at hm
 have lm:bP' Yh (Af (bP' Fw (Af (vP 0) Ak)) (Af (cP (.int 20)) Ak)) ρ H=some (.int (m:Int)):=by
  refine(eX (b:=20) (Vw (vs:=[.fl (xs.map .int)]) (v:=.int (xs.length:Int)) (Ay (Nl r0) rfl) ?_) rfl).trans (congrArg (fun z=>some (AV.int z)) (by omega))
  refine(?_:some (AV.int (((xs.map AV.int).length:Nat):Int))=_)
  rw[List.length_map]
 generalize hg:(fun k:Nat=>(Xv xs (some (k:Int)) none (some 20)).sum)=g
 have e1:Fr (Hc (Af (bP' Yh (Af (bP' Fw (Af (vP 0) Ak)) (Af (cP (.int 20)) Ak))) Ak)) (.one 14) ttC (Fx (bP' Ul (Af (Jt (Ec (Un (vP 0) (Lz (vP 14)) noP (Lz (cP (.int 20)))))) Ak))) (.lst false []) ρ H=some (.lst false (tb m fun k=>.int (g k))):=by
  refine iB (Va lm (Nat.le_trans hm (by decide))) (fun i hi=>⟨?_,rfl⟩) (by rw[Au];exact Nat.le_trans hm (by decide))
  refine Vw (Ay (Pb (lk:=false) (Zb (Mj (Nl (i:=0) (vs:=xs.map .int) (by exact r0)) rfl) (Tx (Ah rfl)) rfl (Tx (v:=20) rfl) nofun hlz (Ba _))) rfl) ?_
  refine(?_:(Nu H _).map _=_)
  rw[Rz,Qa,<- hg];rfl
 generalize hns:((List.range m).map g++[7,3,5,1])=ns
 have hln:ns.length=m + 4:=by rw[<- hns,List.length_append,List.length_map,List.length_range];rfl
 have n4:4<=ns.length:=by omega
 have n24:ns.length<=24:=by omega
 have nz:ns.length<=lim:=by rw[Au];exact Nat.le_trans n24 (by decide)
 clear hm' lm hm hln
 unfold st1
 refine Pu (v:=.fl (ns.map .int)) (Pb (lk:=false) (Oz (vs:=ns.map .int) ?_ (by rw[List.length_map];exact nz) (Ba _))) (Ba _) ?_
 ·refine(fA (vs:=tb m fun k=>.int (g k)) (ws:=[.int 7,.int 3,.int 5,.int 1]) (Mj (Pb (lk:=false) e1) rfl) (Mj (v:=.fl [.int 7,.int 3,.int 5,.int 1]) rfl rfl)).trans ?_
  rw[<- hns,List.map_append,List.map_map];rfl
 clear e1 hns hg
 unfold st2
 refine Pu (v:=.int (ns.length:Int)) (Vw (vs:=[.fl (ns.map .int)]) (Ay (Nl rfl) rfl) ?_) rfl ?_
 ·refine(?_:some (AV.int (((ns.map AV.int).length:Nat):Int))=_)
  rw[List.length_map]
 generalize hρ:Rho.set _ 2 (.int (ns.length:Int))=ρ1
 have g0:ρ1 0 = .fl (xs.map .int):=by rw[<- hρ];exact r0
 have g1:ρ1 1 = .fl (ns.map .int):=by rw[<- hρ];rfl
 have g2:ρ1 2 = .int (ns.length:Int):=by rw[<- hρ];rfl
 clear hρ
 unfold st3
 refine⟨ns.map .int,eY (Nl g1) rfl,Ba _,fun aR fR=>?_⟩
 refine Mq (fun i H=>∃ Fs,Fs.length=i/\HS (aR :: Fs) (.f (.lst false (Fs.map .ref)) :: oE (ns.take i)) H) ⟨[],rfl,HS.one (H:=upd H aR (.f (.lst false []))) Ad⟩ ?_ ?_
 ·rintro i v H1 K' hv ⟨Fs,hF,s⟩ hK
  rw[List.getElem?_map]at hv
  obtain⟨x,hx,rfl⟩:=Option.map_eq_some_iff.mp hv
  have hi:=(List.getElem?_eq_some_iff.mp hx).1
  refine⟨(und [13] ρ1).set 13 (.int x),rfl,true,rfl,fun z0=>?_,fun z=>nomatch z⟩
  refine⟨.lst false [.int x],Oz (Ay (Ah rfl) rfl) (by rw[Au];exact(by decide:1<=1048576)) rfl,fun b fb=>⟨_,(s.fresh fb).get 0 rfl rfl,rfl,?_,hK _ ⟨Fs++[b],by rw[List.length_append,hF];rfl,?_⟩⟩⟩
  ·rw[List.length_map,hF];exact Nat.lt_of_lt_of_le hi nz
  ·have s2:HS (aR :: (Fs++[b])) (.f (.lst false (Fs.map .ref)) :: (oE (ns.take i)++[.f (.lst false [.int x])])) (upd H1 b (.f (.lst false [.int x]))):=s.snoc fb
   have e2:oE (ns.take i)++[.f (.lst false [.int x])]=oE (ns.take (i + 1)):=by unfold oE;rw[List.take_succ,hx,List.map_append];rfl
   rw[e2]at s2
   have e3:Fs.map AV.ref++[.ref b]=(Fs++[b]).map .ref:=by rw[List.map_append];rfl
   rw[e3]
   exact s2.set 0 rfl
 rintro H1 ⟨Fs,hF,s1⟩
 rw[List.length_map]at hF s1
 rw[List.take_length,iO hF]at s1
 dsimp only
 generalize hρ:Rho.set ρ1 3 (.ref aR)=ρ2
 have k0:ρ2 0 = .fl (xs.map .int):=by rw[<- hρ];exact g0
 have k1:ρ2 1 = .fl (ns.map .int):=by rw[<- hρ];exact g1
 have k2:ρ2 2 = .int (ns.length:Int):=by rw[<- hρ];exact g2
 have k3:ρ2 3 = .ref aR:=by rw[<- hρ];rfl
 clear hρ g0 g1 g2
 have lr:((List.range ns.length).map (eR Fs)).length<=lim:=by rw[List.length_map,List.length_range];exact nz
 unfold st4
 refine Lv (o:=.lst false ((List.range ns.length).map (eR Fs))) ((Zb (x:=none) (y:=none) (z:=none) (Mj (Ae k3) (Pp (s1.get 0 rfl rfl))) rfl rfl rfl nofun lr So).trans (by rw[Xu])) fun aO fO=>?_
 have s2:HS (aO :: aR :: Fs) (oR Fs (List.range ns.length) :: oR Fs (List.range ns.length) :: oE ns) (upd H1 aO (oR Fs (List.range ns.length))):=s1.cons fO
 refine(?_:Ab _ _ _ _ (upd H1 aO (oR Fs (List.range ns.length))))
 generalize (upd H1 aO (oR Fs (List.range ns.length)))=H2 at s2 ⊢
 have E:Elm Fs ns aO H2:=Ml (d:=2) (i:=0) s2 hF (by omega) (fun k=>rfl) (fun k=>rfl) rfl (by decide)
 unfold st5
 refine Xm (vs:=[.ref aO]) (Ay (Ae rfl) rfl) rfl (Ng (emR E) (xs:=List.range ns.length) (s2.get 0 rfl rfl) (by rw[List.length_range];exact Nat.le_trans n24 (by decide)) ?_)
 have s3:HS (aO :: aR :: Fs) (oR Fs (Bm (ltN ns) (List.range ns.length)) :: oR Fs (List.range ns.length) :: oE ns) (upd H2 aO (oR Fs (Bm (ltN ns) (List.range ns.length)))):=s2.set 0 rfl
 refine(?_:Ab _ _ _ _ (upd H2 aO (oR Fs (Bm (ltN ns) (List.range ns.length)))))
 generalize (upd H2 aO (oR Fs (Bm (ltN ns) (List.range ns.length))))=H3 at s3 ⊢
 unfold st6
 refine cN (vs:=[]) rfl rfl ⟨rfl,fun aU fU=>?_⟩
 have s4:=s3.cons (o:=.srt .empty) fU
 generalize (upd H3 aU (.srt .empty))=H4 at s4 ⊢
 unfold st7
 refine cN (vs:=[]) rfl rfl ⟨rfl,fun aD fD=>?_⟩
 exact hQ _ _ ns Fs aR aO aU aD n4 n24 hF ⟨k0,k1,k2,k3,rfl,rfl,rfl⟩ (s4.cons (o:=.srt .empty) fD)
end
end L08
end Mine
end
section
namespace Mine
namespace L08
noncomputable def rk1 (xs:List Int) (k:Nat):Int × Int:=((xs.take 63).sum * (k:Int) % 97,(k:Int))
inductive L1 (xs ns:List Int) (Fs:List Addr) (SD:SState) (hf:List Nat) (aH aD aU aO aR:Addr) (ρ:Rho) (i:Nat) (ρ':Rho) (H:AH):Prop
 | mk (D:List Nat) (hp:List (Int × Int)) (S:SState) (cur:List Nat) (hD:D.length=i) (nd:D.Nodup) (hlt:∀ d ∈ D,d < ns.length) (rg:∀ j,j ≠ 7->j ≠ 9->ρ' j=ρ j) (s:HS (aH :: aD :: aU :: aO :: aR :: Fs) (oH hp :: .srt SD :: .srt S :: oR Fs hf :: oR Fs cur :: oE ns) H) (T:TI ns.length (upP (ns.length - 1)) (rk1 xs) D hp S) (U:Up (ltN ns) (List.range ns.length) cur D)
section
variable {C:Cx} {T':Wp AFlow} {Q K:AFlow->Rho->AH->Prop} {ρ:Rho} {H:AH} {xs ns:List Int} {Fs:List Addr} {aH aD aU aO aR:Addr} {SU SD:SState} {hf:List Nat}
theorem wT {A B:Prop}(h:A):(if true=true then A else B):=h
theorem gD {D:List Nat}{k n:Nat}(nd:D.Nodup)(hlt:∀ d ∈ D,d < n)(hk:k < n)(hkD:k ∉ D):(D++[k]).Nodup/\∀ d ∈ D++[k],d < n:=by
 constructor
 ·rw[List.nodup_append]
  exact⟨nd,List.nodup_cons.mpr ⟨List.not_mem_nil,List.nodup_nil⟩,fun a ha b hb e=>hkD (by rw[<- List.mem_singleton.mp hb,<- e];exact ha)⟩
 ·intro d hd
  exact(List.mem_append.mp hd).elim (hlt d) fun h=>by rw[List.mem_singleton.mp h];exact hk
theorem iW {D:List Nat}{n:Nat}(nd:D.Nodup)(hlt:∀ d ∈ D,d < n)(hl:D.length=n):∀ k,k < n->k ∈ D:=fun k hk=>by
 apply Decidable.byContradiction
 intro hn
 have:=Ax (l:=k :: D) (m:=List.range n) (List.nodup_cons.mpr ⟨hn,nd⟩) fun x hx=>List.mem_range.mpr ((List.mem_cons.mp hx).elim (fun e=>e ▸ hk) (hlt x))
 rw[List.length_range,List.length_cons,hl]at this
 exact absurd this (Nat.not_succ_le_self n)
theorem iR (n4:4<=ns.length)(n24:ns.length<=24)(hF:Fs.length=ns.length)(rg:Reg xs ns ns.length aR aO aU aD ρ)(r8:ρ 8 = .ref aH)(hz:xs.length<=63)(s:HS (aH :: aD :: aU :: aO :: aR :: Fs) (oH [] :: .srt SD :: .srt SU :: oR Fs hf :: oR Fs (List.range ns.length) :: oE ns) H)(hU:SRd ns.length (upP (ns.length - 1)) SU)
  (hQ:∀ ρ2 H2 S r,(∀ j,j ≠ 7->j ≠ 9->ρ2 j=ρ j)->HS (aH :: aD :: aU :: aO :: aR :: Fs) (oH [] :: .srt SD :: .srt S :: oR Fs hf :: oR Fs (Bm (ltN ns) (List.range ns.length)) :: oE ns) H2->S.ready=some r->S.active r=false->T' Q ρ2 H2) :
  Ab (dR C) T' Q ρ H:=by
 have h0:0 < ns.length:=by omega
 have G:=Wu h0 (Nat.le_trans n24 (by decide))
 obtain⟨r0,r1,r2,r3,r4,r5,r6⟩:=rg
 unfold dR
 refine Rv (Va (n:=ns.length) (Ah r2) (Nat.le_trans n24 (by decide))) (Gl fun z0 z0=>rfl) ?_
 refine bZ (L1 xs ns Fs SD hf aH aD aU aO aR ρ) (.mk [] [] SU (List.range ns.length) rfl List.nodup_nil (fun d h=>absurd h List.not_mem_nil) (fun j z0 z0=>rfl) s (.start hU) .nil) ?_ ?_
 ·rintro i ρ1 H1 K' hi ⟨D,hp,S,cur,hD,nd,hlt,rg,s,T,U⟩ hK
  have rg':∀ j,j ≠ 7->j ≠ 9->(ρ1.set 9 (.int (i:Int))) j=ρ j:=fun j h1 h2=>(Dc h2).trans (rg j h1 h2)
  generalize (ρ1.set 9 (.int (i:Int)))=ρ2 at rg' ⊢
  refine Xq (n:=ns.length) (rk:=rk1 xs) (is:=5) (ih:=8) (iv:=7) G (fun k=>rfl) (by rw[hD];exact hi) ((rg' 5 (by decide) (by decide)).trans r5) ((rg' 8 (by decide) (by decide)).trans r8) (by decide) (by decide) s So T ?_ ?_
  ·intro k ρ3 H3 o1 o2 o3 o4 hk q q7 z0
   have q0:ρ3 0 = .fl (xs.map .int):=(q 0 (by decide)).trans ((rg' 0 (by decide) (by decide)).trans r0)
   have sm:bP' Ul (Af (Jt (Ec (Td 63 (Jm (vP 0))))) Ak) ρ3 H3=some (.int (xs.take 63).sum):=by
    refine Vw (Ay (Pb (lk:=false) (Oz (vs:=(xs.take 63).map .int) ?_ (by rw[List.length_map,List.length_take,Au];omega) (Ba _))) rfl) ?_
    ·unfold Td
     rw[Mj (Nl q0) rfl]
     exact congrArg some List.map_take.symm
    ·refine(?_:(Nu H3 _).map _=_)
     rw[Qa];rfl
   exact dB (eW (b:=97) (Zc sm (Ah q7) (by rw[Int.natAbs_natCast];exact Nat.lt_of_lt_of_le (Nat.lt_of_lt_of_le hk n24) (by decide))) rfl (by decide)) (Ah q7)
  ·intro ρ3 H3 hp2 k S2 q s2 hne hpl ex N hdn T2
   obtain⟨hk,hkD,hch,-⟩:=N
   have w:∀ j,j ≠ 7->j ≠ 9->ρ3 j=ρ j:=fun j h1 h2=>(q j h1).trans (rg' j h1 h2)
   refine⟨[.ref aH],Ay (Ae ((w 8 (by decide) (by decide)).trans r8)) rfl,rfl,Iz (M:=embP) (s2.get 0 rfl rfl) hpl hne ?_⟩
   refine⟨.int 1,.int (k:Int),rfl,?_,rfl,?_⟩
   ·refine(?_:some (AV.int (Bn ltP hp2).1.2)=_)
    rw[ex];rfl
   have s3:HS (aH :: aD :: aU :: aO :: aR :: Fs) (oH (Bn ltP hp2).2 :: .srt SD :: .srt S2 :: oR Fs hf :: oR Fs cur :: oE ns) (upd H3 aH (oH (Bn ltP hp2).2)):=s2.set 0 rfl
   refine(?_:Ab _ _ _ _ (upd H3 aH (oH (Bn ltP hp2).2)))
   generalize (upd H3 aH (oH (Bn ltP hp2).2))=H4 at s3 ⊢
   have w':∀ j,j ≠ 7->j ≠ 9->(ρ3.set 7 (.int (k:Int))) j=ρ j:=fun j h1 h2=>(Dc h1).trans (w j h1 h2)
   have w7:(ρ3.set 7 (.int (k:Int))) 7 = .int (k:Int):=rfl
   generalize (ρ3.set 7 (.int (k:Int)))=ρ4 at w' w7 ⊢
   have U2:=U.step (k:=k) (by rw[List.length_range];exact hk) hkD (fun h=>hch _ (upP_mem.mpr (by rw[List.length_range]at h;omega))) (fun h=>hch _ (upP_mem.mpr (by rw[List.length_range]at h;omega)))
   have cl:cur.length=ns.length:=U.ln.trans List.length_range
   have c1:∀ H,Aw ltV (opP (iop Fy) (opP (iop Le) (cP (.int 2)) (vP 7)) (cP (.int 1))) (vP 2) ρ4 H=some (decide (2 * k + 1 < ns.length)):=fun H =>
    (Pc (fB (b:=1) (Zc (a:=2) rfl (Ah w7) (by rw[Int.natAbs_natCast];exact Nat.lt_of_lt_of_le (Nat.lt_of_lt_of_le hk n24) (by decide))) rfl) (Ah ((w' 2 (by decide) (by decide)).trans r2)) rfl).trans (congrArg some (decide_eq_decide.mpr (by omega)))
   obtain⟨nd2,hlt2⟩:=gD nd hlt hk hkD
   have fin:∀ {H5},HS (aH :: aD :: aU :: aO :: aR :: Fs) (oH (Bn ltP hp2).2 :: .srt SD :: .srt S2 :: oR Fs hf :: oR Fs (upd1 (ltN ns) cur k) :: oE ns) H5->Ab (Av (Bv C "done" (vP 5) (Af (vP 7) Ak) Je)) Ag K' ρ4 H5:=fun {H5} s5=>by
    refine dC ((w' 5 (by decide) (by decide)).trans r5) w7 (s5.get 2 rfl rfl) hdn ?_
    exact(hK ρ4 _ (.mk (D++[k]) _ _ _ (by rw[List.length_append,hD];rfl) nd2 hlt2 w' (s5.set 2 rfl) T2 U2)).1
   refine⟨decide (2 * k + 1 < ns.length),c1 _,?_⟩
   by_cases e:2 * k + 1 < ns.length
   ·rw[decide_eq_true e]
    refine wT ?_
    have E:Elm Fs ns aR H4:=Ml (d:=5) (i:=4) s3 hF h0 (fun k=>rfl) (fun k=>rfl) rfl (by decide)
    refine⟨[.ref aR,.int (k:Int)],Ay (Ae ((w' 3 (by decide) (by decide)).trans r3)) (Ay (Ah w7) rfl),rfl,Ez (emR E) (xs:=cur) (s3.get 4 rfl rfl) (by rw[cl];exact hk) (by rw[cl,Au];exact Nat.le_trans n24 (by decide)) ?_⟩
    refine⟨.none,rfl,rfl,false,rfl,?_⟩
    have eu:upd1 (ltN ns) cur k=Ap (ltN ns) cur k:=if_pos (by rw[cl];exact e)
    rw[eu]at fin
    exact fin (s3.set (o:=oR Fs (Ap (ltN ns) cur k)) 4 rfl)
   ·rw[decide_eq_false e]
    have eu:upd1 (ltN ns) cur k=cur:=if_neg (by rw[cl];exact e)
    rw[eu]at fin
    exact fin s3
 ·rintro ρ1 H1 ⟨D,hp,S,cur,hD,nd,hlt,rg,s,T,U⟩
  have hall:=iW nd hlt hD
  obtain⟨r,e1,e2,rfl⟩:=T.fin G hall
  rw[U.fin fun k hk=>hall k (by rw[List.length_range]at hk;exact hk)]at s
  exact hQ ρ1 H1 S r rg s e1 e2
theorem same {n:Nat}(hn:n<=1000)(hl:hf.length=n)(r2:ρ 2 = .int (n:Int))(r3:ρ 3 = .ref aR)(r4:ρ 4 = .ref aO)(hR:H aR=some (oR Fs hf))(hO:H aO=some (oR Fs hf))(hQ:∀ ρ2,(∀ j,j ≠ 7->ρ2 j=ρ j)->T' Q ρ2 H) :
  Ab (Ib (Hc (Af (vP 2) Ak)) (.one 7) (Ab (ifT (Az (Aw isNotR (opP idx (vP 3) (vP 7)) (opP idx (vP 4) (vP 7)))) (Ab (Hd (Am (cP (.bool false)))) Ag) Ag) Ag)) T' Q ρ H:=by
 refine Rv (Va (n:=n) (Ah r2) (Nat.le_trans hn (by decide))) (Gl fun z0 z0=>rfl) ?_
 refine bZ (fun i ρ' H'=>(∀ j,j ≠ 7->ρ' j=ρ j)/\H' = H) ⟨fun z0 z0=>rfl,rfl⟩ ?_ ?_
 ·rintro i ρ1 H1 K' hi ⟨r,rfl⟩ hK
  have q:∀ j,j ≠ 7->(ρ1.set 7 (.int (i:Int))) j=ρ j:=fun j hj=>(Dc hj).trans (r j hj)
  have hi':i < hf.length:=by rw[hl];exact hi
  have gi:(hf.map (eR Fs))[i]? = some (eR Fs hf[i]):=by rw[List.getElem?_map,List.getElem?_eq_getElem hi'];rfl
  refine Pv (Pc (Pa (Ae ((q 3 (by decide)).trans r3)) (Ah rfl) (Ys hR gi)) (Pa (Ae ((q 4 (by decide)).trans r4)) (Ah rfl) (Ys hO gi)) (if_pos ⟨_,rfl,rfl⟩)) ?_
  exact(hK _ _ ⟨q,rfl⟩).1
 ·rintro ρ1 H1 ⟨r,rfl⟩
  exact hQ ρ1 r
end
end L08
end Mine
end
section
namespace Mine
theorem HS.swap {a b:Addr}{As:List Addr}{o p:AObj}{os:List AObj}{H:AH}(h:HS (a :: b :: As) (o :: p :: os) H):HS (b :: a :: As) (p :: o :: os) H:=by
 refine⟨(List.Perm.swap a b As).nodup_iff.mpr h.nd,h.ln,fun i c q hc hq=>?_⟩
 match i with
 | 0=>exact h.at' 1 c q hc hq
 | 1=>exact h.at' 0 c q hc hq
 | i + 2=>exact h.at' (i + 2) c q hc hq
theorem HS.under3 {d e c a b:Addr}{As:List Addr}{x y r o p:AObj}{os:List AObj}{H:AH}(h:HS (d :: e :: c :: a :: b :: As) (x :: y :: r :: o :: p :: os) H):HS (d :: e :: c :: b :: a :: As) (x :: y :: r :: p :: o :: os) H:=by
 refine⟨((((List.Perm.swap a b As).cons c).cons e).cons d).nodup_iff.mpr h.nd,h.ln,fun i c q hc hq=>?_⟩
 match i with
 | 0=>exact h.at' 0 c q hc hq
 | 1=>exact h.at' 1 c q hc hq
 | 2=>exact h.at' 2 c q hc hq
 | 3=>exact h.at' 4 c q hc hq
 | 4=>exact h.at' 3 c q hc hq
 | i + 5=>exact h.at' (i + 5) c q hc hq
namespace L08
noncomputable abbrev oT (l:List Int):AObj:=.f (.lst false (l.map .int))
noncomputable abbrev vH (ns:List Int) (hf:List Nat) (y:Nat):Int:=nu ns (hf.getD y 0)
inductive L2 (ns:List Int) (Fs:List Addr) (SU:SState) (hf:List Nat) (aH aT aD aO aU aR:Addr) (ρ:Rho) (i:Nat) (ρ':Rho) (H:AH):Prop
 | mk (D:List Nat) (hp:List (Int × Int)) (S:SState) (hD:D.length=i) (rg:∀ j,j ≠ 7->j ≠ 9->j ≠ 11->ρ' j=ρ j) (s:HS (aH :: aT :: aD :: aO :: aU :: aR :: Fs) (oH hp :: oT (D.map (vH ns hf)) :: .srt S :: oR Fs hf :: .srt SU :: oR Fs hf :: oE ns) H) (T:TI ns.length (dnP (ns.length - 1)) (fun k=>(vH ns hf k,(k:Int))) D hp S) (N:Dn ns.length (vH ns hf) D)
section
variable {C:Cx} {T':Wp AFlow} {Q K:AFlow->Rho->AH->Prop} {ρ:Rho} {H:AH} {xs ns:List Int} {Fs:List Addr} {aH aT aD aU aO aR:Addr} {SU SD:SState} {hf:List Nat}
theorem iQ (n4:4<=ns.length)(n24:ns.length<=24)(hF:Fs.length=ns.length)(rg:Reg xs ns ns.length aR aO aU aD ρ)(r8:ρ 8 = .ref aH)(r10:ρ 10 = .ref aT)(hl:hf.length=ns.length)(hh:Cc (ltN ns) hf)(s:HS (aH :: aT :: aD :: aO :: aU :: aR :: Fs) (oH [] :: oT [] :: .srt SD :: oR Fs hf :: .srt SU :: oR Fs hf :: oE ns) H)(hU:SRd ns.length (dnP (ns.length - 1)) SD)
  (hQ:∀ ρ2 H2 S r D,(∀ j,j ≠ 7->j ≠ 9->j ≠ 11->ρ2 j=ρ j)->HS (aH :: aT :: aD :: aO :: aU :: aR :: Fs) (oH [] :: oT (D.map (vH ns hf)) :: .srt S :: oR Fs hf :: .srt SU :: oR Fs hf :: oE ns) H2->S.ready=some r->S.active r=false->Dn ns.length (vH ns hf) D->D.length=ns.length->T' Q ρ2 H2) :
  Ab (dQ C) T' Q ρ H:=by
 have h0:0 < ns.length:=by omega
 have G:=Zh h0 (Nat.le_trans n24 (by decide))
 have hv:∀ i,0 < i->i < ns.length->vH ns hf ((i - 1) / 2)<=vH ns hf i:=fun i h0 hi=>Int.not_lt.mp (of_decide_eq_false (hh i h0 (by rw[hl];exact hi) (Nat.zero_le _)))
 obtain⟨r0,r1,r2,r3,r4,r5,r6⟩:=rg
 unfold dQ
 refine Rv (Va (n:=ns.length) (Ah r2) (Nat.le_trans n24 (by decide))) (Gl fun z0 z0=>rfl) ?_
 refine bZ (L2 ns Fs SU hf aH aT aD aO aU aR ρ) (.mk [] [] SD rfl (fun j z0 z0 z0=>rfl) s (.start hU) .nil) ?_ ?_
 ·rintro i ρ1 H1 K' hi ⟨D,hp,S,hD,rg,s,T,N⟩ hK
  have rg':∀ j,j ≠ 7->j ≠ 9->j ≠ 11->(ρ1.set 9 (.int (i:Int))) j=ρ j:=fun j h1 h2 h3=>(Dc h2).trans (rg j h1 h2 h3)
  generalize (ρ1.set 9 (.int (i:Int)))=ρ2 at rg' ⊢
  refine Xq (n:=ns.length) (rk:=fun k=>(vH ns hf k,(k:Int))) (is:=6) (ih:=8) (iv:=7) G (fun k=>rfl) (by rw[hD];exact hi) ((rg' 6 (by decide) (by decide) (by decide)).trans r6) ((rg' 8 (by decide) (by decide) (by decide)).trans r8) (by decide) (by decide) s So T ?_ ?_
  ·intro k ρ3 H3 o1 o2 o3 o4 hk q q7 s3
   have q3:ρ3 3 = .ref aR:=(q 3 (by decide)).trans ((rg' 3 (by decide) (by decide) (by decide)).trans r3)
   have E:Elm Fs ns aR H3:=Ml (d:=6) (i:=5) s3 hF h0 (fun k=>rfl) (fun k=>rfl) rfl (by decide)
   have hk':k < hf.length:=by rw[hl];exact hk
   have gk:(hf.map (eR Fs))[k]? = some (eR Fs (hf.getD k 0)):=by rw[List.getElem?_map,List.getD_eq_getElem?_getD,List.getElem?_eq_getElem hk'];rfl
   exact dB (Pa (Pa (Ae q3) (Ah q7) (Ys (s3.get 5 rfl rfl) gk)) (w:=.int ((0:Nat):Int)) rfl (Ys (E (hf.getD k 0)).1 rfl)) (Ah q7)
  ·intro ρ3 H3 hp2 k S2 q s2 hne hpl ex Nx hdn T2
   obtain⟨hk,hkD,-,mn⟩:=Nx
   have w:∀ j,j ≠ 7->j ≠ 9->j ≠ 11->ρ3 j=ρ j:=fun j h1 h2 h3=>(q j h1).trans (rg' j h1 h2 h3)
   refine iL (ρ':=ρ3) (vs:=[.ref aH]) (Ay (Ae ((w 8 (by decide) (by decide) (by decide)).trans r8)) rfl) rfl (Iz (M:=embP) (s2.get 0 rfl rfl) hpl hne ?_)
   refine⟨(ρ3.set 11 (.int (vH ns hf k))).set 7 (.int (k:Int)),?_,?_⟩
   ·refine(?_:some ((ρ3.set 11 (.int (Bn ltP hp2).1.1)).set 7 (.int (Bn ltP hp2).1.2))=_)
    rw[ex]
   have s3:HS (aH :: aT :: aD :: aO :: aU :: aR :: Fs) (oH (Bn ltP hp2).2 :: oT (D.map (vH ns hf)) :: .srt S2 :: oR Fs hf :: .srt SU :: oR Fs hf :: oE ns) (upd H3 aH (oH (Bn ltP hp2).2)):=s2.set 0 rfl
   refine(?_:Ab _ _ _ _ (upd H3 aH (oH (Bn ltP hp2).2)))
   generalize (upd H3 aH (oH (Bn ltP hp2).2))=H4 at s3 ⊢
   have w':∀ j,j ≠ 7->j ≠ 9->j ≠ 11->((ρ3.set 11 (.int (vH ns hf k))).set 7 (.int (k:Int))) j=ρ j:=fun j h1 h2 h3=>(Dc h1).trans ((Dc h3).trans (w j h1 h2 h3))
   have w7:((ρ3.set 11 (.int (vH ns hf k))).set 7 (.int (k:Int))) 7 = .int (k:Int):=rfl
   have w11:((ρ3.set 11 (.int (vH ns hf k))).set 7 (.int (k:Int))) 11 = .int (vH ns hf k):=rfl
   generalize ((ρ3.set 11 (.int (vH ns hf k))).set 7 (.int (k:Int)))=ρ4 at w' w7 w11 ⊢
   have e1:(D.map (vH ns hf)).map AV.int++[.int (vH ns hf k)]=((D++[k]).map (vH ns hf)).map .int:=by rw[List.map_append,List.map_append];rfl
   refine gG (Ae ((w' 10 (by decide) (by decide) (by decide)).trans r10)) (Pp (s3.get 1 rfl rfl)) (Ah w11) (dZ (ws:=(D.map (vH ns hf)).map AV.int++[.int (vH ns hf k)]) (s3.get 1 rfl rfl) (by rw[e1,List.length_map,List.length_map,List.length_append,hD,Au];exact Nat.le_trans (Nat.succ_le_of_lt (Nat.lt_of_lt_of_le hi n24)) (by decide)) (by rw[e1];exact Ba _)) ?_
   rw[e1]
   have s4:HS (aH :: aT :: aD :: aO :: aU :: aR :: Fs) (oH (Bn ltP hp2).2 :: oT ((D++[k]).map (vH ns hf)) :: .srt S2 :: oR Fs hf :: .srt SU :: oR Fs hf :: oE ns) (upd H4 aT (oT ((D++[k]).map (vH ns hf)))):=s3.set 1 rfl
   refine(?_:Ab _ _ _ _ (upd H4 aT (oT ((D++[k]).map (vH ns hf)))))
   generalize (upd H4 aT (oT ((D++[k]).map (vH ns hf))))=H5 at s4 ⊢
   refine dC ((w' 6 (by decide) (by decide) (by decide)).trans r6) w7 (s4.get 2 rfl rfl) hdn ?_
   refine(hK ρ4 _ (.mk (D++[k]) _ _ (by rw[List.length_append,hD];rfl) w' (s4.set 2 rfl) T2 (N.step hk hkD hv fun y hy hyD hyp=>mn y hy hyD fun j hj=>?_))).1
   obtain⟨p1,p2⟩:=dn_mem.mp hj
   rcases hyp with e | e
   ·omega
   ·rw[p2];exact e
 ·rintro ρ1 H1 ⟨D,hp,S,hD,rg,s,T,N⟩
  obtain⟨r,e1,e2,rfl⟩:=T.fin G (N.all hD)
  exact hQ ρ1 H1 S r D rg s e1 e2 N hD
theorem Qs:∀ {l:List Int},eqL (eqA 6) (l.map .int) (l.map .int)=some true
 | []=>rfl
 | a :: l=>by
  refine(?_:(match some (a == a),eqL (eqA 6) (l.map AV.int) (l.map .int) with
   | some b,some c=>some (b && c)
   | _,_=>none)=some true)
  rw[Qs,beq_self_eq_true];rfl
theorem Qr {H:AH}{l:List Int}{v w:AV}(h1:Bf H v=some (l.map .int))(h2:Bf H w=some (l.map .int)):eqV H v w=some true:=by
 unfold eqV
 rw[h1,h2]
 refine(?_:(if (l.map AV.int).length ≠ (l.map AV.int).length then some false else eqL (eqA 6) (l.map .int) (l.map .int))=_)
 rw[if_neg fun q=>q rfl,Qs]
theorem iV {H:AH}{v:AV}{vs:List AV}(h:Bf H v=some vs):eqV H v (.fl [])=some vs.isEmpty:=by
 unfold eqV
 rw[h]
 clear h;cases vs <;> rfl
theorem Ma {ns:List Int}:(List.range ns.length).map (nu ns)=ns:=by
 apply List.ext_getElem
 ·rw[List.length_map,List.length_range]
 ·intro i h1 h2
  rw[List.getElem_map,List.getElem_range]
  unfold nu
  rw[List.getD_eq_getElem?_getD,List.getElem?_eq_getElem h2];rfl
theorem iP (n4:4<=ns.length)(n24:ns.length<=24)(hF:Fs.length=ns.length)(rg:Reg xs ns ns.length aR aO aU aD ρ)(r10:ρ 10 = .ref aT)(hh:Cc (ltN ns) hf)(pm:hf.Perm (List.range ns.length)){D:List Nat}{r r':List Int}(s:HS (aH :: aT :: aD :: aO :: aU :: aR :: Fs) (oH [] :: oT (D.map (vH ns hf)) :: .srt SD :: oR Fs hf :: .srt SU :: oR Fs hf :: oE ns) H)
  (hr:SU.ready=some r) (ha:SU.active r=false) (hr':SD.ready=some r') (ha':SD.active r' = false) (N:Dn ns.length (vH ns hf) D) (hD:D.length=ns.length) (hQ:∀ ρ' H',Q (.ret (.bool true)) ρ' H'):Ab (dP C) (Ab aW Ag) Q ρ H:=by
 have h0:0 < ns.length:=by omega
 obtain⟨r0,r1,r2,r3,r4,r5,r6⟩:=rg
 have hl:hf.length=ns.length:=by rw[pm.length_eq,List.length_range]
 have told:D.map (vH ns hf)=Jl ns:=by
  refine Jk N.asc ?_
  refine((N.perm hD).map _).trans ?_
  have e:(List.range ns.length).map (vH ns hf)=hf.map (nu ns):=by
   apply List.ext_getElem
   ·rw[List.length_map,List.length_map,List.length_range,hl]
   ·intro i h1 h2
    rw[List.length_map]at h2
    rw[List.getElem_map,List.getElem_map,List.getElem_range]
    unfold vH
    rw[List.getD_eq_getElem?_getD,List.getElem?_eq_getElem h2];rfl
  rw[e]
  have:=pm.map (nu ns)
  rw[Ma]at this;exact this
 rw[told]at s
 clear told N hD
 unfold dP
 refine⟨aU,Bk,[],Ae r5,by unfold Bl;rw[s.get 4 rfl rfl],by decide,rfl,rfl,aU,SU,r,rfl,s.get 4 rfl rfl,hr,false,by rw[ha];rfl,?_⟩
 have s1:HS (aH :: aT :: aD :: aO :: aU :: aR :: Fs) (oH [] :: oT (Jl ns) :: .srt SD :: oR Fs hf :: .srt SU :: oR Fs hf :: oE ns) (upd H aU (.srt SU)):=s.set 4 rfl
 refine⟨aD,Bk,[],Ae r6,by unfold Bl;rw[s1.get 2 rfl rfl],by decide,rfl,rfl,aD,SD,r',rfl,s1.get 2 rfl rfl,hr',false,by rw[ha'];rfl,?_⟩
 have s2:HS (aH :: aT :: aD :: aO :: aU :: aR :: Fs) (oH [] :: oT (Jl ns) :: .srt SD :: oR Fs hf :: .srt SU :: oR Fs hf :: oE ns) (upd (upd H aU (.srt SU)) aD (.srt SD)):=s1.set 2 rfl
 generalize (upd (upd H aU (.srt SU)) aD (.srt SD))=H1 at s2 ⊢
 have es:bP' Oo (Af (vP 1) Ak) ρ H1=some (.fl ((Jl ns).map .int)):=by
  refine Vw (Ay (Nl r1) rfl) ?_
  refine(?_:(Gi (ns.map .int)).bind _=_)
  rw[Sk]
  exact if_pos (Nat.lt_of_le_of_lt n24 (by decide))
 refine⟨false,Pc (Ae r10) es ?_,?_⟩
 ·refine(?_:(eqV H1 _ _).map _=_)
  rw[Qr (Pp (s2.get 1 rfl rfl)) rfl];rfl
 refine(?_:Ab aW Ag Q ρ H1)
 unfold aW
 refine⟨tb ns.length fun i=>.int (i:Int),Va (Ah r2) (Nat.le_trans n24 (by decide)),Gl fun z0 z0=>rfl,fun aG fG=>?_⟩
 have s3:HS (aG :: aH :: aT :: aD :: aO :: aU :: aR :: Fs) (oT [] :: oH [] :: oT (Jl ns) :: .srt SD :: oR Fs hf :: .srt SU :: oR Fs hf :: oE ns) (upd H1 aG (.f (.lst false []))):=s2.cons (o:=oT []) fG
 refine Mq (fun i H=>∃ hp ps,ps.length=i/\Pops (ltN ns) (nu ns) hf hp ps/\HS (aG :: aH :: aT :: aD :: aO :: aU :: aR :: Fs) (oT (ps.map (nu ns)) :: oH [] :: oT (Jl ns) :: .srt SD :: oR Fs hf :: .srt SU :: oR Fs hp :: oE ns) H) ⟨hf,[],rfl,.mk (.refl _) hh .nil fun p h=>absurd h List.not_mem_nil,s3⟩ ?_ ?_
 ·rintro i v H2 K' hv ⟨hp,ps,hps,P,s⟩ hK
  have hi:=(List.getElem?_eq_some_iff.mp hv).1
  rw[Hp]at hi
  refine⟨(und [12] ρ).set 12 v,rfl,true,rfl,fun z0=>?_,fun z=>nomatch z⟩
  have pl:ps.length + hp.length=ns.length:=by
   obtain⟨p1,-,-,-⟩:=P
   have:=p1.length_eq
   rw[List.length_append,hl]at this;exact this
  have hne:hp ≠ []:=fun e=>by rw[e]at pl;exact absurd hi (by rw[<- pl,hps];exact Nat.lt_irrefl _)
  have E:Elm Fs ns aR H2:=Ml (d:=7) (i:=6) s hF h0 (fun k=>rfl) (fun k=>rfl) rfl (by decide)
  have k3:((und [12] ρ).set 12 v) 3 = .ref aR:=r3
  refine⟨[.ref aR],Ay (Ae k3) rfl,rfl,Hl (emR E) (xs:=hp) (s.get 6 rfl rfl) (by rw[Au];exact Nat.le_trans (Nat.le_trans (by omega) n24) (by decide)) hne ?_⟩
  have s4:HS (aG :: aH :: aT :: aD :: aO :: aU :: aR :: Fs) (oT (ps.map (nu ns)) :: oH [] :: oT (Jl ns) :: .srt SD :: oR Fs hf :: .srt SU :: oR Fs (Bn (ltN ns) hp).2 :: oE ns) (upd H2 aR (oR Fs (Bn (ltN ns) hp).2)):=s.set 6 rfl
  have E2:Elm Fs ns aR (upd H2 aR (oR Fs (Bn (ltN ns) hp).2)):=Ml (d:=7) (i:=6) s4 hF h0 (fun k=>rfl) (fun k=>rfl) rfl (by decide)
  have e5:(ps.map (nu ns)).map AV.int++[.int (nu ns (Bn (ltN ns) hp).1)]=((ps++[(Bn (ltN ns) hp).1]).map (nu ns)).map .int:=by rw[List.map_append,List.map_append];rfl
  refine⟨.int ((0:Nat):Int),.int (nu ns (Bn (ltN ns) hp).1),rfl,Ys (E2 (Bn (ltN ns) hp).1).1 rfl,rfl,_,s4.get 0 rfl rfl,rfl,?_,hK _ ⟨_,ps++[(Bn (ltN ns) hp).1],by rw[List.length_append,hps];rfl,P.step (fun x y=>rfl) gL hne,?_⟩⟩
  ·rw[List.length_map,List.length_map,hps,Au];exact Nat.lt_trans (Nat.lt_of_lt_of_le hi n24) (by decide)
  ·rw[e5];exact s4.set 0 rfl
 rintro H2 ⟨hp,ps,hps,P,s⟩
 rw[Hp]at hps
 obtain⟨p1,-,asc,-⟩:=P
 have hpe:hp=[]:=by
  have:=p1.length_eq
  rw[List.length_append,hl,hps]at this
  exact List.length_eq_zero_iff.mp (by omega)
 rw[hpe]at s p1
 rw[List.append_nil]at p1
 have eq:ps.map (nu ns)=Jl ns:=Jk asc (by
  have:=(p1.trans pm).map (nu ns)
  rw[Ma]at this;exact this)
 rw[eq]at s
 refine⟨.ref aT,Ae r10,rfl,true,Qr (l:=Jl ns) (Pp (s.get 0 rfl rfl)) (Pp (s.get 2 rfl rfl)),true,rfl,?_⟩
 refine⟨.bool true,?_,rfl,?_⟩
 ·refine(?_:(Aw eqV (vP 3) (Jt (Ec Ak)) ρ H2).map AV.bool=_)
  rw[Pc (w:=.fl []) (Ae r3) rfl (iV (Pp (s.get 6 rfl rfl)))];rfl
 exact hQ _ _
end
end L08
end Mine
end
section
namespace Mine
namespace L08
section
variable {C:Cx}
theorem law_spec {xs0:List Int}(hz:xs0.length<=63){Q:AV->AH->Prop}{H:AH}(hQ:∀ H',Q (.bool true) H'):Zy C [.fl (xs0.map .int)] Q H:=by
 unfold Zy Bi
 refine⟨_,rfl,?_⟩
 unfold Zz
 refine ph7 rfl hz fun ρ2 H2 ns Fs aR aO aU aD n4 n24 hF rg s=>?_
 obtain⟨r0,r1,r2,r3,r4,r5,r6⟩:=rg
 have h0:0 < ns.length:=by omega
 have n60:ns.length<=60:=by omega
 refine iK h0 n60 r2 r5 r6 s fun ρ3 H3 SU SD w s3 hU hD=>?_
 unfold gC
 refine Lv (o:=.lst false []) rfl fun aH fH=>?_
 have s4:=s3.cons (o:=oH []) fH
 refine(?_:Ab _ _ _ _ (upd H3 aH (oH [])))
 generalize (upd H3 aH (oH []))=H4 at s4 ⊢
 have w4:∀ j,j ≠ 7->j ≠ 8->(ρ3.set 8 (.ref aH)) j=ρ2 j:=fun j h1 h2=>(Dc h2).trans (w j h1)
 have w48:(ρ3.set 8 (.ref aH)) 8 = .ref aH:=rfl
 generalize (ρ3.set 8 (.ref aH))=ρ4 at w4 w48 ⊢
 have rg4:Reg xs0 ns ns.length aR aO aU aD ρ4:=⟨(w4 0 (by decide) (by decide)).trans r0,(w4 1 (by decide) (by decide)).trans r1,(w4 2 (by decide) (by decide)).trans r2,(w4 3 (by decide) (by decide)).trans r3,(w4 4 (by decide) (by decide)).trans r4,(w4 5 (by decide) (by decide)).trans r5,(w4 6 (by decide) (by decide)).trans r6⟩
 refine iR n4 n24 hF rg4 w48 hz s4 hU fun ρ5 H5 SU2 r w5 s5 hr ha=>?_
 have hh:Cc (ltN ns) (Bm (ltN ns) (List.range ns.length)):=Ni gL
 have pm:(Bm (ltN ns) (List.range ns.length)).Perm (List.range ns.length):=Nh
 generalize (Bm (ltN ns) (List.range ns.length))=hf at s5 hh pm
 have hl:hf.length=ns.length:=by rw[pm.length_eq,List.length_range]
 obtain⟨q0,q1,q2,q3,q4,q5,q6⟩:=rg4
 have y0:=(w5 0 (by decide) (by decide)).trans q0
 have y1:=(w5 1 (by decide) (by decide)).trans q1
 have y2:=(w5 2 (by decide) (by decide)).trans q2
 have y3:=(w5 3 (by decide) (by decide)).trans q3
 have y4:=(w5 4 (by decide) (by decide)).trans q4
 have y5:=(w5 5 (by decide) (by decide)).trans q5
 have y6:=(w5 6 (by decide) (by decide)).trans q6
 have y8:=(w5 8 (by decide) (by decide)).trans w48
 clear w w4 w5 q0 q1 q2 q3 q4 q5 q6 r0 r1 r2 r3 r4 r5 r6
 unfold gB
 refine same (Nat.le_trans n24 (by decide)) hl y2 y3 y4 (s5.get 4 rfl rfl) (s5.get 3 rfl rfl) fun ρ6 w6=>?_
 unfold fZ
 refine cR (Zh h0 n60) hD (by omega) ((w6 6 (by decide)).trans y6) (s5.get 1 rfl rfl) fun SD' hD'=>?_
 have s6:HS (aH :: aD :: aU :: aO :: aR :: Fs) (oH [] :: .srt SD' :: .srt SU2 :: oR Fs hf :: oR Fs hf :: oE ns) (upd H5 aD (.srt SD')):=s5.set 1 rfl
 generalize (upd H5 aD (.srt SD'))=H6 at s6 ⊢
 unfold fY
 refine Lv (o:=.lst false []) rfl fun aT fT=>?_
 have s7:HS (aT :: aH :: aD :: aU :: aO :: aR :: Fs) (oT [] :: oH [] :: .srt SD' :: .srt SU2 :: oR Fs hf :: oR Fs hf :: oE ns) (upd H6 aT (oT [])):=s6.cons (o:=oT []) fT
 refine(?_:Ab _ _ _ _ (upd H6 aT (oT [])))
 generalize (upd H6 aT (oT []))=H7 at s7 ⊢
 have w7:∀ j,j ≠ 7->j ≠ 10->(ρ6.set 10 (.ref aT)) j=ρ5 j:=fun j h1 h2=>(Dc h2).trans (w6 j h1)
 have w70:(ρ6.set 10 (.ref aT)) 10 = .ref aT:=rfl
 generalize (ρ6.set 10 (.ref aT))=ρ7 at w7 w70 ⊢
 have rg7:Reg xs0 ns ns.length aR aO aU aD ρ7:=⟨(w7 0 (by decide) (by decide)).trans y0,(w7 1 (by decide) (by decide)).trans y1,(w7 2 (by decide) (by decide)).trans y2,(w7 3 (by decide) (by decide)).trans y3,(w7 4 (by decide) (by decide)).trans y4,(w7 5 (by decide) (by decide)).trans y5,(w7 6 (by decide) (by decide)).trans y6⟩
 refine iQ n4 n24 hF rg7 ((w7 8 (by decide) (by decide)).trans y8) w70 hl hh s7.swap.under3 hD' fun ρ8 H8 SD2 r2 D w8 s8 hr2 ha2 N hDn=>?_
 obtain⟨q0,q1,q2,q3,q4,q5,q6⟩:=rg7
 unfold fW
 refine same (Nat.le_trans n24 (by decide)) hl ((w8 2 (by decide) (by decide) (by decide)).trans q2) ((w8 3 (by decide) (by decide) (by decide)).trans q3) ((w8 4 (by decide) (by decide) (by decide)).trans q4) (s8.get 5 rfl rfl) (s8.get 3 rfl rfl) fun ρ9 w9=>?_
 have x:∀ j,j ≠ 7->j ≠ 9->j ≠ 11->ρ9 j=ρ7 j:=fun j h1 h2 h3=>(w9 j h1).trans (w8 j h1 h2 h3)
 exact iP n4 n24 hF ⟨(x 0 (by decide) (by decide) (by decide)).trans q0,(x 1 (by decide) (by decide) (by decide)).trans q1,(x 2 (by decide) (by decide) (by decide)).trans q2,(x 3 (by decide) (by decide) (by decide)).trans q3,(x 4 (by decide) (by decide) (by decide)).trans q4,(x 5 (by decide) (by decide) (by decide)).trans q5,(x 6 (by decide) (by decide) (by decide)).trans q6⟩ ((x 10 (by decide) (by decide) (by decide)).trans w70) hh pm s8 hr ha hr2 ha2 N hDn fun ρ' H'=>hQ H'
end
end L08
end Mine
end
section
namespace Mine
noncomputable abbrev KK:=hd08.heap_1
abbrev aTS:Addr:=172
abbrev aNI:Addr:=75
abbrev aS0:Addr:=76
abbrev aS1:Addr:=77
abbrev aS2:Addr:=78
abbrev aDF:Addr:=101
section
variable {C:Cx} {P:Params}
theorem Ge (E:Env0 C (KK P) aTS aNI):C.mg "len" = none:=E.glob (by kernel_rfl)
theorem Gf (E:Env0 C (KK P) aTS aNI):C.mb "len" = some (.builtin "len"):=E.bi (by kernel_rfl)
theorem Km (E:Env0 C (KK P) aTS aNI):C.mg "_siftdown" = some (.ref 49):=E.glob (by kernel_rfl)
theorem Jp (E:Env0 C (KK P) aTS aNI):C.mg "_siftup" = some (.ref 56):=E.glob (by kernel_rfl)
theorem Qc (E:Env0 C (KK P) aTS aNI):C.mg "reversed" = none:=E.glob (by kernel_rfl)
theorem Qf (E:Env0 C (KK P) aTS aNI):C.mb "reversed" = some (.type "reversed"):=E.bi (by kernel_rfl)
theorem Cz (E:Env0 C (KK P) aTS aNI):C.mg "range" = none:=E.glob (by kernel_rfl)
theorem Da (E:Env0 C (KK P) aTS aNI):C.mb "range" = some (.type "range"):=E.bi (by kernel_rfl)
theorem Qd (E:Env0 C (KK P) aTS aNI):C.mg "_NodeInfo" = some (.ref 75):=E.glob (by kernel_rfl)
theorem eH (E:Env0 C (KK P) aTS aNI):C.mg "set" = none:=E.glob (by kernel_rfl)
theorem eJ (E:Env0 C (KK P) aTS aNI):C.mb "set" = some (.type "set"):=E.bi (by kernel_rfl)
theorem bH (E:Env0 C (KK P) aTS aNI):C.mg "iter" = none:=E.glob (by kernel_rfl)
theorem bJ (E:Env0 C (KK P) aTS aNI):C.mb "iter" = some (.builtin "iter"):=E.bi (by kernel_rfl)
theorem Jq (E:Env0 C (KK P) aTS aNI):C.mg "StopIteration" = none:=E.glob (by kernel_rfl)
theorem Jr (E:Env0 C (KK P) aTS aNI):C.mb "StopIteration" = some (.type "StopIteration"):=E.bi (by kernel_rfl)
theorem Yi (E:Env0 C (KK P) aTS aNI):C.mg "tuple" = none:=E.glob (by kernel_rfl)
theorem Yk (E:Env0 C (KK P) aTS aNI):C.mb "tuple" = some (.type "tuple"):=E.bi (by kernel_rfl)
theorem Ko (E:Env0 C (KK P) aTS aNI):C.mg "_NODE_OUT" = some (.int (-1) 250):=E.glob (by kernel_rfl)
theorem bI (E:Env0 C (KK P) aTS aNI):C.mg "bool" = none:=E.glob (by kernel_rfl)
theorem bK (E:Env0 C (KK P) aTS aNI):C.mb "bool" = some (.type "bool"):=E.bi (by kernel_rfl)
theorem Ow (E:Env0 C (KK P) aTS aNI):C.mg "_NODE_DONE" = some (.int (-2) 253):=E.glob (by kernel_rfl)
theorem Sy (E:Env0 C (KK P) aTS aNI):StmtsR C 0 Ps (Bz (KK P) 49) Ic :=
 (.cons (.let (mm 3 rfl) (.ofPure (.sub (.var (mm 0 rfl)) (.var (mm 2 rfl)))))
  (.cons (.while (.ofTest (.cmp (.var (mm 2 rfl)) (.var (mm 1 rfl)) .gtG)) (.cons (.let (mm 4 rfl) (.ofPure (.bin (.bin (.var (mm 2 rfl)) .int .sub) .int .shr)))
  (.cons (.let (mm 5 rfl) (.ofPure (.sub (.var (mm 0 rfl)) (.var (mm 4 rfl)))))
  (.cons (.ite (.ofTest (.cmp (.var (mm 3 rfl)) (.var (mm 5 rfl)) .lt)) (.cons (.set (.ofPure (.var (mm 5 rfl))) (.var (mm 0 rfl)) (.var (mm 2 rfl)))
  (.cons (.let (mm 2 rfl) (.ofPure (.var (mm 4 rfl))))
  (.cons .cont
  .nil))) .nil)
  (.cons .brk
  .nil)))) .nil)
  (.cons (.set (.ofPure (.var (mm 3 rfl))) (.var (mm 0 rfl)) (.var (mm 2 rfl)))
  .nil)))
theorem Kx (E:Env0 C (KK P) aTS aNI):CallR C 1 (.ref 49) Dp :=
 .fnK (params:=["heap","startpos","pos"]) E (fd:=(Ej (KK P) 49).getD default) (by kernel_rfl) (by kernel_rfl) (by kernel_rfl) (by kernel_rfl) (.p3 fun _ _ _=>by kernel_rfl) (Sy E)
theorem aC (E:Env0 C (KK P) aTS aNI):StmtsR C 1 Uv (Bz (KK P) 56) Mu :=
 (.cons (.let (mm 2 rfl) (.ofPure (.bcall (mm 0 rfl) (Ge E) (Gf E) (.some (.cons (.var (mm 0 rfl)) .nil)) .len)))
  (.cons (.let (mm 3 rfl) (.ofPure (.var (mm 1 rfl))))
  (.cons (.let (mm 4 rfl) (.ofPure (.sub (.var (mm 0 rfl)) (.var (mm 1 rfl)))))
  (.cons (.let (mm 5 rfl) (.ofPure (.bin (.bin .int (.var (mm 1 rfl)) .mul) .int .add)))
  (.cons (.while (.ofTest (.cmp (.var (mm 5 rfl)) (.var (mm 2 rfl)) .lt)) (.cons (.let (mm 6 rfl) (.ofPure (.bin (.var (mm 5 rfl)) .int .add)))
  (.cons (.ite (.ofTest (.and (.cmp (.var (mm 6 rfl)) (.var (mm 2 rfl)) .lt) (.notC (.cmp (.sub (.var (mm 0 rfl)) (.var (mm 5 rfl))) (.sub (.var (mm 0 rfl)) (.var (mm 6 rfl))) .lt)))) (.cons (.let (mm 5 rfl) (.ofPure (.var (mm 6 rfl))))
  .nil) .nil)
  (.cons (.set (.ofPure (.sub (.var (mm 0 rfl)) (.var (mm 5 rfl)))) (.var (mm 0 rfl)) (.var (mm 1 rfl)))
  (.cons (.let (mm 1 rfl) (.ofPure (.var (mm 5 rfl))))
  (.cons (.let (mm 5 rfl) (.ofPure (.bin (.bin .int (.var (mm 1 rfl)) .mul) .int .add)))
  .nil))))) .nil)
  (.cons (.set (.ofPure (.var (mm 4 rfl))) (.var (mm 0 rfl)) (.var (mm 1 rfl)))
  (.cons (.expr (.callK E (mm 1 rfl) (Km E) (by kernel_rfl) (.some (.cons (.var (mm 0 rfl)) (.cons (.var (mm 3 rfl)) (.cons (.var (mm 1 rfl)) .nil)))) (.le (Kx E) (by decide))))
  .nil)))))))
theorem Ki (E:Env0 C (KK P) aTS aNI):CallR C 2 (.ref 56) Ek :=
 .fnK (params:=["heap","pos"]) E (fd:=(Ej (KK P) 56).getD default) (by kernel_rfl) (by kernel_rfl) (by kernel_rfl) (by kernel_rfl) (.p2 fun _ _=>by kernel_rfl) (aC E)
theorem Sz (E:Env0 C (KK P) aTS aNI):StmtsR C 1 Pt (Bz (KK P) 28) Ie :=
 (.cons (.expr (.append (.var (mm 0 rfl)) (.var (mm 1 rfl))))
  (.cons (.expr (.callK E (mm 0 rfl) (Km E) (by kernel_rfl) (.some (.cons (.var (mm 0 rfl)) (.cons .int (.cons (.bin (.bcall (mm 1 rfl) (Ge E) (Gf E) (.some (.cons (.var (mm 0 rfl)) .nil)) .len) .int .sub) .nil)))) (.le (Kx E) (by decide))))
  .nil))
theorem Ky (E:Env0 C (KK P) aTS aNI):CallR C 2 (.ref 28) Co :=
 .fnK (params:=["heap","item"]) E (fd:=(Ej (KK P) 28).getD default) (by kernel_rfl) (by kernel_rfl) (by kernel_rfl) (by kernel_rfl) (.p2 fun _ _=>by kernel_rfl) (Sz E)
theorem Wq (E:Env0 C (KK P) aTS aNI):StmtsR C 2 Rq (Bz (KK P) 35) Kd :=
 (.cons (.let (mm 1 rfl) (.pop (.var (mm 0 rfl))))
  (.cons (.ite (.ofTest (.val (.var (mm 0 rfl)))) (.cons (.let (mm 2 rfl) (.ofPure (.sub (.var (mm 0 rfl)) .int)))
  (.cons (.set (.ofPure (.var (mm 1 rfl))) (.var (mm 0 rfl)) .int)
  (.cons (.expr (.callK E (mm 0 rfl) (Jp E) (by kernel_rfl) (.some (.cons (.var (mm 0 rfl)) (.cons .int .nil))) (.le (Ki E) (by decide))))
  (.cons (.ret (.ofPure (.var (mm 2 rfl))))
  .nil)))) .nil)
  (.cons (.ret (.ofPure (.var (mm 1 rfl))))
  .nil)))
theorem Ih (E:Env0 C (KK P) aTS aNI):CallR C 3 (.ref 35) Dq :=
 .fnK (params:=["heap"]) E (fd:=(Ej (KK P) 35).getD default) (by kernel_rfl) (by kernel_rfl) (by kernel_rfl) (by kernel_rfl) (.p1 fun _=>by kernel_rfl) (Wq E)
theorem Ws (E:Env0 C (KK P) aTS aNI):StmtsR C 2 Rs (Bz (KK P) 42) Ke :=
 (.cons (.let (mm 1 rfl) (.ofPure (.bcall (mm 0 rfl) (Ge E) (Gf E) (.some (.cons (.var (mm 0 rfl)) .nil)) .len)))
  (.cons (.for (.revRange (mm 1 rfl) (Qc E) (Qf E) (mm 2 rfl) (Cz E) (Da E) (.some (.cons (.bin (.var (mm 1 rfl)) .int .fdiv) .nil))) (.name (mm 2 rfl)) (.cons (.expr (.callK E (mm 3 rfl) (Jp E) (by kernel_rfl) (.some (.cons (.var (mm 0 rfl)) (.cons (.var (mm 2 rfl)) .nil))) (.le (Ki E) (by decide))))
  .nil))
  .nil))
theorem Tc (E:Env0 C (KK P) aTS aNI):CallR C 3 (.ref 42) Gy :=
 .fnK (params:=["x"]) E (fd:=(Ej (KK P) 42).getD default) (by kernel_rfl) (by kernel_rfl) (by kernel_rfl) (by kernel_rfl) (.p1 fun _=>by kernel_rfl) (Ws E)
theorem Wo (E:Env0 C (KK P) aTS aNI):StmtsR C 0 Rp (Bz (KK P) 71) (Kc C) :=
 (.cons (.seta (.S (p:=aS0) E.hK (by rw[E.hni];kernel_rfl)) (.ofPure (.var (mm 1 rfl))) (.var (mm 0 rfl)))
  (.cons (.seta (.S (p:=aS1) E.hK (by rw[E.hni];kernel_rfl)) (.ofPure .int) (.var (mm 0 rfl)))
  (.cons (.seta (.S (p:=aS2) E.hK (by rw[E.hni];kernel_rfl)) (.ofMake (.list .nil)) (.var (mm 0 rfl)))
  .nil)))
theorem Tb (E:Env0 C (KK P) aTS aNI):CallR C 1 (.ref 71) (Gx C) :=
 .fnK (params:=["self","node"]) E (fd:=(Ej (KK P) 71).getD default) (by kernel_rfl) (by kernel_rfl) (by kernel_rfl) (by kernel_rfl) (.p2 fun _ _=>by kernel_rfl) (Wo E)
theorem Li (E:Env0 C (KK P) aTS aNI):CallR C 2 (.ref aNI) (El C):=by
 have:=CallR.new (c:=aNI) (fI:=71) (o0:=.slots aNI []) E.hK (by kernel_rfl) (by kernel_rfl) (by kernel_rfl) (.inr rfl) (Tb E)
 unfold El;rw[E.hni];exact this
theorem Jf (E:Env0 C (KK P) aTS aNI):StmtsR C 2 Hs (Bz (KK P) 115) (Cb C) :=
 (.cons (.ite (.walrus (mm 2 rfl) (.dget (.getA (.D E.hK (by rw[E.hts];kernel_rfl)) (.var (mm 0 rfl))) (.var (mm 1 rfl)))) (.cons (.dset2 (.callC E.hK (mm 0 rfl) (Qd E) (by kernel_rfl) (.some (.cons (.var (mm 1 rfl)) .nil)) (.le (Li E) (by decide))) (.getA (.D E.hK (by rw[E.hts];kernel_rfl)) (.var (mm 0 rfl))) (.var (mm 1 rfl)) (mm 2 rfl))
  .nil) .nil)
  (.cons (.ret (.ofPure (.var (mm 2 rfl))))
  .nil))
theorem Ep (E:Env0 C (KK P) aTS aNI):CallR C 3 (.ref 115) (An C) :=
 .fnK (params:=["self","node"]) E (fd:=(Ej (KK P) 115).getD default) (by kernel_rfl) (by kernel_rfl) (by kernel_rfl) (by kernel_rfl) (.p2 fun _ _=>by kernel_rfl) (Jf E)
theorem aB (E:Env0 C (KK P) aTS aNI):StmtsR C 3 Uu (Bz (KK P) 122) (Mt C) :=
 (.cons (.ite (.ofTest (.cmp (.getA (.D E.hK (by rw[E.hts];kernel_rfl)) (.var (mm 0 rfl))) .none .isNotG)) .no .nil)
  (.cons (.let (mm 3 rfl) (.meth E.hK (by rw[E.hts];kernel_rfl) (.var (mm 0 rfl)) (.some (.cons (.var (mm 1 rfl)) .nil)) (.le (Ep E) (by decide))))
  (.cons (.auga (.S (p:=aS1) E.hK (by rw[E.hni];kernel_rfl)) (.S (p:=aS1) E.hK (by rw[E.hni];kernel_rfl)) (.var (mm 3 rfl)) (.bcall (mm 0 rfl) (Ge E) (Gf E) (.some (.cons (.var (mm 2 rfl)) .nil)) .len) .iadd)
  (.cons (.for (.val (.var (mm 2 rfl))) (.name (mm 4 rfl)) (.cons (.let (mm 5 rfl) (.meth E.hK (by rw[E.hts];kernel_rfl) (.var (mm 0 rfl)) (.some (.cons (.var (mm 4 rfl)) .nil)) (.le (Ep E) (by decide))))
  (.cons (.expr (.append (.getA (.S (p:=aS2) E.hK (by rw[E.hni];kernel_rfl)) (.var (mm 5 rfl))) (.var (mm 1 rfl))))
  .nil)))
  .nil))))
theorem Gz (E:Env0 C (KK P) aTS aNI):CallR C 4 (.ref 122) (Jd C) :=
 .fnK (params:=["self","node","predecessors"]) E (fd:=(Ej (KK P) 122).getD default) (by kernel_rfl) (by kernel_rfl) (by kernel_rfl) (by kernel_rfl) (.star2K fun _ _ rest=>by cases rest <;> kernel_rfl) (aB E)
theorem Wm (E:Env0 C (KK P) aTS aNI):StmtsR C 0 Rn (Bz (KK P) 108) (Ka C) :=
 (.cons (.seta (.D E.hK (by rw[E.hts];kernel_rfl)) (.ofMake .dict0) (.var (mm 0 rfl)))
  (.cons (.seta (.D E.hK (by rw[E.hts];kernel_rfl)) (.ofPure .none) (.var (mm 0 rfl)))
  (.cons (.seta (.D E.hK (by rw[E.hts];kernel_rfl)) (.ofPure .int) (.var (mm 0 rfl)))
  (.cons (.seta (.D E.hK (by rw[E.hts];kernel_rfl)) (.ofPure .int) (.var (mm 0 rfl)))
  (.cons (.ite (.ofTest (.cmp (.var (mm 1 rfl)) .none .isNotG)) .no .nil)
  .nil)))))
theorem Ta (E:Env0 C (KK P) aTS aNI):CallR C 1 (.ref 108) (Jy C) :=
 .fnK (params:=["self","graph"]) E (fd:=(Ej (KK P) 108).getD default) (by kernel_rfl) (by kernel_rfl) (by kernel_rfl) (by kernel_rfl) (.dflt1K (t:=aDF) (n:=0) E (by kernel_rfl) (by kernel_rfl) (by kernel_rfl) (by kernel_rfl)) (Wm E)
theorem Cm (E:Env0 C (KK P) aTS aNI):CallR C 2 (.ref aTS) (Bg C):=by
 have:=CallR.new (c:=aTS) (fI:=108) (o0:=.inst aTS []) E.hK (by kernel_rfl) (by kernel_rfl) (by kernel_rfl) (.inl rfl) (Ta E)
 unfold Bg;rw[E.hts];exact this
theorem Lh (E:Env0 C (KK P) aTS aNI):StmtsR C 0 Jo (Bz (KK P) 162) (Eb C) :=
 (.cons (.let (mm 1 rfl) (.ofPure (.getA (.D E.hK (by rw[E.hts];kernel_rfl)) (.var (mm 0 rfl)))))
  (.cons (.let (mm 2 rfl) (.ofMake (.list .nil)))
  (.cons (.let (mm 3 rfl) (.ofMake (.list .nil)))
  (.cons (.let (mm 4 rfl) (.ofMake (.set0 (mm 0 rfl) (eH E) (eJ E))))
  (.cons (.let (mm 5 rfl) (.ofMake .dict0))
  (.cons (.hold (.for (.keys (.var (mm 1 rfl))) (.name (mm 6 rfl)) (.cons (.ite (.ofTest (.cmp (.var (mm 6 rfl)) (.var (mm 4 rfl)) .inn)) (.cons .cont
  .nil) .nil)
  (.cons (.while (.ofTest (.val .bool)) (.cons (.ite (.ofTest (.cmp (.var (mm 6 rfl)) (.var (mm 4 rfl)) .inn)) (.cons (.ite (.ofTest (.cmp (.var (mm 6 rfl)) (.var (mm 5 rfl)) .inn)) .no .nil)
  .nil) (.cons (.expr (.sadd (.var (mm 4 rfl)) (.var (mm 6 rfl))))
  (.cons (.expr (.appendI (.var (mm 3 rfl)) (.ofMake (.next (mm 1 rfl) (bH E) (bJ E) (.getA (.S (p:=aS2) E.hK (by rw[E.hni];kernel_rfl)) (.sub (.var (mm 1 rfl)) (.var (mm 6 rfl))))))))
  (.cons (.dset (.ofPure (.bcall (mm 2 rfl) (Ge E) (Gf E) (.some (.cons (.var (mm 2 rfl)) .nil)) .len)) (.var (mm 5 rfl)) (.var (mm 6 rfl)))
  (.cons (.expr (.append (.var (mm 2 rfl)) (.var (mm 6 rfl))))
  .nil)))))
  (.cons (.while (.ofTest (.val (.var (mm 2 rfl)))) (.cons (.tryNext (mm 3 rfl) (mm 2 rfl) (mm 5 rfl) (mm 6 rfl) (mm 3 rfl) (Jq E) (Jr E) rfl)
  .nil) (.cons .brk
  .nil))
  .nil)) .nil)
  .nil))))
  (.cons (.ret (.ofPure .none))
  .nil)))))))
theorem Kh (E:Env0 C (KK P) aTS aNI):CallR C 1 (.ref 162) (Cn C) :=
 .fnK (params:=["self"]) E (fd:=(Ej (KK P) 162).getD default) (by kernel_rfl) (by kernel_rfl) (by kernel_rfl) (by kernel_rfl) (.p1 fun _=>by kernel_rfl) (Lh E)
theorem Ph (E:Env0 C (KK P) aTS aNI):StmtsR C 1 Nc (Bz (KK P) 127) (Fg C) :=
 (.cons (.ite (.ofTest (.cmp (.getA (.D E.hK (by rw[E.hts];kernel_rfl)) (.var (mm 0 rfl))) .none .isNotG)) .no .nil)
  (.cons (.seta (.D E.hK (by rw[E.hts];kernel_rfl)) (.ofMake (.comp (sc':=Jn) (.values (.getA (.D E.hK (by rw[E.hts];kernel_rfl)) (.var (mm 0 rfl)))) (.of rfl (by kernel_rfl)) (.name (mm 0 rfl)) (.one (.cmp (.getA (.S (p:=aS1) E.hK (by rw[E.hni];kernel_rfl)) (.var (mm 0 rfl))) .int .eq)) (.pure (.getA (.S (p:=aS0) E.hK (by rw[E.hni];kernel_rfl)) (.var (mm 0 rfl)))) (.inl rfl))) (.var (mm 0 rfl)))
  (.cons (.let (mm 1 rfl) (.meth E.hK (by rw[E.hts];kernel_rfl) (.var (mm 0 rfl)) .none (.le (Kh E) (by decide))))
  (.cons (.ite (.ofTest (.val (.var (mm 1 rfl)))) .no .nil)
  .nil))))
theorem Hn (E:Env0 C (KK P) aTS aNI):CallR C 2 (.ref 127) (Ee C) :=
 .fnK (params:=["self"]) E (fd:=(Ej (KK P) 127).getD default) (by kernel_rfl) (by kernel_rfl) (by kernel_rfl) (by kernel_rfl) (.p1 fun _=>by kernel_rfl) (Ph E)
theorem Mw (E:Env0 C (KK P) aTS aNI):StmtsR C 0 Ld (Bz (KK P) 134) (En C) :=
 (.cons (.ite (.ofTest (.cmp (.getA (.D E.hK (by rw[E.hts];kernel_rfl)) (.var (mm 0 rfl))) .none .isG)) .no .nil)
  (.cons (.let (mm 1 rfl) (.ofPure (.tcall (mm 0 rfl) (Yi E) (Yk E) (.some (.cons (.getA (.D E.hK (by rw[E.hts];kernel_rfl)) (.var (mm 0 rfl))) .nil)) .tuple)))
  (.cons (.let (mm 2 rfl) (.ofPure (.getA (.D E.hK (by rw[E.hts];kernel_rfl)) (.var (mm 0 rfl)))))
  (.cons (.for (.val (.var (mm 1 rfl))) (.name (mm 3 rfl)) (.cons (.seta (.S (p:=aS1) E.hK (by rw[E.hni];kernel_rfl)) (.ofPure (.glob (mm 1 rfl) (.inl (Ko E)) (fun _ _ _=>⟨_,rfl⟩))) (.sub (.var (mm 2 rfl)) (.var (mm 3 rfl))))
  .nil))
  (.cons (.expr (.clear (.getA (.D E.hK (by rw[E.hts];kernel_rfl)) (.var (mm 0 rfl)))))
  (.cons (.auga (.D E.hK (by rw[E.hts];kernel_rfl)) (.D E.hK (by rw[E.hts];kernel_rfl)) (.var (mm 0 rfl)) (.bcall (mm 2 rfl) (Ge E) (Gf E) (.some (.cons (.var (mm 1 rfl)) .nil)) .len) .iadd)
  (.cons (.ret (.ofPure (.var (mm 1 rfl))))
  .nil)))))))
theorem Fu (E:Env0 C (KK P) aTS aNI):CallR C 1 (.ref 134) (Dg C) :=
 .fnK (params:=["self"]) E (fd:=(Ej (KK P) 134).getD default) (by kernel_rfl) (by kernel_rfl) (by kernel_rfl) (by kernel_rfl) (.p1 fun _=>by kernel_rfl) (Mw E)
theorem Mv (E:Env0 C (KK P) aTS aNI):StmtsR C 0 Lc (Bz (KK P) 141) (Em C) :=
 (.cons (.ite (.ofTest (.cmp (.getA (.D E.hK (by rw[E.hts];kernel_rfl)) (.var (mm 0 rfl))) .none .isG)) .no .nil)
  (.cons (.ret (.bools (.or (.ofPure (.cmpB (.getA (.D E.hK (by rw[E.hts];kernel_rfl)) (.var (mm 0 rfl))) (.getA (.D E.hK (by rw[E.hts];kernel_rfl)) (.var (mm 0 rfl))) .lt)) (.one (.ofPure (.tcall (mm 0 rfl) (bI E) (bK E) (.some (.cons (.getA (.D E.hK (by rw[E.hts];kernel_rfl)) (.var (mm 0 rfl))) .nil)) .bool))))))
  .nil))
theorem Ft (E:Env0 C (KK P) aTS aNI):CallR C 1 (.ref 141) (Df C) :=
 .fnK (params:=["self"]) E (fd:=(Ej (KK P) 141).getD default) (by kernel_rfl) (by kernel_rfl) (by kernel_rfl) (by kernel_rfl) (.p1 fun _=>by kernel_rfl) (Mv E)
theorem Wn (E:Env0 C (KK P) aTS aNI):StmtsR C 0 Ro (Bz (KK P) 155) (Kb C) :=
 (.cons (.ite (.ofTest (.cmp (.getA (.D E.hK (by rw[E.hts];kernel_rfl)) (.var (mm 0 rfl))) .none .isG)) .no .nil)
  (.cons (.let (mm 2 rfl) (.ofPure (.getA (.D E.hK (by rw[E.hts];kernel_rfl)) (.var (mm 0 rfl)))))
  (.cons (.for (.val (.var (mm 1 rfl))) (.name (mm 3 rfl)) (.cons (.ite (.walrus (mm 4 rfl) (.dget (.var (mm 2 rfl)) (.var (mm 3 rfl)))) .no .nil)
  (.cons (.let (mm 5 rfl) (.ofPure (.getA (.S (p:=aS1) E.hK (by rw[E.hni];kernel_rfl)) (.var (mm 4 rfl)))))
  (.cons (.ite (.ofTest (.cmp (.var (mm 5 rfl)) (.glob (mm 0 rfl) (.inl (Ko E)) (fun _ _ _=>⟨_,rfl⟩)) .neG)) .no .nil)
  (.cons (.seta (.S (p:=aS1) E.hK (by rw[E.hni];kernel_rfl)) (.ofPure (.glob (mm 1 rfl) (.inl (Ow E)) (fun _ _ _=>⟨_,rfl⟩))) (.var (mm 4 rfl)))
  (.cons (.hold (.for (.val (.getA (.S (p:=aS2) E.hK (by rw[E.hni];kernel_rfl)) (.var (mm 4 rfl)))) (.name (mm 6 rfl)) (.cons (.let (mm 7 rfl) (.ofPure (.sub (.var (mm 2 rfl)) (.var (mm 6 rfl)))))
  (.cons (.auga (.S (p:=aS1) E.hK (by rw[E.hni];kernel_rfl)) (.S (p:=aS1) E.hK (by rw[E.hni];kernel_rfl)) (.var (mm 7 rfl)) .int .isub)
  (.cons (.ite (.ofTest (.cmp (.getA (.S (p:=aS1) E.hK (by rw[E.hni];kernel_rfl)) (.var (mm 7 rfl))) .int .eq)) (.cons (.expr (.append (.getA (.D E.hK (by rw[E.hts];kernel_rfl)) (.var (mm 0 rfl))) (.var (mm 6 rfl))))
  .nil) .nil)
  .nil)))))
  (.cons (.auga (.D E.hK (by rw[E.hts];kernel_rfl)) (.D E.hK (by rw[E.hts];kernel_rfl)) (.var (mm 0 rfl)) .int .iadd)
  .nil)))))))
  .nil)))
theorem Mx (E:Env0 C (KK P) aTS aNI):CallR C 1 (.ref 155) (Gw C) :=
 .fnK (params:=["self","nodes"]) E (fd:=(Ej (KK P) 155).getD default) (by kernel_rfl) (by kernel_rfl) (by kernel_rfl) (by kernel_rfl) (.star1K fun _ rest=>by cases rest <;> kernel_rfl) (Wn E)
end
end Mine
end
section
namespace Mine
namespace L08
section
variable {C:Cx} {P:Params}
theorem eI (E:Env0 C (KK P) aTS aNI):C.mg "min" = none:=E.glob (by kernel_rfl)
theorem eK (E:Env0 C (KK P) aTS aNI):C.mb "min" = some (.builtin "min"):=E.bi (by kernel_rfl)
theorem Sa (E:Env0 C (KK P) aTS aNI):C.mg "heapify" = some (.ref 42):=E.glob (by kernel_rfl)
theorem Dv (E:Env0 C (KK P) aTS aNI):C.mg "TopologicalSorter" = some (.ref 172):=E.glob (by kernel_rfl)
theorem Kn (E:Env0 C (KK P) aTS aNI):C.mg "heappush" = some (.ref 28):=E.glob (by kernel_rfl)
theorem Yj (E:Env0 C (KK P) aTS aNI):C.mg "sum" = none:=E.glob (by kernel_rfl)
theorem Yl (E:Env0 C (KK P) aTS aNI):C.mb "sum" = some (.builtin "sum"):=E.bi (by kernel_rfl)
theorem Hu (E:Env0 C (KK P) aTS aNI):C.mg "heappop" = some (.ref 35):=E.glob (by kernel_rfl)
theorem Vj (E:Env0 C (KK P) aTS aNI):C.mg "sorted" = none:=E.glob (by kernel_rfl)
theorem Vl (E:Env0 C (KK P) aTS aNI):C.mb "sorted" = some (.builtin "sorted"):=E.bi (by kernel_rfl)
theorem iJ (E:Env0 C (KK P) aTS aNI):StmtsR C 4 dU (Bz (KK P) 181) (Zz C) :=
 (.cons (.let (mm 1 rfl) (.ofPure (MakeE.frz (.cat (MakeE.frz (.comp (sc':=Uw) (IterS.toE (.range (mm 0 rfl) (.inr ⟨Cz E,Da E⟩) (.cons (.bcall (mm 1 rfl) (eI E) (eK E) (.some (.cons (.bcall (mm 2 rfl) (Ge E) (Gf E) (.some (.cons (.var (mm 0 rfl)) .nil)) .len) (.cons .int .nil))) .min) .nil))) (.of rfl (by kernel_rfl)) (.name (mm 0 rfl)) .nil (.pure (.bcall (mm 0 rfl) (Yj E) (Yl E) (.some (.cons (MakeE.frz (.slc (.var (mm 1 rfl)) (.of (.var (mm 0 rfl))) .no (.of .int))) .nil)) .sum)) (.inl rfl))) (MakeE.frz (.list (.cons .int (.cons .int (.cons .int (.cons .int .nil))))))))))
  (.cons (.let (mm 2 rfl) (.ofPure (.bcall (mm 2 rfl) (Ge E) (Gf E) (.some (.cons (.var (mm 1 rfl)) .nil)) .len)))
  (.cons (.letCompI (sc':=Ux) (mm 3 rfl) (.val (.var (mm 1 rfl))) (.of rfl (by kernel_rfl)) (.name (mm 0 rfl)) (.pure .nil) (.make (.list (.cons (.var (mm 0 rfl)) .nil))))
  (.cons (.let (mm 4 rfl) (.ofMake (.slc (.var (mm 3 rfl)) .no .no .no)))
  (.cons (.expr (.callK E (mm 3 rfl) (Sa E) (by kernel_rfl) (.some (.cons (.var (mm 4 rfl)) .nil)) (.le (Tc E) (by decide))))
  (.cons (.let (mm 5 rfl) (.callC E.hK (mm 4 rfl) (Dv E) (by kernel_rfl) .none (.le (aF (Cm E)) (by decide))))
  (.cons (.let (mm 6 rfl) (.callC E.hK (mm 4 rfl) (Dv E) (by kernel_rfl) .none (.le (aF (Cm E)) (by decide))))
  (.cons (.for (.range (mm 0 rfl) (.inr ⟨Cz E,Da E⟩) (.cons (.var (mm 2 rfl)) .nil)) (.name (mm 7 rfl)) (.cons (.expr (.meth E.hK (by rw[E.hts];kernel_rfl) (.var (mm 5 rfl)) (.some (.cons (.var (mm 7 rfl)) .nil)) (.le (Pi (Gz E)) (by decide))))
  (.cons (.expr (.meth E.hK (by rw[E.hts];kernel_rfl) (.var (mm 6 rfl)) (.some (.cons (.var (mm 7 rfl)) .nil)) (.le (Pi (Gz E)) (by decide))))
  .nil)))
  (.cons (.for (.range (mm 0 rfl) (.inr ⟨Cz E,Da E⟩) (.cons .int (.cons (.var (mm 2 rfl)) .nil))) (.name (mm 7 rfl)) (.cons (.expr (.meth E.hK (by rw[E.hts];kernel_rfl) (.var (mm 5 rfl)) (.some (.cons (.bin (.bin (.var (mm 7 rfl)) .int .sub) .int .fdiv) (.cons (.var (mm 7 rfl)) .nil))) (.le (Pi (Gz E)) (by decide))))
  (.cons (.expr (.meth E.hK (by rw[E.hts];kernel_rfl) (.var (mm 6 rfl)) (.some (.cons (.var (mm 7 rfl)) (.cons (.bin (.bin (.var (mm 7 rfl)) .int .sub) .int .fdiv) .nil))) (.le (Pi (Gz E)) (by decide))))
  .nil)))
  (.cons (.expr (.meth E.hK (by rw[E.hts];kernel_rfl) (.var (mm 5 rfl)) .none (.le (My (Hn E)) (by decide))))
  (.cons (.let (mm 8 rfl) (.ofMake (.list .nil)))
  (.cons (.for (.range (mm 0 rfl) (.inr ⟨Cz E,Da E⟩) (.cons (.var (mm 2 rfl)) .nil)) (.name (mm 9 rfl)) (.cons (.forI (.meth E.hK (by rw[E.hts];kernel_rfl) (.var (mm 5 rfl)) .none (.le (Jh (Fu E)) (by decide))) (.name (mm 7 rfl)) (.cons (.expr (.callK E (mm 5 rfl) (Kn E) (by kernel_rfl) (.some (.cons (.var (mm 8 rfl)) (.cons (.tuple (.cons (.bin (.bin (.bcall (mm 6 rfl) (Yj E) (Yl E) (.some (.cons (MakeE.frz (.upto (n:=63) (.var (mm 0 rfl)))) .nil)) .sum) (.var (mm 7 rfl)) .mul) .int .mod) (.cons (.var (mm 7 rfl)) .nil))) .nil))) (.le (Ky E) (by decide))))
  .nil))
  (.cons (.let (mm 7 rfl) (.sub (.callK E (mm 7 rfl) (Hu E) (by kernel_rfl) (.some (.cons (.var (mm 8 rfl)) .nil)) (.le (Ih E) (by decide))) .int))
  (.cons (.ite (.all (.and (.ofTest (.cmp (.bin (.bin .int (.var (mm 7 rfl)) .mul) .int .add) (.var (mm 2 rfl)) .lt)) (.and (.cmp (.callK E (mm 8 rfl) (Jp E) (by kernel_rfl) (.some (.cons (.var (mm 3 rfl)) (.cons (.var (mm 7 rfl)) .nil))) (.le (Ki E) (by decide))) (.ofPure .none) .isNotG) .andNil))) (.cons (.ret (.ofPure .bool))
  .nil) .nil)
  (.cons (.expr (.meth E.hK (by rw[E.hts];kernel_rfl) (.var (mm 5 rfl)) (.some (.cons (.var (mm 7 rfl)) .nil)) (.le (Uh (Mx E)) (by decide))))
  .nil)))))
  (.cons (.for (.range (mm 0 rfl) (.inr ⟨Cz E,Da E⟩) (.cons (.var (mm 2 rfl)) .nil)) (.name (mm 7 rfl)) (.cons (.ite (.ofTest (.cmp (.sub (.var (mm 3 rfl)) (.var (mm 7 rfl))) (.sub (.var (mm 4 rfl)) (.var (mm 7 rfl))) .isNotR)) (.cons (.ret (.ofPure .bool))
  .nil) .nil)
  .nil))
  (.cons (.expr (.meth E.hK (by rw[E.hts];kernel_rfl) (.var (mm 6 rfl)) .none (.le (My (Hn E)) (by decide))))
  (.cons (.let (mm 10 rfl) (.ofMake (.list .nil)))
  (.cons (.for (.range (mm 0 rfl) (.inr ⟨Cz E,Da E⟩) (.cons (.var (mm 2 rfl)) .nil)) (.name (mm 9 rfl)) (.cons (.forI (.meth E.hK (by rw[E.hts];kernel_rfl) (.var (mm 6 rfl)) .none (.le (Jh (Fu E)) (by decide))) (.name (mm 7 rfl)) (.cons (.expr (.callK E (mm 5 rfl) (Kn E) (by kernel_rfl) (.some (.cons (.var (mm 8 rfl)) (.cons (.tuple (.cons (.sub (.sub (.var (mm 3 rfl)) (.var (mm 7 rfl))) .int) (.cons (.var (mm 7 rfl)) .nil))) .nil))) (.le (Ky E) (by decide))))
  .nil))
  (.cons (.unpack (.tuple (.cons (mm 11 rfl) (.cons (mm 7 rfl) .nil))) (.callK E (mm 7 rfl) (Hu E) (by kernel_rfl) (.some (.cons (.var (mm 8 rfl)) .nil)) (.le (Ih E) (by decide))))
  (.cons (.expr (.append (.var (mm 10 rfl)) (.var (mm 11 rfl))))
  (.cons (.expr (.meth E.hK (by rw[E.hts];kernel_rfl) (.var (mm 6 rfl)) (.some (.cons (.var (mm 7 rfl)) .nil)) (.le (Uh (Mx E)) (by decide))))
  .nil)))))
  (.cons (.for (.range (mm 0 rfl) (.inr ⟨Cz E,Da E⟩) (.cons (.var (mm 2 rfl)) .nil)) (.name (mm 7 rfl)) (.cons (.ite (.ofTest (.cmp (.sub (.var (mm 3 rfl)) (.var (mm 7 rfl))) (.sub (.var (mm 4 rfl)) (.var (mm 7 rfl))) .isNotR)) (.cons (.ret (.ofPure .bool))
  .nil) .nil)
  .nil))
  (.cons (.ite (.all (.or (.truV (.meth E.hK (by rw[E.hts];kernel_rfl) (.var (mm 5 rfl)) .none (.le (Jg (Ft E)) (by decide)))) (.or (.truV (.meth E.hK (by rw[E.hts];kernel_rfl) (.var (mm 6 rfl)) .none (.le (Jg (Ft E)) (by decide)))) (.or (.ofTest (.cmp (.var (mm 10 rfl)) (.bcall (mm 9 rfl) (Vj E) (Vl E) (.some (.cons (.var (mm 1 rfl)) .nil)) .sorted) .neG)) .orNil)))) (.cons (.ret (.ofPure .bool))
  .nil) .nil)
  (.cons (.ret (.bools (.and (.cmp (.compI (sc':=Uy) (.range (mm 0 rfl) (.inr ⟨Cz E,Da E⟩) (.cons (.var (mm 2 rfl)) .nil)) (.of rfl (by kernel_rfl)) (.name (mm 0 rfl)) (.pure .nil) (.sub (.callK E (mm 0 rfl) (Hu E) (by kernel_rfl) (.some (.cons (.var (mm 1 rfl)) .nil)) (.le (Ih E) (by decide))) .int)) (.ofPure (.var (mm 10 rfl))) .eq) (.one (.ofPure (.cmpB (.var (mm 3 rfl)) (MakeE.frz (.list .nil)) .eq))))))
  .nil)))))))))))))))))))
theorem CW_law (E:Env0 C (KK P) aTS aNI):CallR C 5 (.ref 181) (Zy C) :=
 .fnK (params:=["script"]) E (fd:=(Ej (KK P) 181).getD default) (by kernel_rfl) (by kernel_rfl) (by kernel_rfl) (by kernel_rfl) (.p1 fun _=>by kernel_rfl) (iJ E)
end
end L08
end Mine
end
section
namespace Mine
theorem Ks {h:Heap}{O:Addr->Prop}{G:Gh}:∀ {vs:List Value} {xs:List Int},IntsAre vs xs->VRels h O G (xs.map .int) vs
 | _,_,.nil=>by simp[vSn]
 | _,_,.cons n t r=>by
  simp only [List.map_cons,vSc]
  exact⟨_,_,rfl,⟨t,rfl⟩,Ks r⟩
theorem Pk {P:Params}{h:Heap}:∀ {vs:List Value} {xs:List Int},WellAll P h vs (ofPys (xs.map .int))->IntsAre vs xs
 | [],[],_=>.nil
 | [],_ :: _,w=>by simp[ofPys]at w;cases w
 | _ :: _,[],w=>by simp[ofPys]at w;cases w
 | v :: vs,x :: xs,w=>by
  simp only [List.map_cons,ofPys]at w
  cases w with
  | cons a b =>
   simp only [ofPy]at a
   cases a with
   | int i t=>exact .cons _ t (Pk b)
theorem law_end {C:Cx}{k:Nat}{fa scr:Addr}{W:FW}{c:ClaimW}{cl:Str->Option Addr}{mean:ExcName->Option Value}{args:List WData}{s1:Shared}{xs:List Int}(hC:C.h0=s1.heap)(hf:CallR C k (.ref fa) W)(hk:k<=60)
  (hW:∀ (Q:AV->AH->Prop) (H:AH),(∀ H',Q (.bool true) H')->W [.fl (xs.map .int)] Q H) (hz:xs.length<=63)
  {P:Params} (hw:Well P s1.heap (.ref scr) (ofPy (.list (xs.map .int)))) (hg:s1.gens = #[]) (hr:∀ cls,c.raises args cls=false) (hp:c.post args (.bool true) args=true) :
  codeAny (model C.prog C.w) callerA (.call (.ref fa) ⟨[.ref scr],[]⟩) (GoodWG c cl mean args s1) s1:=by
 have own0:∀ b,¬ own (fun z0=>none) (fun z0=>[]) b:=fun b ⟨a,h,_⟩=>h rfl
 have R:Rel C (fun z0=>none) (fun z0=>[]) (own (fun z0=>none) (fun z0=>[])) s1.heap :=
  ⟨fun z0 x=>x,(by intro a o e;exact nqa e),fun a h=>absurd rfl h,fun a b x h=>absurd rfl h,fun b o e=>⟨by rw[<- hC];exact e,own0 b⟩,fun b h=>absurd h (own0 b)⟩
 have hscr:∃ n items,s1.heap.get? scr=some (Bt items n)/\IntsAre items xs:=by
  simp only [ofPy]at hw
  cases hw with
  | list h1 h2=>exact⟨_,_,h1,Pk h2⟩
 obtain⟨n,items,hl,hI⟩:=hscr
 refine codeAny_mono (hf callerA s1 (fun z0=>none) (fun z0=>[]) [.fl (xs.map .int)] [.ref scr] (fun v z0=>v = .bool true) ⟨rfl,by refine(?_:1 + claimMargin + k + 20<=900);have:claimMargin=300:=rfl;exact Ar.r82 hk this,by refine(?_:4 + 100 * (k + 1)<=9000);exact Ar.r83 hk⟩ ⟨[],rfl,trivial,by simp⟩ R ?_ ?_ (hW _ _ fun z0=>rfl)) fun r s' hr'=>?_
 ·simp only [vSn,vSc,vRf]
  exact⟨_,_,rfl,⟨scr,n,items,rfl,hl,own0 _,by simp[Au];exact Ar.r85 hz,Ks hI⟩,rfl⟩
 ·simp only [AV.stos,AV.sto,Bool.and_true]
  rw[stos_iff];intro v hv;obtain⟨x,_,rfl⟩:=List.mem_map.mp hv;rfl
 rcases r with e | (v | _ | _ | _) <;> first | exact hr'.elim | skip
 obtain⟨v',H',G',rfl,hv,_,R',S⟩:=hr'
 simp only [vRb]at hv
 subst hv
 obtain⟨h',tk,rfl⟩:=S.same
 refine⟨.inl ⟨_,.bool true,[],rfl,hr,.bool true,hp,fun z0=>⟨by simp,by simp⟩⟩,.of_keep fun b o e=>(R'.base b o (by rw[hC];exact e)).1,rfl,.of_eq hg⟩
end Mine
end
set_option tactic.hygienic true
theorem PySem.Challenge.cw_dn0073_08_holds : PySem.Challenge.rw_dn0073_08.Holds := by
  refine Mine.hd08 ?_
  intro w s0 s1 mg mb G Y fa o pm cd doc dV kV ho hd hcd hD hmg hg args vals as hpre hlay hrd hwl hlo
  have KX:=kIn_of Y
  refine Ground.open G ?_
  intro T B D TE TW
  wrow_args hpre hlay hrd hwl hlo
  rename_i xs _ _ _ _ _ _ _ scr _ _ _ _ hw _ _ _ hlen _
  refine enter_call ?_
  let C:Mine.Cx:=⟨PySem.Challenge.rw_dn0073_08.row.prog,w,s1.heap,mg,mb,Mine.aTS,Mine.aNI,T.g,T.b,T.nolimit⟩
  have E:Mine.Env0 C (Mine.KK w.params) Mine.aTS Mine.aNI:=⟨KX,rfl,rfl,T.builtins⟩
  have hfa:fa=181:=by
    have h1:=Mine.Env0.glob E (x:="law") (v:=some (.ref 181)) (by kernel_rfl)
    have h2:C.mg "law" = some (.ref fa):=hmg
    rw[h1]at h2;injection h2 with h2;injection h2 with h2;exact h2.symm
  subst hfa
  exact Mine.law_end (C:=C) rfl (Mine.L08.CW_law E) (by decide) (fun Q H hQ=>Mine.L08.law_spec (by lia) hQ) (by lia) hw hg (fun z0=>rfl) (by first | rfl | wrow_post)
