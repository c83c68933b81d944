import PyProof.Rows.All
import Wide.All
import OpenK.AllK
import Wide.FinOn
import PySem.Challenge.RW_dn0073_01
open PySem PySem.W PyProof.Rows
set_option Elab.async false
set_option linter.all false
set_option maxRecDepth 100000
set_option tactic.hygienic false
set_option bootstrap.genMatcherCode false
@[elab_as_elim] theorem Mine.rwG {α : Sort _} {a b : α} {motive : α → Prop} (h : a = b) (x : motive b) : motive a := by cases h; exact x
@[elab_as_elim] theorem Mine.rwH {α : Sort _} {a b : α} {motive : α → Prop} (h : b = a) (x : motive b) : motive a := by cases h; exact x
local macro_rules
  | `(tactic| rw [$h:term]) => `(tactic| first | (refine Mine.rwG $h ?_; try with_reducible rfl) | (rewrite [$h:term]; try with_reducible rfl))
  | `(tactic| rw [← $h:term]) => `(tactic| first | (refine Mine.rwH $h ?_; try with_reducible rfl) | (rewrite [← $h:term]; try with_reducible rfl))
  | `(tactic| rw [$h:term, $r,*]) => `(tactic| (first | refine Mine.rwG $h ?_ | rewrite [$h:term]); rw [$r,*])
  | `(tactic| rw [← $h:term, $r,*]) => `(tactic| (first | refine Mine.rwH $h ?_ | rewrite [← $h:term]); rw [$r,*])
section
set_option tactic.hygienic true
set_option maxHeartbeats 8000000
namespace Mine
abbrev lw:=PySem.Challenge.rw_dn0073_01
/-- the view: the law's own def alone -/
noncomputable def q0:Program:={ lw.prog with main:={ lw.prog.main with body:=lw.prog.main.body.drop 22 } }
noncomputable def l0:List PySem.Str:=["_wall","add","inv","invert","lshift","mod","mul","neg","pos","sub","_NODE_OUT","_NODE_DONE","_NodeInfo","CycleError","TopologicalSorter","_law_order","_law_worked_out","_law_given_back","_law_plain"].map PySem.Str.ofString
theorem d0s:(defOf q0 lw.row.name).isSome=true:=by kernel_rfl
noncomputable def d0:DefRec × List (Str × PySem.Expr):=(defOf q0 lw.row.name).get d0s
noncomputable abbrev X0:Shared → Bool:=fun s=>xlAt q0 [] s && recOk (RowW.records lw.row.toRowW) s
theorem hop (H:Hook)(left:LeftO lw.row.prog q0 l0 X0 (Hook.obs H) (Hook.val H) 2620)(k1:lw.row.wellSaid=true)(hw:lw.row.toRowW.promised)
    (call:WalkO q0 l0 (XL q0 []) (Hook.says H) lw.row.toRowW d0.1 d0.2 fun f vs=>PySem.call f vs):lw.row.Holds :=
  holds_open (q:=q0) (loose:=l0) (Xt:=X0) (XP:=XL q0 []) (Yf:=Hook.obs H) (Ya:=Hook.val H) (YP:=Hook.says H) (d:=d0.1) (kwd:=d0.2) (N:=2620) left (Hook.of H) (Hook.keeps H) (fun s e=>xl_of s (Bool.and_eq_true_iff.mp e).1) XL.keeps (by kernel_rfl) (by kernel_rfl) (by kernel_rfl)
    (fun s e=>recFacts_of (Bool.and_eq_true_iff.mp e).2) (by rfl) k1 (by decide +kernel) ⟨rfl,rfl,rfl,rfl,rfl,by decide +kernel⟩ hw call
local macro_rules
  | `(tactic| o_law) => `(tactic| refine holds_law (by decide +kernel) fun said => ?_)
local macro_rules
  | `(tactic| o_head $H) => `(tactic| refine hop $H (fun w => by kernel_rfl) (by assumption) ?$(Lean.mkIdent `hw) ?$(Lean.mkIdent `hc))

open_top hd01 for PySem.Challenge.rw_dn0073_01
end Mine
end
section
set_option genInjectivity false
set_option genSizeOf false
namespace Mine
namespace Ar
abbrev Lf:=List Nat
abbrev Br:=List (Lf × Lf)
noncomputable def gt (c:List Nat):Nat->Nat:=List.rec (fun z0=>0) (fun x z0 ih n=>Nat.casesOn n x ih) c
noncomputable def dot (p:Lf):List Nat->Nat:=List.rec (fun z0=>0) (fun x z0 ih c=>List.casesOn c 0 fun y c=>x * y + ih c) p
noncomputable def add (p:Lf):Lf->Lf:=List.rec (fun q=>q) (fun x p ih q=>List.casesOn q (x :: p) fun y q=>Nat.add x y :: ih q) p
noncomputable def mul (k:Nat) (p:Lf):Lf:=List.rec [] (fun x z0 ih=>Nat.mul k x :: ih) p
noncomputable def Xs (n:Nat):Lf:=Nat.rec [1] (fun z0 ih=>0 :: ih) n
noncomputable def canc (p:Lf):Lf->Lf × Lf:=List.rec (fun q=>([],q)) (fun x p ih q=>List.casesOn q (x :: p,[]) fun y q=>(Nat.sub x y :: (ih q).1,Nat.sub y x :: (ih q).2)) p
theorem Vk {p:Lf}:dot p []=0:=by cases p <;> rfl
theorem dot_add {p q:Lf}{c:List Nat}:dot (add p q) c=dot p c + dot q c:=by
 induction p generalizing q c with
 | nil=>exact(Nat.zero_add _).symm
 | cons x p ih =>
  cases c with
  | nil=>exact(Vk (p:=add (x :: p) q)).trans (Vk (p:=q)).symm |>.trans (Nat.zero_add _).symm
  | cons z c=>cases q with
   | nil=>rfl
   | cons y q=>exact(congrArg (_ + ·) ih).trans ((congrArg (· + _) (Nat.add_mul x y z)).trans (Nat.add_add_add_comm ..))
theorem dot_mul {k:Nat}{p:Lf}{c:List Nat}:dot (mul k p) c=k * dot p c:=by
 induction p generalizing c with
 | nil=>rfl
 | cons x p ih =>
  cases c with
  | nil=>rfl
  | cons z c=>exact(congrArg (_ + ·) ih).trans ((congrArg (· + _) (Nat.mul_assoc k x z)).trans (Nat.mul_add ..).symm)
theorem bH {n:Nat}{c:List Nat}:dot (Xs n) c=gt c n:=by
 induction n generalizing c with
 | zero=>cases c with
  | nil=>rfl
  | cons y c=>exact Nat.one_mul y
 | succ n ih=>cases c with
  | nil=>rfl
  | cons y c=>exact(congrArg (· + _) (Nat.zero_mul y)).trans ((Nat.zero_add _).trans ih)
theorem gB {x y z a b m:Nat}(h:a + m=b):(x - y) * z + a + (min x y * z + m)=x * z + b:=by
 rw[Nat.add_add_add_comm,h,<- Nat.add_mul,Nat.sub_add_min_cancel]
theorem bQ {p q:Lf}{c:List Nat}:∃ m,dot (canc p q).1 c + m=dot p c/\dot (canc p q).2 c + m=dot q c:=by
 induction p generalizing q c with
 | nil=>exact⟨0,rfl,rfl⟩
 | cons x p ih=>cases q with
  | nil=>exact⟨0,rfl,rfl⟩
  | cons y q=>cases c with
   | nil=>exact⟨0,rfl,rfl⟩
   | cons z c=>exact(ih (q:=q) (c:=c)).elim fun m h=>⟨_,gB h.1,Nat.min_comm x y ▸ gB h.2⟩
noncomputable def Ok (c:List Nat) (x:Lf × Lf):Prop:=dot x.1 c<=dot x.2 c
noncomputable def Al (c:List Nat) (b:Br):Prop:=List.rec True (fun x z0 ih=>Ok c x/\ih) b
theorem Al.app {c:List Nat}{a b:Br}(ha:Al c a)(hb:Al c b):Al c (a++b):=by
 induction a with
 | nil=>exact hb
 | cons x a ih=>exact⟨ha.1,ih ha.2⟩
theorem Ok.canc {c:List Nat}{p q:Lf}(h:dot p c<=dot q c):Ok c (canc p q) :=
 (bQ (p:=p) (q:=q) (c:=c)).elim fun m e=>Nat.le_of_add_le_add_right (b:=m) (e.1.symm ▸ e.2.symm ▸ h)
theorem Ok.add {c:List Nat}{p q p' q':Lf}(h:dot p c<=dot q c)(h':dot p' c<=dot q' c):dot (add p p') c<=dot (add q q') c :=
 dot_add.symm ▸ dot_add.symm ▸ Nat.add_le_add h h'
theorem Ok.mul {c:List Nat}{p q:Lf}(k:Nat)(h:dot p c<=dot q c):dot (mul k p) c<=dot (mul k q) c :=
 dot_mul.symm ▸ dot_mul.symm ▸ Nat.mul_le_mul_left k h
noncomputable def jH (i:Nat) (U L:Lf × Lf) (r:Br):Br :=
 Nat.rec r (fun u z0=>Nat.rec r (fun l z0=>canc (add (mul (l + 1) U.1) (mul (u + 1) L.1)) (add (mul (l + 1) U.2) (mul (u + 1) L.2)) :: r) (gt L.2 i)) (gt U.1 i)
theorem eF {c:List Nat}{i:Nat}{U L:Lf × Lf}{r:Br}(hU:Ok c U)(hL:Ok c L)(hr:Al c r):Al c (jH i U L r):=by
 unfold jH
 cases gt U.1 i with
 | zero=>exact hr
 | succ u=>cases gt L.2 i with
  | zero=>exact hr
  | succ l=>exact⟨Ok.canc (Ok.add (Ok.mul _ hU) (Ok.mul _ hL)),hr⟩
noncomputable def bM (i:Nat) (U:Lf × Lf) (b r:Br):Br:=List.rec r (fun L z0 ih=>jH i U L ih) b
noncomputable def elim (i:Nat) (b r:Br):Br :=
 List.rec [] (fun U z0 ih=>Nat.rec (Nat.rec (U :: ih) (fun z0 z0=>ih) (gt U.2 i)) (fun z0 z0=>bM i U (([],Xs i) :: b) ih) (gt U.1 i)) r
theorem eA {c:List Nat}{i:Nat}{b r:Br}(hb:Al c b)(hr:Al c r):Al c (elim i b r):=by
 have hc {U:Lf × Lf} {r:Br} {b:Br} (hU:Ok c U) (h:Al c r) (hb:Al c b):Al c (bM i U b r):=by
  induction b with
  | nil=>exact h
  | cons L b ih=>exact eF hU hb.1 (ih hb.2)
 induction r with
 | nil=>exact hr
 | cons U r ih =>
  unfold elim
  have h:=ih hr.2
  refine(?_:Al c (Nat.rec (Nat.rec (U :: elim i b r) (fun z0 z0=>elim i b r) (gt U.2 i)) (fun z0 z0=>bM i U (([],Xs i) :: b) (elim i b r)) (gt U.1 i)))
  cases gt U.1 i with
  | zero=>cases gt U.2 i with
   | zero=>exact⟨hr.1,h⟩
   | succ=>exact h
  | succ=>exact hc (b:=([],Xs i) :: b) hr.1 h ⟨Nat.zero_le _,hb⟩
noncomputable def isz (q:Lf):Bool:=List.rec true (fun x z0 ih=>Nat.rec ih (fun z0 z0=>false) x) q
theorem dK {q:Lf}{c:List Nat}(h:isz q=true):dot q c=0:=by
 induction q generalizing c with
 | nil=>rfl
 | cons x q ih=>cases c with
  | nil=>rfl
  | cons z c=>cases x with
   | zero=>exact(congrArg (· + _) (Nat.zero_mul z)).trans ((Nat.zero_add _).trans (ih h))
   | succ=>cases h
noncomputable def bad (b:Br):Bool:=List.rec false (fun x z0 ih=>Nat.rec ih (fun z0 z0=>isz x.2 || ih) (gt x.1 0)) b
theorem bS {c:List Nat}{b:Br}(h:bad b=true)(hb:Al (1 :: c) b):False:=by
 induction b with
 | nil=>cases h
 | cons x b ih =>
  cases x with
  | mk p q=>cases p with
   | nil=>exact ih h hb.2
   | cons y p=>cases y with
    | zero=>exact ih h hb.2
    | succ y=>exact(Bool.or_eq_true_iff.mp h).elim (fun e=>Nat.not_lt_zero _ (Nat.lt_of_lt_of_le (Nat.lt_of_lt_of_le (Nat.lt_of_lt_of_le (Nat.succ_pos y) (Nat.le_of_eq (Nat.mul_one (y + 1)).symm)) (Nat.le_add_right _ _)) (dK e ▸ hb.1:dot ((y + 1) :: p) (1 :: c)<=0))) fun e=>ih e hb.2
noncomputable def Yx (n:Nat):Br->Bool:=Nat.rec bad (fun n ih b=>bad b || ih (elim (n + 1) b b)) n
theorem Wn {c:List Nat}{n:Nat}{b:Br}(h:Yx n b=true)(hb:Al (1 :: c) b):False:=by
 induction n generalizing b with
 | zero=>exact bS h hb
 | succ n ih=>exact(Bool.or_eq_true_iff.mp h).elim (fun h=>bS h hb) fun h=>ih h (eA hb hb)
abbrev Cs:=List (Br × Lf × Lf)
noncomputable def Vs (c:List Nat) (n:Nat) (y:Br × Lf × Lf):Prop:=Al c y.1/\n + dot y.2.2 c=dot y.2.1 c
noncomputable def Hv (c:List Nat) (n:Nat) (l:Cs):Prop:=List.rec False (fun y z0 ih=>Vs c n y\/ih) l
noncomputable def Hb (c:List Nat) (l:List Br):Prop:=List.rec False (fun b z0 ih=>Al c b\/ih) l
theorem Hv.app {c:List Nat}{n:Nat}{a b:Cs}(h:Hv c n a\/Hv c n b):Hv c n (a++b):=by
 induction a with
 | nil=>exact h.resolve_left id
 | cons x a ih=>exact h.elim (fun h=>h.elim .inl fun h=>.inr (ih (.inl h))) fun h=>.inr (ih (.inr h))
theorem Hb.app {c:List Nat}{a b:List Br}(h:Hb c a\/Hb c b):Hb c (a++b):=by
 induction a with
 | nil=>exact h.resolve_left id
 | cons x a ih=>exact h.elim (fun h=>h.elim .inl fun h=>.inr (ih (.inl h))) fun h=>.inr (ih (.inr h))
noncomputable def two {α:Type} (f:Br × Lf × Lf->Br × Lf × Lf->List α) (a b:Cs):List α :=
 List.rec [] (fun x z0 ih=>List.rec ih (fun y z0 ih=>f x y++ih) b) a
theorem Xu {α:Type}{P:List α->Prop}(hP:∀ a b,P a\/P b->P (a++b)){c:List Nat}{n m:Nat}{f:Br × Lf × Lf->Br × Lf × Lf->List α}(hf:∀ x y,Vs c n x->Vs c m y->P (f x y)){a b:Cs}(ha:Hv c n a)(hb:Hv c m b):P (two f a b):=by
 induction a with
 | nil=>exact ha.elim
 | cons x a ih =>
  have h:(Vs c n x/\Hv c m b)\/P (two f a b):=ha.elim (fun h=>.inl ⟨h,hb⟩) fun h=>.inr (ih h)
  refine(?_:P (List.rec (two f a b) (fun y z0 ih=>f x y++ih) b))
  clear ha ih hb
  generalize two f a b=r at h
  induction b with
  | nil=>exact h.elim (fun h=>h.2.elim) id
  | cons y b ih=>exact hP _ _ (h.elim (fun h=>h.2.elim (fun k=>.inl (hf _ _ h.1 k)) fun k=>.inr (ih (.inl ⟨h.1,k⟩))) fun h=>.inr (ih (.inr h)))
theorem Ot {c:List Nat}{n m r:Nat}{f:Br × Lf × Lf->Br × Lf × Lf->Cs}{a b:Cs}(hf:∀ x y,Vs c n x->Vs c m y->Hv c r (f x y))(ha:Hv c n a)(hb:Hv c m b):Hv c r (two f a b):=Xu (P:=Hv c r) (fun z0 z0=>Hv.app) hf ha hb
noncomputable def leF (d:Nat) (x y:Br × Lf × Lf):Br:=(add [d] (add x.2.1 y.2.2),add y.2.1 x.2.2) :: (x.1++y.1)
theorem Hu {c:List Nat}{d n m:Nat}{x y:Br × Lf × Lf}(h:n + d<=m)(hx:Vs (1 :: c) n x)(hy:Vs (1 :: c) m y):Al (1 :: c) (leF d x y):=by
 refine⟨?_,hx.1.app hy.1⟩
 refine(?_:dot (add [d] (add x.2.1 y.2.2)) _<=dot (add y.2.1 x.2.2) _)
 have e:dot [d] (1 :: c)=d:=(Nat.mul_one d)
 rw[dot_add,dot_add,dot_add,e,<- hx.2,<- hy.2,Nat.add_assoc n,<- Nat.add_assoc d,Nat.add_comm d n,Nat.add_comm (dot x.2.2 _),<- Nat.add_assoc]
 exact Nat.add_le_add_right (Nat.add_le_add_right h _) _
structure Tm where
 v:List Nat->Nat
 l:Cs
 h:∀ c,Hv (1 :: c) (v c) l
structure Fm where
 p:List Nat->Prop
 t:List Br
 f:List Br
 h:∀ c,p c->Hb (1 :: c) t
 k:∀ c,¬ p c->Hb (1 :: c) f
noncomputable def V (i:Nat):Tm:=⟨fun c=>gt c i,[([],Xs (i + 1),[])],fun c=>Or.inl ⟨trivial,(bH (n:=i + 1) (c:=1 :: c)).symm⟩⟩
noncomputable def K (n:Nat):Tm:=⟨fun z0=>n,[([],[n],[])],fun c=>Or.inl ⟨trivial,(Nat.mul_one n).symm⟩⟩
noncomputable def A (s t:Tm):Tm:=⟨fun c=>s.v c + t.v c,two (fun x y=>[(x.1++y.1,add x.2.1 y.2.1,add x.2.2 y.2.2)]) s.l t.l,
 fun c=>Ot (fun x y hx hy=>Or.inl ⟨hx.1.app hy.1,(congrArg (_ + ·) dot_add).trans ((Nat.add_add_add_comm ..).trans ((congrArg (· + _) hx.2).trans ((congrArg (_ + ·) hy.2).trans dot_add.symm)))⟩) (s.h c) (t.h c)⟩
theorem iL {c:List Nat}{n k:Nat}{l:Cs}(h:Hv c k l):Hv c (n * k) (l.map fun x=>(x.1,mul n x.2.1,mul n x.2.2)):=by
 induction l with
 | nil=>exact h
 | cons y l ih=>exact h.elim (fun h=>Or.inl ⟨h.1,(congrArg (_ + ·) dot_mul).trans ((Nat.mul_add ..).symm.trans ((congrArg (n * ·) h.2).trans dot_mul.symm))⟩) fun h=>Or.inr (ih h)
noncomputable def M (n:Nat) (t:Tm):Tm:=⟨fun c=>n * t.v c,t.l.map fun x=>(x.1,mul n x.2.1,mul n x.2.2),fun c=>iL (t.h c)⟩
theorem subI {n m a b d e:Nat}(h:m<=n)(hx:n + a=d)(hy:m + b=e):n - m + (e + a)=d + b:=by
 rw[<- hx,<- hy,Nat.add_assoc m,<- Nat.add_assoc,Nat.sub_add_cancel h,Nat.add_assoc,Nat.add_comm a]
noncomputable def S (s t:Tm):Tm:=⟨fun c=>s.v c - t.v c,two (fun x y=>[(leF 0 x y,[],[]),(leF 0 y x,add x.2.1 y.2.2,add y.2.1 x.2.2)]) s.l t.l,
 fun c=>Ot (fun x y hx hy=>(Nat.le_total (s.v c) (t.v c)).elim (fun h=>Or.inl ⟨Hu h hx hy,Nat.sub_eq_zero_of_le h⟩)
  fun h=>Or.inr (Or.inl ⟨Hu h hy hx,dot_add.symm ▸ dot_add.symm ▸ subI h hx.2 hy.2⟩)) (s.h c) (t.h c)⟩
noncomputable def X (s t:Tm):Tm:=⟨fun c=>max (s.v c) (t.v c),two (fun x y=>[(leF 0 x y,y.2),(leF 0 y x,x.2)]) s.l t.l,
 fun c=>Ot (fun x y hx hy=>(Nat.le_total (s.v c) (t.v c)).elim (fun h=>Or.inl ⟨Hu h hx hy,(congrArg (· + _) (Nat.max_eq_right h)).trans hy.2⟩)
  fun h=>Or.inr (Or.inl ⟨Hu h hy hx,(congrArg (· + _) (Nat.max_eq_left h)).trans hx.2⟩)) (s.h c) (t.h c)⟩
noncomputable def Y (s t:Tm):Tm:=⟨fun c=>min (s.v c) (t.v c),two (fun x y=>[(leF 0 x y,x.2),(leF 0 y x,y.2)]) s.l t.l,
 fun c=>Ot (fun x y hx hy=>(Nat.le_total (s.v c) (t.v c)).elim (fun h=>Or.inl ⟨Hu h hx hy,(congrArg (· + _) (Nat.min_eq_left h)).trans hx.2⟩)
  fun h=>Or.inr (Or.inl ⟨Hu h hy hx,(congrArg (· + _) (Nat.min_eq_right h)).trans hy.2⟩)) (s.h c) (t.h c)⟩
noncomputable def le (d:Nat) (s t:Tm):List Br:=two (fun x y=>[leF d x y]) s.l t.l
theorem Hh {c:List Nat}{d:Nat}{s t:Tm}(h:s.v c + d<=t.v c):Hb (1 :: c) (le d s t) :=
 Xu (fun z0 z0=>Hb.app) (fun x y hx hy=>Or.inl (Hu h hx hy)) (s.h c) (t.h c)
noncomputable def Pc (a b:List Br):List Br:=List.rec [] (fun x z0 ih=>List.rec ih (fun y z0 ih=>(x++y) :: ih) b) a
theorem Ii {c:List Nat}{a b:List Br}(ha:Hb c a)(hb:Hb c b):Hb c (Pc a b):=by
 induction a with
 | nil=>exact ha.elim
 | cons x a ih =>
  have h:(Al c x/\Hb c b)\/Hb c (Pc a b):=ha.elim (fun h=>Or.inl ⟨h,hb⟩) fun h=>Or.inr (ih h)
  refine(?_:Hb c (List.rec (Pc a b) (fun y z0 ih=>(x++y) :: ih) b))
  clear ha ih hb
  generalize Pc a b=r at h
  induction b with
  | nil=>exact h.elim (fun h=>h.2.elim) id
  | cons y b ih=>exact h.elim (fun h=>h.2.elim (fun k=>Or.inl (h.1.app k)) fun k=>Or.inr (ih (.inl ⟨h.1,k⟩))) fun h=>Or.inr (ih (.inr h))
noncomputable def L (s t:Tm):Fm:=⟨fun c=>s.v c<=t.v c,le 0 s t,le 1 t s,fun c h=>Hh h,fun c h=>Hh (Nat.lt_of_not_le h)⟩
noncomputable def T (s t:Tm):Fm:=⟨fun c=>s.v c < t.v c,le 1 s t,le 0 t s,fun c h=>Hh h,fun c h=>Hh (Nat.le_of_not_lt h)⟩
noncomputable def E (s t:Tm):Fm:=⟨fun c=>s.v c=t.v c,Pc (le 0 s t) (le 0 t s),le 1 s t++le 1 t s,fun c h=>Ii (Hh (Nat.le_of_eq h)) (Hh (Nat.le_of_eq h.symm)),fun c h=>Hb.app ((Nat.lt_or_gt_of_ne h).imp Hh Hh)⟩
noncomputable def N (f:Fm):Fm:=⟨fun c=>¬ f.p c,f.f,f.t,f.k,fun c h=>f.h c (Classical.not_not.mp h)⟩
noncomputable def B (f g:Fm):Fm:=⟨fun c=>f.p c/\g.p c,Pc f.t g.t,f.f++g.f,fun c h=>Ii (f.h c h.1) (g.h c h.2),fun c h=>Hb.app ((Classical.not_and_iff_not_or_not.mp h).imp (f.k c) (g.k c))⟩
noncomputable def O (f g:Fm):Fm:=⟨fun c=>f.p c\/g.p c,f.t++g.t,Pc f.f g.f,fun c h=>Hb.app (h.imp (f.h c) (g.h c)),fun c h=>Ii (f.k c fun x=>h (.inl x)) (g.k c fun x=>h (.inr x))⟩
noncomputable def I (f g:Fm):Fm:=⟨fun c=>f.p c->g.p c,f.f++g.t,Pc f.t g.f,fun c h=>Hb.app ((Classical.em (f.p c)).symm.imp (f.k c) fun x=>g.h c (h x)),fun c h=>Ii (f.h c (Classical.byContradiction fun x=>h fun y=>absurd y x)) (g.k c fun x=>h fun z0=>x)⟩
noncomputable def F:Fm:=⟨fun z0=>False,[],[[]],fun c h=>h,fun c h=>Or.inl trivial⟩
noncomputable def D (i:Nat) (t:Tm) (k:Nat):Fm:=⟨fun c=>gt c i=t.v c / (k + 1),Pc (le 0 (M (k + 1) (V i)) t) (le 0 t (A (M (k + 1) (V i)) (K k))),[[]],
 fun c h=>Ii (Hh (s:=M (k + 1) (V i)) (Nat.le_trans (Nat.le_of_eq (congrArg ((k + 1) * ·) h)) (Nat.mul_div_le ..))) (Hh (t:=A (M (k + 1) (V i)) (K k)) (Nat.le_trans (Nat.le_of_eq (Nat.div_add_mod (t.v c) (k + 1)).symm) (Nat.add_le_add (Nat.le_of_eq (congrArg ((k + 1) * ·) h.symm)) (Nat.le_of_lt_succ (Nat.mod_lt _ (Nat.succ_pos k)))))),fun c h=>Or.inl trivial⟩
noncomputable def kW (n:Nat) (l:List Br):Bool:=List.rec true (fun b z0 ih=>Yx n b && ih) l
theorem eG {c:List Nat}{n:Nat}{l:List Br}(h:kW n l=true)(hl:Hb (1 :: c) l):False:=by
 induction l with
 | nil=>exact hl
 | cons b l ih=>exact hl.elim (Wn (Bool.and_eq_true_iff.mp h).1) (ih (Bool.and_eq_true_iff.mp h).2)
theorem w (n:Nat)(f:Fm)(c:List Nat)(h:kW n f.f=true):f.p c:=Classical.byContradiction fun x=>eG h (f.k c x)
end Ar
end Mine
end
section
set_option genInjectivity false
set_option genSizeOf false
namespace Mine
namespace Ar
noncomputable abbrev p0:=V 0
noncomputable abbrev p1:=V 1
noncomputable abbrev p2:=V 2
noncomputable abbrev p3:=V 3
noncomputable abbrev p4:=V 4
noncomputable abbrev p5:=V 5
noncomputable abbrev p6:=V 6
noncomputable abbrev p7:=V 7
noncomputable abbrev p8:=V 8
theorem r1 {a b c}:(E (A (A p0 (K 1)) (A p1 (A p2 (K 1)))) (A (A (A p0 (K 1)) p1) (A p2 (K 1)))).p [a,b,c]:=w 3 _ _ (by kernel_rfl)
theorem r2 {a b}:(E (A (A p0 (K 1)) p1) (A p1 (A p0 (K 1)))).p [a,b]:=w 2 _ _ (by kernel_rfl)
theorem r4 {a b}:(E (A p0 (A p1 (K 1))) (A (A p0 (K 1)) p1)).p [a,b]:=w 2 _ _ (by kernel_rfl)
theorem r7 {a b c}:(I (E (A p0 (A p1 (K 1))) p2) (E (A (A p0 (K 1)) p1) p2)).p [a,b,c]:=w 3 _ _ (by kernel_rfl)
theorem r12 {a b}:(I (E (A p0 (K 1)) p1) (T p0 p1)).p [a,b]:=w 2 _ _ (by kernel_rfl)
theorem r13 {a b c}:(I (E (A p0 p1) p2) (E (A (A p0 (K 1)) p1) (A p2 (K 1)))).p [a,b,c]:=w 3 _ _ (by kernel_rfl)
theorem r14 {a b c}:(I (E (A p0 p1) p2) (E (A p0 (A p1 (K 1))) (A p2 (K 1)))).p [a,b,c]:=w 3 _ _ (by kernel_rfl)
theorem r15 {a b c}:(I (E (S p0 p1) (A p2 (K 1))) (E (S p0 (A p1 (K 1))) p2)).p [a,b,c]:=w 3 _ _ (by kernel_rfl)
theorem r16 {a b c}:(I (E (S p0 p1) (A p2 (K 1))) (T p1 p0)).p [a,b,c]:=w 3 _ _ (by kernel_rfl)
theorem r17 {a b c}:(I (E (S p0 p1) (K 0)) (L (Y p0 p2) p1)).p [a,b,c]:=w 3 _ _ (by kernel_rfl)
theorem r18 {a b}:(I (E (S p0 p1) (K 0)) (L p0 p1)).p [a,b]:=w 2 _ _ (by kernel_rfl)
theorem r19 {a b}:(I (E p0 (A p1 (K 1))) (L p0 (A p1 (K 1)))).p [a,b]:=w 2 _ _ (by kernel_rfl)
theorem r20 {a b}:(I (E p0 (A p1 (K 1))) (T p1 p0)).p [a,b]:=w 2 _ _ (by kernel_rfl)
theorem r27 {a}:(I (E p0 (K 1)) (L p0 (K 1))).p [a]:=w 1 _ _ (by kernel_rfl)
theorem r28 {a}:(I (E p0 (K 1)) (L p0 (K 10))).p [a]:=w 1 _ _ (by kernel_rfl)
theorem r29 {a b c}:(I (E p0 p1) (I (E p2 p0) (L p1 p2))).p [a,b,c]:=w 3 _ _ (by kernel_rfl)
theorem r30 {a b c d e f}:(I (E p0 p1) (I (E p2 p3) (I (L p4 p5) (I (L (A p1 p3) p4) (L (A p0 p2) p5))))).p [a,b,c,d,e,f]:=w 6 _ _ (by kernel_rfl)
theorem r32 {a b c}:(I (E p0 p1) (I (L p1 p2) (L p0 p2))).p [a,b,c]:=w 3 _ _ (by kernel_rfl)
theorem r34 {a b c}:(I (E p0 p1) (I (N (T p2 p1)) (L p0 p2))).p [a,b,c]:=w 3 _ _ (by kernel_rfl)
theorem r38 {a b c}:(I (E p0 p1) (I (T p2 p1) (T p2 p0))).p [a,b,c]:=w 3 _ _ (by kernel_rfl)
theorem r39 {a b}:(I (E p0 p1) (L p1 p0)).p [a,b]:=w 2 _ _ (by kernel_rfl)
theorem r40 {a b}:(I (E p0 p1) (N (T p0 p1))).p [a,b]:=w 2 _ _ (by kernel_rfl)
theorem r45 {a b c d e f g i}:(I (L (A (A (A p0 p1) p2) (K 2)) p3) (I (L p4 (A p0 p5)) (I (L p6 p7) (I (L (A p5 (M 1 p7)) p1) (L (A p4 p6) p3))))).p [a,b,c,d,e,f,g,i]:=w 8 _ _ (by kernel_rfl)
theorem r46 {a b c d}:(I (L (A (A (A p0 p1) p2) (K 2)) p3) (L (A p2 (K 1)) p3)).p [a,b,c,d]:=w 4 _ _ (by kernel_rfl)
theorem r47 {a b c}:(I (L (A (A p0 (A p1 (K 1))) (K 1)) p2) (L (A (A (A p0 (K 1)) p1) (K 1)) p2)).p [a,b,c]:=w 3 _ _ (by kernel_rfl)
theorem r48 {a b c}:(I (L (A (A p0 (A p1 (K 1))) (K 1)) p2) (T p0 p2)).p [a,b,c]:=w 3 _ _ (by kernel_rfl)
theorem r49 {a b c}:(I (L (A (A p0 (A p1 (K 1))) (K 20)) (K 900)) (I (L p2 (K 1)) (L (A (A (A p0 p2) p1) (K 20)) (K 900)))).p [a,b,c]:=w 3 _ _ (by kernel_rfl)
theorem r50 {a b}:(I (L (A (A p0 (A p1 (K 1))) (K 20)) (K 900)) (L (A (A (A p0 (K 1)) p1) (K 20)) (K 900))).p [a,b]:=w 2 _ _ (by kernel_rfl)
theorem r51 {a b}:(I (L (A (A p0 (A p1 (K 1))) (K 20)) (K 900)) (T p0 (K 1000))).p [a,b]:=w 2 _ _ (by kernel_rfl)
theorem r52 {a b}:(I (L (A (A p0 (K 1)) (K 1)) p1) (L p0 p1)).p [a,b]:=w 2 _ _ (by kernel_rfl)
theorem r53 {a b c d}:(I (L (A (A p0 p1) (K 1)) p2) (I (E (A p3 (K 1)) p1) (L (A (A (A p0 (K 1)) p3) (K 1)) p2))).p [a,b,c,d]:=w 4 _ _ (by kernel_rfl)
theorem r54 {a b c}:(I (L (A (A p0 p1) (K 1)) p2) (T p0 p2)).p [a,b,c]:=w 3 _ _ (by kernel_rfl)
theorem r56 {a b c}:(I (L (A p0 (A p1 (K 1))) p2) (L (A (A p0 (K 1)) p1) p2)).p [a,b,c]:=w 3 _ _ (by kernel_rfl)
theorem r57 {a b c}:(I (L (A p0 (A p1 (K 1))) p2) (L (A p0 p1) p2)).p [a,b,c]:=w 3 _ _ (by kernel_rfl)
theorem r58 {a b c}:(I (L (A p0 (A p1 (K 1))) p2) (T p0 p2)).p [a,b,c]:=w 3 _ _ (by kernel_rfl)
theorem r59 {a b}:(I (L (A p0 (K 1)) p1) (L p0 p1)).p [a,b]:=w 2 _ _ (by kernel_rfl)
theorem r60 {a b}:(I (L (A p0 (K 1)) p1) (T p0 p1)).p [a,b]:=w 2 _ _ (by kernel_rfl)
theorem r61 {a b}:(I (L (A p0 (K 100)) p1) (L (A (A (A p0 (K 1)) (K 6)) (K 1)) p1)).p [a,b]:=w 2 _ _ (by kernel_rfl)
theorem r62 {a b}:(I (L (A p0 (K 100)) p1) (L (A (A p0 (K 7)) (K 1)) p1)).p [a,b]:=w 2 _ _ (by kernel_rfl)
theorem r63 {a b}:(I (L (A p0 (K 100)) p1) (T p0 p1)).p [a,b]:=w 2 _ _ (by kernel_rfl)
theorem r64 {a b c}:(I (L (A p0 (M 100 (A (A p1 (K 1)) (K 1)))) (K 9000)) (I (L p2 (K 10)) (L (A (A p0 p2) (M 100 (A p1 (K 1)))) (K 9000)))).p [a,b,c]:=w 3 _ _ (by kernel_rfl)
theorem r65 {a b}:(I (L (A p0 (M 100 (A (A p1 (K 1)) (K 1)))) (K 9000)) (L (A (A p0 (K 3)) (M 100 (A p1 (K 1)))) (K 9000))).p [a,b]:=w 2 _ _ (by kernel_rfl)
theorem r66 {a b}:(I (L (A p0 (M 100 (A p1 (K 1)))) (K 9000)) (L (A p0 (K 100)) (K 9900))).p [a,b]:=w 2 _ _ (by kernel_rfl)
theorem r67 {a b c d e}:(I (L (A p0 p1) (A p2 p3)) (I (L (A p4 (K 1)) p1) (T (A p0 p4) (A p2 p3)))).p [a,b,c,d,e]:=w 5 _ _ (by kernel_rfl)
theorem r68 {a b c d e}:(I (L (A p0 p1) p2) (I (L p3 (A p0 p4)) (I (T p4 p1) (L (A p3 (K 1)) p2)))).p [a,b,c,d,e]:=w 5 _ _ (by kernel_rfl)
theorem r71 {a b c}:(I (L p0 (A p1 (K 1))) (I (T p2 p0) (L p2 p1))).p [a,b,c]:=w 3 _ _ (by kernel_rfl)
theorem r72 {a b}:(I (L p0 (A p1 (K 1))) (L p0 (A p1 (K 1)))).p [a,b]:=w 2 _ _ (by kernel_rfl)
theorem r73 {a b c d e f}:(I (L p0 (A p1 p2)) (I (L p3 p4) (I (L p5 (A p0 p3)) (L p5 (A p1 (A p2 (M 1 p4))))))).p [a,b,c,d,e,f]:=w 6 _ _ (by kernel_rfl)
theorem r74 {a b c}:(I (L p0 (A p1 p2)) (L (A p0 (K 1)) (A p1 (A p2 (K 1))))).p [a,b,c]:=w 3 _ _ (by kernel_rfl)
theorem r75 {a b c}:(I (L p0 (A p1 p2)) (L p0 (A p1 (A p2 (K 1))))).p [a,b,c]:=w 3 _ _ (by kernel_rfl)
theorem r76 {a b}:(I (L p0 (K 0)) (I (T p1 p0) F)).p [a,b]:=w 2 _ _ (by kernel_rfl)
theorem r77 {a b}:(I (L p0 (K 1000)) (I (L p1 (A p0 (K 1))) (L p1 (A (K 16777216) (K 1))))).p [a,b]:=w 2 _ _ (by kernel_rfl)
theorem r80 {a}:(I (L p0 (K 1048576)) (N (T (K 16777216) p0))).p [a]:=w 1 _ _ (by kernel_rfl)
theorem r82 {a b}:(I (L p0 (K 60)) (I (E p1 (K 300)) (L (A (A (A (K 1) p1) p0) (K 20)) (K 900)))).p [a,b]:=w 2 _ _ (by kernel_rfl)
theorem r83 {a}:(I (L p0 (K 60)) (L (A (K 4) (M 100 (A p0 (K 1)))) (K 9000))).p [a]:=w 1 _ _ (by kernel_rfl)
theorem r85 {a}:(I (L p0 (K 63)) (L p0 (K 1048576))).p [a]:=w 1 _ _ (by kernel_rfl)
theorem r94 {a b}:(I (L p0 (S p1 (K 1))) (I (T (K 0) p1) (L (A p0 (K 1)) p1))).p [a,b]:=w 2 _ _ (by kernel_rfl)
theorem r95 {a b c d}:(I (L p0 p1) (I (E p2 p0) (I (L p1 p3) (L p2 p3)))).p [a,b,c,d]:=w 4 _ _ (by kernel_rfl)
theorem r96 {a b c}:(I (L p0 p1) (I (E p2 p0) (L p2 p1))).p [a,b,c]:=w 3 _ _ (by kernel_rfl)
theorem r97 {a b c}:(I (L p0 p1) (I (L (A (A p2 p1) (K 20)) (K 900)) (L (A (A p2 p0) (K 20)) (K 900)))).p [a,b,c]:=w 3 _ _ (by kernel_rfl)
theorem r98 {a b c}:(I (L p0 p1) (I (L (A p2 (M 100 (A p1 (K 1)))) (K 9000)) (L (A p2 (M 100 (A p0 (K 1)))) (K 9000)))).p [a,b,c]:=w 3 _ _ (by kernel_rfl)
theorem r102 {a b}:(I (L p0 p1) (I (T (A p1 (K 2)) (K 4096)) (T (A p0 (K 1)) (K 4096)))).p [a,b]:=w 2 _ _ (by kernel_rfl)
theorem r122 {a b c}:(I (N (T p0 p1)) (L (Y p2 p1) p0)).p [a,b,c]:=w 3 _ _ (by kernel_rfl)
theorem r123 {a b}:(I (N (T p0 p1)) (L p1 p0)).p [a,b]:=w 2 _ _ (by kernel_rfl)
theorem r124 {a b c}:(I (T (A (A p0 (K 1)) p1) p2) (T (A p0 (A p1 (K 1))) p2)).p [a,b,c]:=w 3 _ _ (by kernel_rfl)
theorem r125 {a b c d}:(I (T (A (A p0 (M 2 p1)) (K 2)) p2) (I (L p3 p0) (T p3 p2))).p [a,b,c,d]:=w 4 _ _ (by kernel_rfl)
theorem r126 {a b c}:(I (T (A (A p0 (M 2 p1)) (K 2)) p2) (L (A (A p1 (K 1)) (K 1)) p2)).p [a,b,c]:=w 3 _ _ (by kernel_rfl)
theorem r127 {a b c}:(I (T (A (A p0 (M 2 p1)) (K 2)) p2) (T (A (A p0 (K 1)) (M 2 p1)) p2)).p [a,b,c]:=w 3 _ _ (by kernel_rfl)
theorem r135 {a b c}:(I (T (A p0 (K 2)) (K 4096)) (I (L (A p1 (A p2 (K 1))) p0) (T p1 (K 1048576)))).p [a,b,c]:=w 3 _ _ (by kernel_rfl)
theorem r136 {a b}:(I (T (A p0 (K 2)) (K 4096)) (I (L (A p1 (K 1)) p0) (L (A p1 (K 1)) (K 1048576)))).p [a,b]:=w 2 _ _ (by kernel_rfl)
theorem r137 {a b}:(I (T (A p0 (K 2)) (K 4096)) (I (L p1 p0) (L p1 (K 1048575)))).p [a,b]:=w 2 _ _ (by kernel_rfl)
theorem r138 {a b}:(I (T (A p0 (K 2)) (K 4096)) (I (L p1 p0) (T p1 (K 1048576)))).p [a,b]:=w 2 _ _ (by kernel_rfl)
theorem r139 {a}:(I (T (A p0 (K 2)) (K 4096)) (L p0 (K 1048576))).p [a]:=w 1 _ _ (by kernel_rfl)
theorem r140 {a b c d}:(I (T (A p0 (M 2 (A p1 (K 1)))) p2) (I (L p3 (A p0 (K 1))) (L (A p3 (K 1)) p2))).p [a,b,c,d]:=w 4 _ _ (by kernel_rfl)
theorem r141 {a b c d}:(I (T (A p0 (M 2 (A p1 (K 1)))) p2) (I (L p3 p0) (T p3 p2))).p [a,b,c,d]:=w 4 _ _ (by kernel_rfl)
theorem r142 {a b c}:(I (T (A p0 (M 2 (A p1 (K 1)))) p2) (T (A (A p0 (K 2)) (M 2 p1)) p2)).p [a,b,c]:=w 3 _ _ (by kernel_rfl)
theorem r180 {a}:(I (T p0 p0) F).p [a]:=w 1 _ _ (by kernel_rfl)
theorem r184 {a b c}:(I (T p0 p1) (I (T p0 p2) (T p0 (Y p1 p2)))).p [a,b,c]:=w 3 _ _ (by kernel_rfl)
theorem r187 {a b c}:(I (T p0 p1) (L (A (A p2 (S p1 (A p0 (K 1)))) (K 1)) (A p2 (S p1 p0)))).p [a,b,c]:=w 3 _ _ (by kernel_rfl)
theorem r188 {a b}:(I (T p0 p1) (L (A p0 (K 1)) p1)).p [a,b]:=w 2 _ _ (by kernel_rfl)
theorem r190 {a b}:(I (T p0 p1) (L p0 p1)).p [a,b]:=w 2 _ _ (by kernel_rfl)
theorem r193 {a b}:(I (T p0 p1) (T (S p1 (A p0 (K 1))) (S p1 p0))).p [a,b]:=w 2 _ _ (by kernel_rfl)
theorem r194 {a b}:(I (T p0 p1) (T p0 p1)).p [a,b]:=w 2 _ _ (by kernel_rfl)
theorem r199 {a b}:(L (A (A p0 (K 1)) (M 2 p1)) (A (A p0 (M 2 p1)) (K 1))).p [a,b]:=w 2 _ _ (by kernel_rfl)
theorem r200 {a b}:(L (A (A p0 (K 2)) (M 2 p1)) (A p0 (M 2 (A p1 (K 1))))).p [a,b]:=w 2 _ _ (by kernel_rfl)
theorem r201 {a}:(L (A (K 0) p0) p0).p [a]:=w 1 _ _ (by kernel_rfl)
theorem r202 {a b c}:(L (A p0 (A p1 p2)) (A (A p0 (A p2 (K 1))) p1)).p [a,b,c]:=w 3 _ _ (by kernel_rfl)
theorem r203 {a}:(L p0 (A (A p0 (K 1)) (K 1))).p [a]:=w 1 _ _ (by kernel_rfl)
theorem r205 {a b c}:(L p0 (A p0 (S p1 p2))).p [a,b,c]:=w 3 _ _ (by kernel_rfl)
theorem r212:(T (K 0) (K 4096)).p []:=w 0 _ _ (by kernel_rfl)
theorem r213 {a}:(T (K 3) (A (A (A (A (A (A (K 0) (K 1)) (K 1)) (K 1)) (K 1)) (K 1)) p0)).p [a]:=w 1 _ _ (by kernel_rfl)
theorem r217 {a b}:(T p0 (A p1 (S (A p0 (K 1)) p1))).p [a,b]:=w 2 _ _ (by kernel_rfl)
theorem r223 {a:Int}(_:0 < a/\a < 1073741824):0<=a:=by omega
theorem r224 {a:Int}(_:0 < a/\a < 1073741824):a ≠ 0:=by lia
theorem r225 {a:Int}(_:0 < a):0<=a:=by lia
theorem r226 {a:Int}(_:0 < a):a ≠ 0:=by lia
theorem r228 {a:Int}(_:0<=a):0<=a + 1:=by lia
theorem r229 {a:Int}(_:0<=a):¬a < 0:=by lia
theorem r231 {a:Int}(_:a < 0):a ≠ 0:=by lia
theorem r232 {a:Int}(_:a > 0):0<=a:=by lia
theorem r233 {a:Int}(_:¬0<=a):a < 0:=by lia
theorem r237 {a:Int}{b:Int}(_:a < b):0<=b - a - 1:=by lia
theorem r238 {a:Int}{b:Int}(_:a > b):0<=a - b - 1:=by lia
theorem r240 {a:Int}{b:Int}{c:Int}{d:Int}{e:Nat}(_:((((((-1000000000 < a/\a < 1000000000)/\-1000000000 < b)/\b < 1000000000)/\-1000000 < c)/\c < 1000000)/\c ≠ 0)/\d.toNat<=e):c ≠ 0:=by omega
theorem r244 {a:Int}{b:Nat}{c:Nat}(_:a < (b:Int))(_:c=b):a < (c:Int):=by lia
theorem r248 {a:Nat}(_:a<=1000000):(a:Int)<=1000000:=by lia
theorem r253 {a:Nat}:0 + (a:Int) * 1=(a:Int):=by lia
theorem r254 {a:Nat}:0<=(a:Int):=by lia
theorem r255 {a:Nat}:¬(a:Int) < 0:=by lia
theorem r261 {a:Nat}{b:Nat}(_:((a + b):Int)=(b:Int)):a=0:=by lia
theorem r267 {a:Nat}{b:Nat}:((a + b):Int) - (b:Int)=(a:Int):=by lia
theorem r268 {a:Nat}{b:Nat}:(a:Int)<=((b + a):Int):=by lia
end Ar
end Mine
end
section
set_option genInjectivity false
set_option genSizeOf false
namespace Mine
theorem nqa {α:Type}{P:Prop}{a:α}(h:none=some a):P:=nomatch h
theorem nqb {α:Type}{P:Prop}{a:α}(h:some a=none):P:=nomatch h
theorem nqc {P:Prop}(h:true=false):P:=nomatch h
theorem nqd {P:Prop}(h:false=true):P:=nomatch h
structure Cx where
 prog:Program
 w:World
 h0:Heap
 mg:Str->Option Value
 mb:Str->Option Value
 tsC:Addr
 niC:Addr
 ns:h0.Ns mainGlobals mg
 nb:h0.Ns builtinsNs mb
 lim:h0.NoLimit
inductive AV where
 | undef
 | none
 | bool (b:Bool)
 | int (i:Int)
 | str (s:Str)
 | tup (vs:List AV)
 | fl (vs:List AV)
 | ref (a:Addr)
 | row (a:Addr) (i:Nat)
 | bi (id:String)
 | ty (n:String)
mutual
noncomputable def AV.sto:AV->Bool
 | .row _ _=>false
 | .tup vs=>AV.stos vs
 | .fl vs=>AV.stos vs
 | _=>true
noncomputable def AV.stos:List AV->Bool
 | []=>true
 | v :: r=>v.sto && AV.stos r
end
theorem stos_iff:∀ {vs:List AV},AV.stos vs=true <-> ∀ v ∈ vs,v.sto=true
 | []=>by simp[AV.stos]
 | v :: r=>by simp[AV.stos,stos_iff (vs:=r)]
inductive FObj where
 | lst (lk:Bool) (vs:List AV)
 | mat (lk:Bool) (M:List (List AV))
 | dic (lk:Bool) (es:List (Int × AV))
 | iset (ks:List Int)
 | inst (c:Addr) (attrs:List (Str × AV))
 | slots (c:Addr) (vs:List (Option AV))
 | nxt (src:Addr) (pos:Nat)
noncomputable def FObj.lk:FObj->Bool
 | .lst b _=>b
 | .dic b _=>b
 | .mat b _=>b
 | _=>false
structure NodeS where
 key:Int
 npred:Int
 succs:List Int
structure SState where
 nodes:List NodeS
 ready:Option (List Int)
 passed:Int
 fin:Int
inductive AObj where
 | f (o:FObj)
 | srt (S:SState)
theorem fI {o o':FObj}(h:some (AObj.f o)=some (AObj.f o')):o=o':=by cases h;rfl
noncomputable abbrev AH:=Addr->Option AObj
noncomputable abbrev Gh:=Addr->List Addr
noncomputable abbrev Rho:=Nat->AV
noncomputable def upd (H:AH) (a:Addr) (o:AObj):AH:=fun b=>if b=a then some o else H b
noncomputable def del (H:AH) (a:Addr):AH:=fun b=>if b=a then none else H b
noncomputable def Bx (G:Gh) (a:Addr) (l:List Addr):Gh:=fun b=>if b=a then l else G b
noncomputable def Rho.set (ρ:Rho) (i:Nat) (v:AV):Rho:=fun j=>if j=i then v else ρ j
@[simp] theorem Af {H:AH} {a o}:upd H a o a=some o:=by simp[upd]
theorem Ab {H:AH}{a b o}(h:b ≠ a):upd H a o b=H b:=by simp[upd,h]
@[simp] theorem Rho.set_self {ρ:Rho} {i v}:ρ.set i v i=v:=by simp[Rho.set]
theorem Rho.set_ne {ρ:Rho}{i j v}(h:j ≠ i):ρ.set i v j=ρ j:=by simp[Rho.set,h]
noncomputable def own (H:AH) (G:Gh) (b:Addr):Prop:=∃ a,H a ≠ none/\(b=a\/b ∈ G a)
noncomputable def lim:Nat:=1048576
theorem An:lim=1048576:=rfl
noncomputable def Bu (items:List Value) (n:Nat):Obj:={ cls:=.type "list",dict:=none,data:=.seq items.toArray n,slots:=#[] }
noncomputable def Ho (items:List Value) (n:Nat):Obj:={ cls:=.type "tuple",dict:=none,data:=.seq items.toArray n,slots:=#[] }
mutual
noncomputable def VRel (h:Heap) (O:Addr->Prop) (G:Gh):AV->Value->Prop
 | .undef,_=>False
 | .none,v=>v = .none
 | .bool b,v=>v = .bool b
 | .int i,v=>∃ t,v = .int i t
 | .str s,v=>∃ t,v = .str s t
 | .ref a,v=>v = .ref a
 | .bi id,v=>v = .builtin id
 | .ty n,v=>v = .type n
 | .row a i,v=>∃ b,(G a)[i]? = some b/\v = .ref b
 | .tup vs,v=>∃ a n items,v = .ref a/\h.get? a=some (Ho items n)/\¬ O a/\vs.length<=lim/\VRels h O G vs items
 | .fl vs,v=>∃ a n items,v = .ref a/\h.get? a=some (Bu items n)/\¬ O a/\vs.length<=lim/\VRels h O G vs items
noncomputable def VRels (h:Heap) (O:Addr->Prop) (G:Gh):List AV->List Value->Prop
 | [],vs=>vs=[]
 | x :: xs,vs=>∃ v r,vs=v :: r/\VRel h O G x v/\VRels h O G xs r
end
theorem vRu {h:Heap}{O:Addr->Prop}{G:Gh}{v:Value}:VRel h O G .undef v=False:=rfl
theorem vRn {h:Heap}{O:Addr->Prop}{G:Gh}{v:Value}:VRel h O G .none v=(v = .none):=rfl
theorem vRb {h:Heap}{O:Addr->Prop}{G:Gh}{v:Value}{b:Bool}:VRel h O G (.bool b) v=(v = .bool b):=rfl
theorem vRi {h:Heap}{O:Addr->Prop}{G:Gh}{v:Value}{i:Int}:VRel h O G (.int i) v=(∃ t,v = .int i t):=rfl
theorem vRs {h:Heap}{O:Addr->Prop}{G:Gh}{v:Value}{s:Str}:VRel h O G (.str s) v=(∃ t,v = .str s t):=rfl
theorem vRr {h:Heap}{O:Addr->Prop}{G:Gh}{v:Value}{a:Addr}:VRel h O G (.ref a) v=(v = .ref a):=rfl
theorem vRk {h:Heap}{O:Addr->Prop}{G:Gh}{v:Value}{i}:VRel h O G (.bi i) v=(v = .builtin i):=rfl
theorem vRt {h:Heap}{O:Addr->Prop}{G:Gh}{v:Value}{n}:VRel h O G (.ty n) v=(v = .type n):=rfl
theorem vRw {h:Heap}{O:Addr->Prop}{G:Gh}{v:Value}{a:Addr}{i:Nat}:VRel h O G (.row a i) v=(∃ b,(G a)[i]? = some b/\v = .ref b):=rfl
theorem vRp {h:Heap}{O:Addr->Prop}{G:Gh}{v:Value}{vs:List AV}:VRel h O G (.tup vs) v=(∃ a n items,v = .ref a/\h.get? a=some (Ho items n)/\¬ O a/\vs.length<=lim/\VRels h O G vs items):=rfl
theorem vRf {h:Heap}{O:Addr->Prop}{G:Gh}{v:Value}{vs:List AV}:VRel h O G (.fl vs) v=(∃ a n items,v = .ref a/\h.get? a=some (Bu items n)/\¬ O a/\vs.length<=lim/\VRels h O G vs items):=rfl
theorem vSn {h:Heap}{O:Addr->Prop}{G:Gh}{vs:List Value}:VRels h O G [] vs=(vs=[]):=rfl
theorem vSc {h:Heap}{O:Addr->Prop}{G:Gh}{vs:List Value}{x:AV}{xs:List AV}:VRels h O G (x :: xs) vs=(∃ v r,vs=v :: r/\VRel h O G x v/\VRels h O G xs r):=rfl
section
variable {h h':Heap} {O O':Addr->Prop} {G G':Gh}
mutual
theorem VRel.mono (hk:∀ b o xs n,h.get? b=some o->o.data = .seq xs n->¬ O b->h'.get? b=some o/\¬ O' b):∀ {v:AV} {x:Value},v.sto=true->VRel h O G v x->VRel h' O' G' v x
 | .undef,_,_,r=>by simp[vRu]at r
 | .none,_,_,r=>by simpa [vRu,vRn,vRb,vRi,vRs,vRr,vRk,vRt,vRw,vRp,vRf]using r
 | .bool b,_,_,r=>by simpa [vRu,vRn,vRb,vRi,vRs,vRr,vRk,vRt,vRw,vRp,vRf]using r
 | .int i,_,_,r=>by simpa [vRu,vRn,vRb,vRi,vRs,vRr,vRk,vRt,vRw,vRp,vRf]using r
 | .str s,_,_,r=>by simpa [vRu,vRn,vRb,vRi,vRs,vRr,vRk,vRt,vRw,vRp,vRf]using r
 | .ref a,_,_,r=>by simpa [vRu,vRn,vRb,vRi,vRs,vRr,vRk,vRt,vRw,vRp,vRf]using r
 | .bi a,_,_,r=>by simpa [vRu,vRn,vRb,vRi,vRs,vRr,vRk,vRt,vRw,vRp,vRf]using r
 | .ty a,_,_,r=>by simpa [vRu,vRn,vRb,vRi,vRs,vRr,vRk,vRt,vRw,vRp,vRf]using r
 | .row a i,_,s,_=>by simp[AV.sto]at s
 | .tup vs,x,s,r=>by
  simp only [vRp]at r ⊢
  obtain⟨a,n,items,e,hg,ho,hz,hr⟩:=r
  exact⟨a,n,items,e,(hk a _ _ n hg rfl ho).1,(hk a _ _ n hg rfl ho).2,hz,VRels.mono hk (by simpa [AV.sto]using s) hr⟩
 | .fl vs,x,s,r=>by
  simp only [vRf]at r ⊢
  obtain⟨a,n,items,e,hg,ho,hz,hr⟩:=r
  exact⟨a,n,items,e,(hk a _ _ n hg rfl ho).1,(hk a _ _ n hg rfl ho).2,hz,VRels.mono hk (by simpa [AV.sto]using s) hr⟩
theorem VRels.mono (hk:∀ b o xs n,h.get? b=some o->o.data = .seq xs n->¬ O b->h'.get? b=some o/\¬ O' b):∀ {vs:List AV} {xs:List Value},AV.stos vs=true->VRels h O G vs xs->VRels h' O' G' vs xs
 | [],xs,_,r=>by simpa [vSn,vSc]using r
 | v :: vs,xs,s,r=>by
  simp only [vSc]at r ⊢
  simp only [AV.stos,Bool.and_eq_true]at s
  obtain⟨x,q,e,h1,h2⟩:=r
  exact⟨x,q,e,VRel.mono hk s.1 h1,VRels.mono hk s.2 h2⟩
end
mutual
theorem VRel.keep (hk:∀ b o,h.get? b=some o->h'.get? b=some o):∀ {v:AV} {x:Value},VRel h O G v x->VRel h' O G v x
 | .undef,_,r=>by simp[vRu]at r
 | .none,_,r=>by simpa [vRu,vRn,vRb,vRi,vRs,vRr,vRk,vRt,vRw,vRp,vRf]using r
 | .bool b,_,r=>by simpa [vRu,vRn,vRb,vRi,vRs,vRr,vRk,vRt,vRw,vRp,vRf]using r
 | .int i,_,r=>by simpa [vRu,vRn,vRb,vRi,vRs,vRr,vRk,vRt,vRw,vRp,vRf]using r
 | .str s,_,r=>by simpa [vRu,vRn,vRb,vRi,vRs,vRr,vRk,vRt,vRw,vRp,vRf]using r
 | .ref a,_,r=>by simpa [vRu,vRn,vRb,vRi,vRs,vRr,vRk,vRt,vRw,vRp,vRf]using r
 | .bi a,_,r=>by simpa [vRu,vRn,vRb,vRi,vRs,vRr,vRk,vRt,vRw,vRp,vRf]using r
 | .ty a,_,r=>by simpa [vRu,vRn,vRb,vRi,vRs,vRr,vRk,vRt,vRw,vRp,vRf]using r
 | .row a i,_,r=>by simpa [vRu,vRn,vRb,vRi,vRs,vRr,vRk,vRt,vRw,vRp,vRf]using r
 | .tup vs,x,r=>by
  simp only [vRp]at r ⊢
  obtain⟨a,n,items,e,hg,ho,hz,hr⟩:=r
  exact⟨a,n,items,e,hk a _ hg,ho,hz,VRels.keep hk hr⟩
 | .fl vs,x,r=>by
  simp only [vRf]at r ⊢
  obtain⟨a,n,items,e,hg,ho,hz,hr⟩:=r
  exact⟨a,n,items,e,hk a _ hg,ho,hz,VRels.keep hk hr⟩
theorem VRels.keep (hk:∀ b o,h.get? b=some o->h'.get? b=some o):∀ {vs:List AV} {xs:List Value},VRels h O G vs xs->VRels h' O G vs xs
 | [],xs,r=>by simpa [vSn,vSc]using r
 | v :: vs,xs,r=>by
  simp only [vSc]at r ⊢
  obtain⟨x,q,e,h1,h2⟩:=r
  exact⟨x,q,e,VRel.keep hk h1,VRels.keep hk h2⟩
end
theorem VRels.length:∀ {vs:List AV} {xs:List Value},VRels h O G vs xs->xs.length=vs.length
 | [],_,r=>by simp only [vSn]at r;simp[r]
 | _ :: vs,_,r=>by
  simp only [vSc]at r
  obtain⟨x,q,e,_,h2⟩:=r
  simp[e,VRels.length h2]
theorem VRels.get:∀ {vs:List AV} {xs:List Value} {i:Nat} {v:AV},VRels h O G vs xs->vs[i]? = some v->∃ x,xs[i]? = some x/\VRel h O G v x
 | [],_,_,_,_,e=>by simp at e
 | w :: vs,_,i,v,r,e=>by
  simp only [vSc]at r
  obtain⟨x,q,rfl,h1,h2⟩:=r
  cases i with
  | zero=>simp at e;subst e;exact⟨x,by simp,h1⟩
  | succ i=>simp at e;obtain⟨y,hy,hr⟩:=VRels.get h2 e;exact⟨y,by simpa using hy,hr⟩
theorem VRels.append:∀ {vs ws:List AV} {xs ys:List Value},VRels h O G vs xs->VRels h O G ws ys->VRels h O G (vs++ws) (xs++ys)
 | [],_,_,_,r,r'=>by simp only [vSn]at r;subst r;simpa using r'
 | _ :: vs,_,_,_,r,r'=>by
  simp only [vSc]at r
  obtain⟨x,q,rfl,h1,h2⟩:=r
  simp only [List.cons_append,vSc]
  exact⟨x,_,rfl,h1,VRels.append h2 r'⟩
theorem VRels.nil:VRels h O G [] []:=by simp[vSn]
theorem VRels.cons {v vs x xs}(a:VRel h O G v x)(b:VRels h O G vs xs):VRels h O G (v :: vs) (x :: xs):=by simp only [vSc];exact⟨x,xs,rfl,a,b⟩
theorem VRels.one {v x}(a:VRel h O G v x):VRels h O G [v] [x]:=.cons a .nil
theorem VRels.set:∀ {vs:List AV} {xs:List Value} {i:Nat} {v:AV} {x:Value},VRels h O G vs xs->VRel h O G v x->VRels h O G (vs.set i v) (xs.set i x)
 | [],_,_,_,_,r,_=>by simp only [vSn]at r;subst r;simp[vSn]
 | w :: vs,_,i,v,x,r,rv=>by
  simp only [vSc]at r
  obtain⟨y,q,rfl,h1,h2⟩:=r
  cases i with
  | zero=>simp only [List.set_cons_zero,vSc];exact⟨_,_,rfl,rv,h2⟩
  | succ i=>simp only [List.set_cons_succ,vSc];exact⟨_,_,rfl,h1,VRels.set h2 rv⟩
theorem VRels.take:∀ {vs:List AV} {xs:List Value} (n:Nat),VRels h O G vs xs->VRels h O G (vs.take n) (xs.take n)
 | [],_,n,r=>by simp only [vSn]at r;subst r;simp[vSn]
 | w :: vs,_,n,r=>by
  simp only [vSc]at r
  obtain⟨y,q,rfl,h1,h2⟩:=r
  cases n with
  | zero=>simp[vSn]
  | succ n=>simp only [List.take_succ_cons,vSc];exact⟨_,_,rfl,h1,VRels.take n h2⟩
theorem VRels.drop:∀ {vs:List AV} {xs:List Value} (n:Nat),VRels h O G vs xs->VRels h O G (vs.drop n) (xs.drop n)
 | [],_,n,r=>by simp only [vSn]at r;subst r;simp[vSn]
 | w :: vs,_,n,r=>by
  simp only [vSc]at r
  obtain⟨y,q,rfl,h1,h2⟩:=r
  cases n with
  | zero=>simp only [List.drop_zero,vSc];exact⟨_,_,rfl,h1,h2⟩
  | succ n=>simpa using VRels.drop n h2
end
end Mine
end
section
namespace Mine
section
variable {P:Prop} {α β γ:Type} {r:α}
theorem aF {o:Option AObj}{A:Bool->List AV->Option α}(h:(match o with | some (.f (.lst lk vs))=>A lk vs | _=>none)=some r)(k:∀ lk vs,o=some (.f (.lst lk vs))->A lk vs=some r->P):P:=by
 generalize e:o=o' at h;revert e;revert h;cases o' with
 | none=>exact nqa
 | some x=>cases x with
  | srt=>exact nqa
  | f x=>cases x <;> first | exact nqa | exact fun h e=>k _ _ e h
theorem kM {o:Option AObj}{A:List AV->Option α}(h:(match o with | some (.f (.lst true vs))=>A vs | _=>none)=some r)(k:∀ vs,o=some (.f (.lst true vs))->A vs=some r->P):P:=by
 generalize e:o=o' at h;revert e;revert h;cases o' with
 | none=>exact nqa
 | some x=>cases x with
  | srt=>exact nqa
  | f x=>cases x <;> first | exact nqa | (cases lk <;> first | exact nqa | exact fun h e=>k _ e h)
theorem eY {o:Option AObj}{A:List AV->Option α}(h:(match o with | some (.f (.lst false vs))=>A vs | _=>none)=some r)(k:∀ vs,o=some (.f (.lst false vs))->A vs=some r->P):P:=by
 generalize e:o=o' at h;revert e;revert h;cases o' with
 | none=>exact nqa
 | some x=>cases x with
  | srt=>exact nqa
  | f x=>cases x <;> first | exact nqa | (cases lk <;> first | exact nqa | exact fun h e=>k _ e h)
theorem kL {o:Option AObj}{A:Bool->List (List AV)->Option α}(h:(match o with | some (.f (.mat lk vs))=>A lk vs | _=>none)=some r)(k:∀ lk vs,o=some (.f (.mat lk vs))->A lk vs=some r->P):P:=by
 generalize e:o=o' at h;revert e;revert h;cases o' with
 | none=>exact nqa
 | some x=>cases x with
  | srt=>exact nqa
  | f x=>cases x <;> first | exact nqa | exact fun h e=>k _ _ e h
theorem kK {o:Option AObj}{A:List (List AV)->Option α}(h:(match o with | some (.f (.mat true vs))=>A vs | _=>none)=some r)(k:∀ vs,o=some (.f (.mat true vs))->A vs=some r->P):P:=by
 generalize e:o=o' at h;revert e;revert h;cases o' with
 | none=>exact nqa
 | some x=>cases x with
  | srt=>exact nqa
  | f x=>cases x <;> first | exact nqa | (cases lk <;> first | exact nqa | exact fun h e=>k _ e h)
theorem eX {o:Option AObj}{A:List (List AV)->Option α}(h:(match o with | some (.f (.mat false vs))=>A vs | _=>none)=some r)(k:∀ vs,o=some (.f (.mat false vs))->A vs=some r->P):P:=by
 generalize e:o=o' at h;revert e;revert h;cases o' with
 | none=>exact nqa
 | some x=>cases x with
  | srt=>exact nqa
  | f x=>cases x <;> first | exact nqa | (cases lk <;> first | exact nqa | exact fun h e=>k _ e h)
theorem kO {o:Option AObj}{A:Bool->List (Int × AV)->Option α}(h:(match o with | some (.f (.dic lk vs))=>A lk vs | _=>none)=some r)(k:∀ lk vs,o=some (.f (.dic lk vs))->A lk vs=some r->P):P:=by
 generalize e:o=o' at h;revert e;revert h;cases o' with
 | none=>exact nqa
 | some x=>cases x with
  | srt=>exact nqa
  | f x=>cases x <;> first | exact nqa | exact fun h e=>k _ _ e h
theorem fA {o:Option AObj}{A:List (Int × AV)->Option α}(h:(match o with | some (.f (.dic true vs))=>A vs | _=>none)=some r)(k:∀ vs,o=some (.f (.dic true vs))->A vs=some r->P):P:=by
 generalize e:o=o' at h;revert e;revert h;cases o' with
 | none=>exact nqa
 | some x=>cases x with
  | srt=>exact nqa
  | f x=>cases x <;> first | exact nqa | (cases lk <;> first | exact nqa | exact fun h e=>k _ e h)
theorem aG {o:Option AObj}{A:List (Int × AV)->Option α}(h:(match o with | some (.f (.dic false vs))=>A vs | _=>none)=some r)(k:∀ vs,o=some (.f (.dic false vs))->A vs=some r->P):P:=by
 generalize e:o=o' at h;revert e;revert h;cases o' with
 | none=>exact nqa
 | some x=>cases x with
  | srt=>exact nqa
  | f x=>cases x <;> first | exact nqa | (cases lk <;> first | exact nqa | exact fun h e=>k _ e h)
theorem kN {o:Option AObj}{A:List Int->Option α}(h:(match o with | some (.f (.iset vs))=>A vs | _=>none)=some r)(k:∀ vs,o=some (.f (.iset vs))->A vs=some r->P):P:=by
 generalize e:o=o' at h;revert e;revert h;cases o' with
 | none=>exact nqa
 | some x=>cases x with
  | srt=>exact nqa
  | f x=>cases x <;> first | exact nqa | exact fun h e=>k _ e h
theorem eZ {o:Option AObj}{A:Addr->List (Str × AV)->Option α}(h:(match o with | some (.f (.inst c vs))=>A c vs | _=>none)=some r)(k:∀ c vs,o=some (.f (.inst c vs))->A c vs=some r->P):P:=by
 generalize e:o=o' at h;revert e;revert h;cases o' with
 | none=>exact nqa
 | some x=>cases x with
  | srt=>exact nqa
  | f x=>cases x <;> first | exact nqa | exact fun h e=>k _ _ e h
theorem jB {o:Option AObj}{A:Addr->List (Option AV)->Option α}(h:(match o with | some (.f (.slots c vs))=>A c vs | _=>none)=some r)(k:∀ c vs,o=some (.f (.slots c vs))->A c vs=some r->P):P:=by
 generalize e:o=o' at h;revert e;revert h;cases o' with
 | none=>exact nqa
 | some x=>cases x with
  | srt=>exact nqa
  | f x=>cases x <;> first | exact nqa | exact fun h e=>k _ _ e h
theorem Sy {v:AV}{A:Addr->Option α}(h:(match v with | .ref a=>A a | _=>none)=some r)(k:∀ a,v = .ref a->A a=some r->P):P:=by
 generalize e:v=v' at h;revert e;revert h;cases v' <;> first | exact nqa | exact fun h e=>k _ e h
theorem lO {v:AV}{A:Int->Option α}(h:(match v with | .int a=>A a | _=>none)=some r)(k:∀ a,v = .int a->A a=some r->P):P:=by
 generalize e:v=v' at h;revert e;revert h;cases v' <;> first | exact nqa | exact fun h e=>k _ e h
theorem eW {o:Option AV}{A:Addr->Option α}(h:(match o with | some (.ref a)=>A a | _=>none)=some r)(k:∀ a,o=some (.ref a)->A a=some r->P):P:=by
 generalize e:o=o' at h;revert e;revert h;cases o' with
 | none=>exact nqa
 | some v=>cases v <;> first | exact nqa | exact fun h e=>k _ e h
theorem aC {o:Option AV}{A:Int->Option α}(h:(match o with | some (.int a)=>A a | _=>none)=some r)(k:∀ a,o=some (.int a)->A a=some r->P):P:=by
 generalize e:o=o' at h;revert e;revert h;cases o' with
 | none=>exact nqa
 | some v=>cases v <;> first | exact nqa | exact fun h e=>k _ e h
theorem Ix {u v:AV}{A:Addr->Int->Option α}(h:(match u,v with | .ref a,.int i=>A a i | _,_=>none)=some r)(k:∀ a i,u = .ref a->v = .int i->A a i=some r->P):P:=by
 generalize e:u=u' at h;revert e;revert h;cases u' <;> first | exact nqa | (intro h d;generalize e:v=v' at h;revert e;revert h;cases v' <;> first | exact nqa | exact fun h e=>k _ _ d e h)
theorem Uw {u v:AV}{A:Int->Int->Option α}(h:(match u,v with | .int a,.int i=>A a i | _,_=>none)=some r)(k:∀ a i,u = .int a->v = .int i->A a i=some r->P):P:=by
 generalize e:u=u' at h;revert e;revert h;cases u' <;> first | exact nqa | (intro h d;generalize e:v=v' at h;revert e;revert h;cases v' <;> first | exact nqa | exact fun h e=>k _ _ d e h)
theorem kH {o:Option (List AV)}{o':Option AV}{A:(List AV)->Int->Option α}(h:(match o,o' with | some v,some (.int a)=>A v a | _,_=>none)=some r)(k:∀ v a,o=some v->o' = some (.int a)->A v a=some r->P):P:=by
 cases o with
 | none=>exact nqa h
 | some v=>generalize e:o' = w at h;revert e;revert h;cases w with
  | none=>exact nqa
  | some w=>cases w <;> first | exact nqa | exact fun h e=>k _ _ rfl e h
theorem Fo {o:Option AV}{A:AV->Option α}(h:(match o with | some v=>A v | none=>none)=some r)(k:∀ v,o=some v->A v=some r->P):P:=by
 cases o with
 | none=>exact nqa h
 | some v=>exact k v rfl h
theorem Pk {o:Option (List AV)}{A:(List AV)->Option α}(h:(match o with | some v=>A v | none=>none)=some r)(k:∀ v,o=some v->A v=some r->P):P:=by
 cases o with
 | none=>exact nqa h
 | some v=>exact k v rfl h
theorem iZ {o:Option Rho}{A:Rho->Option α}(h:(match o with | some v=>A v | none=>none)=some r)(k:∀ v,o=some v->A v=some r->P):P:=by
 cases o with
 | none=>exact nqa h
 | some v=>exact k v rfl h
theorem jA {o:Option FObj}{A:FObj->Option α}(h:(match o with | some v=>A v | none=>none)=some r)(k:∀ v,o=some v->A v=some r->P):P:=by
 cases o with
 | none=>exact nqa h
 | some v=>exact k v rfl h
theorem Qt {o:Option AV}{o':Option AV}{A:AV->AV->Option α}(h:(match o,o' with | some v,some w=>A v w | _,_=>none)=some r)(k:∀ v w,o=some v->o' = some w->A v w=some r->P):P:=by
 cases o with
 | none=>exact nqa h
 | some v=>cases o' with
  | none=>exact nqa h
  | some w=>exact k v w rfl rfl h
theorem aA {o:Option AV}{o':Option (List AV)}{A:AV->(List AV)->Option α}(h:(match o,o' with | some v,some w=>A v w | _,_=>none)=some r)(k:∀ v w,o=some v->o' = some w->A v w=some r->P):P:=by
 cases o with
 | none=>exact nqa h
 | some v=>cases o' with
  | none=>exact nqa h
  | some w=>exact k v w rfl rfl h
theorem aB {o:Option (List AV)}{o':Option (List AV)}{A:(List AV)->(List AV)->Option α}(h:(match o,o' with | some v,some w=>A v w | _,_=>none)=some r)(k:∀ v w,o=some v->o' = some w->A v w=some r->P):P:=by
 cases o with
 | none=>exact nqa h
 | some v=>cases o' with
  | none=>exact nqa h
  | some w=>exact k v w rfl rfl h
theorem Mp {o:Option Bool}{o':Option Bool}{A:Bool->Bool->Option α}(h:(match o,o' with | some v,some w=>A v w | _,_=>none)=some r)(k:∀ v w,o=some v->o' = some w->A v w=some r->P):P:=by
 cases o with
 | none=>exact nqa h
 | some v=>cases o' with
  | none=>exact nqa h
  | some w=>exact k v w rfl rfl h
theorem iSS {o:Option (Option AV)}{A:AV->Option α}(h:(match o with | some (some v)=>A v | _=>none)=some r)(k:∀ v,o=some (some v)->A v=some r->P):P:=by
 cases o with
 | none=>exact nqa h
 | some v=>cases v with
  | none=>exact nqa h
  | some v=>exact k v rfl h
theorem Sx {o:Option (Option Value)}{A:Addr->Option α}(h:(match o with | some (some (.ref v))=>A v | _=>none)=some r)(k:∀ v,o=some (some (.ref v))->A v=some r->P):P:=by
 generalize e:o=o' at h;revert e;revert h;cases o' with
 | none=>exact nqa
 | some v=>cases v with
  | none=>exact nqa
  | some v=>cases v <;> first | exact nqa | exact fun h e=>k _ e h
theorem jC {l:List AV}{A:AV->Option α}(h:(match l with | [v]=>A v | _=>none)=some r)(k:∀ v,l=[v]->A v=some r->P):P:=by
 cases l with
 | nil=>exact nqa h
 | cons v l=>cases l with
  | nil=>exact k v rfl h
  | cons=>exact nqa h
theorem kJ {l:List AV}{A:Int->Option α}(h:(match l with | [.int v]=>A v | _=>none)=some r)(k:∀ v,l=[.int v]->A v=some r->P):P:=by
 generalize e:l=m at h;revert e;revert h;cases m with
 | nil=>exact nqa
 | cons v m=>cases m with
  | nil=>cases v <;> first | exact nqa | exact fun h e=>k _ e h
  | cons=>cases v <;> exact nqa
theorem kI {o:Option FObj}{A:Bool->List AV->Option α}(h:(match o with | some (.lst lk vs)=>A lk vs | _=>none)=some r)(k:∀ lk vs,o=some (.lst lk vs)->A lk vs=some r->P):P:=by
 generalize e:o=o' at h;revert e;revert h;cases o' with
 | none=>exact nqa
 | some v=>cases v <;> first | exact nqa | exact fun h e=>k _ _ e h
theorem iLX {o:FObj}{o':Option AV}{A:Bool->List AV->AV->Option α}(h:(match o,o' with | .lst lk ws,some w=>A lk ws w | _,_=>none)=some r)(k:∀ lk ws w,o = .lst lk ws->o' = some w->A lk ws w=some r->P):P:=by
 cases o' with
 | none=>cases o <;> exact nqa h
 | some w=>generalize e:o=u at h;revert e;revert h;cases u <;> first | exact nqa | exact fun h e=>k _ _ _ e rfl h
theorem Bj {c:Prop}[Decidable c]{a:Option α}(h:(if c then a else none)=some r)(k:c->a=some r->P):P :=
 if q:c then k q ((if_pos q).symm.trans h) else nqa ((if_neg q).symm.trans h)
end
end Mine
end
section
namespace Mine
structure Kp (s s':Shared):Prop where
 same:∃ h' tk,s' = { s with heap:=h',toks:=tk }
 k:∀ b o,s.heap.get? b=some o->s'.heap.get? b=some o
noncomputable def Ik (it:Addr):Obj:={ cls:=.type "method-wrapper",data:=.fields #[.builtin "list_iterator.__next__",.ref it] }
noncomputable def ORelF (C:Cx) (h:Heap) (O:Addr->Prop) (G:Gh):FObj->Addr->List Addr->Prop
 | .lst _ vs,a,g=>g=[]/\AV.stos vs=true/\vs.length<=lim/\∃ n items,h.get? a=some (Bu items n)/\VRels h O G vs items
 | .mat _ M,a,g=>(∃ n,h.get? a=some (Bu (g.map .ref) n))/\g.length=M.length/\M.length<=lim /\
   ∀ (i:Nat) (vs:List AV) (b:Addr),M[i]? = some vs->g[i]? = some b->AV.stos vs=true/\vs.length<=lim/\∃ n items,h.get? b=some (Bu items n)/\VRels h O G vs items
 | .dic _ es,a,g=>g=[]/\(a == sysModules)=false/\AV.stos (es.map (·.2))=true /\
   ∃ xs,h.DictOf (intKind C.prog C.w) a ((es.map (·.1)).zip xs)/\VRels h O G (es.map (·.2)) xs
 | .iset ks,a,g=>g=[]/\h.SetOf (intKind C.prog C.w) a (fun k=>decide (k ∈ ks)) ks.length
 | .inst c attrs,a,g=>∃ d m,g=[d]/\AV.stos (attrs.map (·.2))=true/\attrs.length<=1000/\h.get? a=some { cls:=.ref c,dict:=some d,data:=.plain,slots:=#[] }/\h.Ns1 d m /\
   ∀ x,(attrs.lookup x=none->m x=none)/\∀ v,attrs.lookup x=some v->∃ y,m x=some y/\VRel h O G v y
 | .slots c vs,a,g=>∃ d ys,g=[d]/\AV.stos (vs.filterMap id)=true/\h.get? a=some { cls:=.ref c,dict:=some d,data:=.plain,slots:=ys }/\h.Ns d (fun z0=>none) /\
   ys.size=vs.length/\∀ i:Nat,(∀ v,vs[i]? = some (some v)->∃ y,ys[i]? = some (some y)/\VRel h O G v y)/\(vs[i]? = some none->ys[i]? = some none)
 | .nxt src pos,a,g=>∃ it,g=[it]/\h.get? a=some (Ik it)/\h.IsListIter it src pos
structure FN where
 info:Addr
 succ:Addr
 nd:NodeS
structure FSt where
 d:Addr
 ra:Addr
 nds:List FN
 ready:Option (List Int)
 passed:Int
 fin:Int
noncomputable def FSt.rdy (σ:FSt):AV:=match σ.ready with
 | none=>.none
 | some _=>.ref σ.ra
noncomputable def FSt.toS (σ:FSt):SState:=⟨σ.nds.map (·.nd),σ.ready,σ.passed,σ.fin⟩
noncomputable def Dp (d:Addr) (rdy:AV) (p f:Int):List (Str × AV):=[("_node2info",.ref d),("_ready_nodes",rdy),("_npassedout",.int p),("_nfinished",.int f)]
noncomputable def Et (n:FN):List (Option AV):=[some (.int n.nd.key),some (.int n.nd.npred),some (.ref n.succ)]
noncomputable def FSt.dicL (σ:FSt):List (Int × AV):=σ.nds.map fun n=>(n.nd.key,AV.ref n.info)
noncomputable def FSt.L (C:Cx) (a:Addr) (σ:FSt):List (Addr × FObj) :=
 (a,.inst C.tsC (Dp σ.d σ.rdy σ.passed σ.fin)) :: (σ.d,.dic false σ.dicL) :: (match σ.ready with | none=>[] | some r=>[(σ.ra,.lst false (r.map .int))]) ++
  (σ.nds.map fun n=>(n.info,FObj.slots C.niC (Et n)))++(σ.nds.map fun n=>(n.succ,FObj.lst false (n.nd.succs.map .int)))
inductive SFlat (C:Cx) (a:Addr) (S:SState) (L:List (Addr × FObj)):Prop
 | mk (σ:FSt) (hS:σ.toS=S) (hL:L=σ.L C a) (hk:(σ.nds.map (·.nd.key)).Nodup)
noncomputable def ORel (C:Cx) (h:Heap) (O:Addr->Prop) (G:Gh):AObj->Addr->List Addr->Prop
 | .f o,a,g=>ORelF C h O G o a g
 | .srt S,a,g=>∃ (L:List (Addr × FObj)) (gs:List (List Addr)),SFlat C a S L/\gs.length=L.length /\
   (a :: g)=((L.zip gs).flatMap fun x=>x.1.1 :: x.2)/\∀ x ∈ L.zip gs,ORelF C h O G x.1.2 x.1.1 x.2
structure Rel (C:Cx) (H:AH) (G:Gh) (O:Addr->Prop) (h:Heap):Prop where
 sub:∀ b,own H G b->O b
 obj:∀ a o,H a=some o->ORel C h O G o a (G a)
 nd:∀ a,H a ≠ none->(a :: G a).Nodup
 dj:∀ a b x,H a ≠ none->H b ≠ none->a ≠ b->(x=a\/x ∈ G a)->¬ (x=b\/x ∈ G b)
 base:∀ b o,C.h0.get? b=some o->h.get? b=some o/\¬ O b
 live:∀ b,O b->∃ o,h.get? b=some o
structure Sc where
 vars:List (Str × Nat)
 cel:List Str
 globs:List Str
 top:Bool:=false
noncomputable def fr (env:Env) (b:Addr):Prop:=b=env.locals\/∃ x,(x,b) ∈ env.cells
noncomputable def Frs (C:Cx) (O:Addr->Prop) (h:Heap) (l:List Env):Prop:=h.FunFrames C.h0 l/\∀ b,b ∈ l.filterMap (·.frame)->¬ O b/\∃ o es ep,h.get? b=some o/\o.data = .dict es ep
noncomputable def FrsA (C:Cx) (A:Around) (O:Addr->Prop) (h:Heap):Prop:=∃ l,A.frames=some l/\Frs C O h l
structure WF (C:Cx) (A:Around) (sc:Sc) (env:Env) (ρ:Rho) (G:Gh) (O:Addr->Prop) (h:Heap):Prop where
 kind:env.scope.kind = .function
 glob:env.globals=mainGlobals
 bui:env.builtins=builtinsNs
 ns:∃ m,h.Ns env.locals m/\∀ x i,(x,i) ∈ sc.vars->env.kindOf x=some .local->ρ i = .undef\/∃ v,m x=some v/\VRel h O G (ρ i) v
 cells:∀ x i,(x,i) ∈ sc.vars->env.kindOf x ≠ some .local->(env.kindOf x=some .cell\/env.kindOf x=some .free) /\
  ∃ c ov,env.cells.lookup x=some c/\h.IsCell c ov/\(ρ i = .undef\/∃ v,ov=some v/\VRel h O G (ρ i) v)
 celk:∀ x,x ∈ sc.cel->env.kindOf x ≠ some .local
 gl:∀ x,x ∈ sc.globs->env.kindOf x=some .globalImplicit
 apart:env.cells.Pairwise fun x y=>x.2 ≠ y.2
 cnl:∀ x c,(x,c) ∈ env.cells->c ≠ env.locals
 cli:∀ x c,(x,c) ∈ env.cells->∃ ov,h.IsCell c ov
 nol:¬ O env.locals
 noc:∀ x c,(x,c) ∈ env.cells->¬ O c
 nbs:∀ b,fr env b->C.h0.get? b=none
 scnd:∀ x i j,(x,i) ∈ sc.vars->(x,j) ∈ sc.vars->i=j
 scinj:∀ x y i,(x,i) ∈ sc.vars->(y,i) ∈ sc.vars->x=y
 frs:FrsA C A O h
 top:sc.top=true->env.frame=some env.locals/\∃ l,A.frames=some (env :: l)
noncomputable def Slo (o o':Obj):Prop:=o' = o\/((∃ es ep,o.data = .dict es ep)/\∃ sl,o' = { o with slots:=sl })
theorem Slo.refl (o:Obj):Slo o o:=.inl rfl
theorem Slo.trans {a b c:Obj}(x:Slo a b)(y:Slo b c):Slo a c:=by
 rcases x with rfl | ⟨⟨es,ep,h⟩,sl,rfl⟩
 ·exact y
 ·rcases y with rfl | ⟨_,sl',rfl⟩
  ·exact .inr ⟨⟨es,ep,h⟩,sl,rfl⟩
  ·exact .inr ⟨⟨es,ep,h⟩,sl',rfl⟩
theorem Slo.data {a b:Obj}(x:Slo a b):b.data=a.data:=by
 rcases x with rfl | ⟨_,sl,rfl⟩ <;> rfl
theorem Slo.eq {a b:Obj}(x:Slo a b)(h:∀ es ep,a.data ≠ .dict es ep):b=a:=by
 rcases x with rfl | ⟨⟨es,ep,q⟩,_⟩
 ·rfl
 ·exact absurd q (h es ep)
structure Step (P:Addr->Prop) (H:AH) (G:Gh) (s:Shared) (H':AH) (G':Gh) (s':Shared):Prop where
 same:∃ h' tk,s' = { s with heap:=h',toks:=tk }
 keep:∀ b o,¬ own H G b->¬ P b->s.heap.get? b=some o->∃ o',s'.heap.get? b=some o'/\Slo o o'
 pl:∀ b o,P b->s.heap.get? b=some o->∃ o',s'.heap.get? b=some o'
 fresh:∀ b,own H' G' b->own H G b\/s.heap.get? b=none
 lock:∀ a o,H a=some (.f o)->o.lk=true->H' a=some (.f o)/\G' a=G a/\∀ b,b=a\/b ∈ G a->s'.heap.get? b=s.heap.get? b
noncomputable def AOk (k:Nat) (A:Around):Prop:=A.handled=none/\A.depth + k + 20<=900/\A.units + 100 * (k + 1)<=9000
noncomputable abbrev PF:=Rho->AH->Option AV
noncomputable abbrev CF:=Rho->AH->Option Bool
variable (C:Cx)
noncomputable def PureE (k:Nat) (sc:Sc) (e:Expr) (f:PF):Prop :=
 ∀ (A:Around) (env:Env) (s:Shared) (ρ:Rho) (H:AH) (G:Gh) (O:Addr->Prop) (v:AV),AOk k A->WF C A sc env ρ G O s.heap->Rel C H G O s.heap->f ρ H=some v ->
  wpAny (model C.prog C.w) A (eval e env) (fun x s'=>VRel s'.heap O G v x/\Kp s s') (fun z0 z0=>False) s
noncomputable def TestE (k:Nat) (sc:Sc) (e:Expr) (f:CF):Prop :=
 ∀ (A:Around) (env:Env) (s:Shared) (ρ:Rho) (H:AH) (G:Gh) (O:Addr->Prop) (b:Bool),AOk k A->WF C A sc env ρ G O s.heap->Rel C H G O s.heap->f ρ H=some b ->
  wpAny (model C.prog C.w) A (isTrue e env (eval e env)) (fun x s'=>x=b/\Kp s s') (fun z0 z0=>False) s
inductive PostM (s:Shared) (G:Gh) (O:Addr->Prop) (o:FObj) (x:Value) (s':Shared):Prop
 | mk (a:Addr) (g:List Addr) (e:x = .ref a) (ho:ORelF C s'.heap (fun b=>O b\/b=a\/b ∈ g) G o a g) (hn:(a :: g).Nodup) (hf:∀ b,b=a\/b ∈ g->s.heap.get? b=none/\∃ ob,s'.heap.get? b=some ob) (k:Kp s s')
noncomputable def MakeE (k:Nat) (sc:Sc) (e:Expr) (f:Rho->AH->Option FObj):Prop :=
 ∀ (A:Around) (env:Env) (s:Shared) (ρ:Rho) (H:AH) (G:Gh) (O:Addr->Prop) (o:FObj),AOk k A->WF C A sc env ρ G O s.heap->Rel C H G O s.heap->f ρ H=some o ->
  wpAny (model C.prog C.w) A (eval e env) (PostM C s G O o) (fun z0 z0=>False) s
noncomputable def stoR (sc:Sc) (ρ:Rho):Prop:=∀ x i,(x,i) ∈ sc.vars->(ρ i).sto=true
inductive AFlow where
 | next | brk | cont
 | ret (v:AV)
noncomputable def FRel (h:Heap) (O:Addr->Prop) (G:Gh):AFlow->Flow->Prop
 | .next,.next=>True
 | .brk,.brk=>True
 | .cont,.cont=>True
 | .ret v,.ret x=>VRel h O G v x/\v.sto=true
 | _,_=>False
theorem FRel.nextE {h O G fl}(r:FRel h O G .next fl):fl = .next:=by cases fl with | next=>rfl | _=>exact r.elim
theorem FRel.brkE {h O G fl}(r:FRel h O G .brk fl):fl = .brk:=by cases fl with | brk=>rfl | _=>exact r.elim
theorem FRel.contE {h O G fl}(r:FRel h O G .cont fl):fl = .cont:=by cases fl with | cont=>rfl | _=>exact r.elim
theorem FRel.retE {h O G v fl}(r:FRel h O G (.ret v) fl):∃ x,fl = .ret x/\FRel h O G (.ret v) (.ret x):=by cases fl with | ret x=>exact⟨x,rfl,r⟩ | _=>exact r.elim
noncomputable abbrev Wp (α:Type):=(α->Rho->AH->Prop)->Rho->AH->Prop
inductive PostE (A:Around) (sc:Sc) (env:Env) (s:Shared) (H:AH) (G:Gh) (Q:AV->Rho->AH->Prop) (x:Value) (s':Shared):Prop
 | mk (v:AV) (ρ':Rho) (H':AH) (G':Gh) (hq:Q v ρ' H') (hv:VRel s'.heap (own H' G') G' v x) (hsv:v.sto=true) (F:WF C A sc env ρ' G' (own H' G') s'.heap) (hs:stoR sc ρ') (R:Rel C H' G' (own H' G') s'.heap) (S:Step (fr env) H G s H' G' s')
inductive PostC (A:Around) (sc:Sc) (env:Env) (s:Shared) (H:AH) (G:Gh) (Q:Bool->Rho->AH->Prop) (b:Bool) (s':Shared):Prop
 | mk (ρ':Rho) (H':AH) (G':Gh) (hq:Q b ρ' H') (F:WF C A sc env ρ' G' (own H' G') s'.heap) (hs:stoR sc ρ') (R:Rel C H' G' (own H' G') s'.heap) (S:Step (fr env) H G s H' G' s')
inductive PostS (A:Around) (sc:Sc) (env:Env) (s:Shared) (H:AH) (G:Gh) (Q:AFlow->Rho->AH->Prop) (f:Flow) (s':Shared):Prop
 | mk (af:AFlow) (ρ':Rho) (H':AH) (G':Gh) (hq:Q af ρ' H') (hf:FRel s'.heap (own H' G') G' af f) (F:WF C A sc env ρ' G' (own H' G') s'.heap) (hs:stoR sc ρ') (R:Rel C H' G' (own H' G') s'.heap) (S:Step (fr env) H G s H' G' s')
inductive PostV (s:Shared) (H:AH) (G:Gh) (Q:AV->AH->Prop) (x:Value) (s':Shared):Prop
 | mk (v:AV) (H':AH) (G':Gh) (hq:Q v H') (hv:VRel s'.heap (own H' G') G' v x) (hsv:v.sto=true) (R:Rel C H' G' (own H' G') s'.heap) (S:Step (fun z0=>False) H G s H' G' s')
noncomputable def ImpE (k:Nat) (sc:Sc) (e:Expr) (W:Wp AV):Prop :=
 ∀ (A:Around) (env:Env) (s:Shared) (ρ:Rho) (H:AH) (G:Gh) (Q:AV->Rho->AH->Prop),AOk k A->WF C A sc env ρ G (own H G) s.heap->stoR sc ρ->Rel C H G (own H G) s.heap->W Q ρ H ->
  wpAny (model C.prog C.w) A (eval e env) (PostE C A sc env s H G Q) (fun z0 z0=>False) s
noncomputable def ImpC (k:Nat) (sc:Sc) (e:Expr) (W:Wp Bool):Prop :=
 ∀ (A:Around) (env:Env) (s:Shared) (ρ:Rho) (H:AH) (G:Gh) (Q:Bool->Rho->AH->Prop),AOk k A->WF C A sc env ρ G (own H G) s.heap->stoR sc ρ->Rel C H G (own H G) s.heap->W Q ρ H ->
  wpAny (model C.prog C.w) A (isTrue e env (eval e env)) (PostC C A sc env s H G Q) (fun z0 z0=>False) s
noncomputable def StmtR (k:Nat) (sc:Sc) (st:Stmt) (T:Wp AFlow):Prop :=
 ∀ (A:Around) (env:Env) (s:Shared) (ρ:Rho) (H:AH) (G:Gh) (Q:AFlow->Rho->AH->Prop),AOk k A->WF C A sc env ρ G (own H G) s.heap->stoR sc ρ->Rel C H G (own H G) s.heap->T Q ρ H ->
  wpAny (model C.prog C.w) A (exec st env) (PostS C A sc env s H G Q) (fun z0 z0=>False) s
noncomputable def StmtsR (k:Nat) (sc:Sc) (st:List Stmt) (T:Wp AFlow):Prop :=
 ∀ (A:Around) (env:Env) (s:Shared) (ρ:Rho) (H:AH) (G:Gh) (Q:AFlow->Rho->AH->Prop),AOk k A->WF C A sc env ρ G (own H G) s.heap->stoR sc ρ->Rel C H G (own H G) s.heap->T Q ρ H ->
  wpAny (model C.prog C.w) A (execs st env) (PostS C A sc env s H G Q) (fun z0 z0=>False) s
noncomputable abbrev FW:=List AV->(AV->AH->Prop)->AH->Prop
noncomputable def CallR (k:Nat) (f:Value) (W:FW):Prop :=
 ∀ (A:Around) (s:Shared) (H:AH) (G:Gh) (vs:List AV) (xs:List Value) (Q:AV->AH->Prop),AOk k A->FrsA C A (own H G) s.heap->Rel C H G (own H G) s.heap->VRels s.heap (own H G) G vs xs->AV.stos vs=true->W vs Q H ->
  codeAny (model C.prog C.w) A (.call f ⟨xs,[]⟩) (fun r s'=>match r with
   | .ok (.ret x)=>PostV C s H G Q x s'
   | _=>False) s
end Mine
end
section
namespace Mine
theorem Ag {P:Prop}(h:∀ R:Prop,(P->R)->R):P:=h P fun x=>x
theorem fB {α:Type}{M:Model}{A:Around}{m:Sem α}{Q:α->Shared->Prop}{E:Value->Shared->Prop}{s:Shared}(h:∀ (Q':α->Shared->Prop) (E':Value->Shared->Prop),(∀ v s',Q v s'->Q' v s')->(∀ v s',E v s'->E' v s')->wpAny M A m Q' E' s):wpAny M A m Q E s:=h Q E (fun z0 z0 x=>x) fun z0 z0 x=>x
noncomputable def kB (o:Option AObj):Nat:=match o with
 | none=>0
 | some (.srt _)=>1
 | some (.f o)=>match o with
  | .lst ..=>2
  | .mat ..=>3
  | .dic ..=>4
  | .iset _=>5
  | .inst ..=>6
  | .slots ..=>7
  | .nxt ..=>8
theorem Aj {H:AH}{a b:Addr}{x y:Option AObj}(h1:H a=x)(h2:H b=y)(h:(kB x).beq (kB y)=false):a ≠ b:=fun e=>by
 have q:x=y:=h1.symm.trans (e ▸ h2)
 rw[q,Nat.beq_refl]at h;exact nqc h
theorem Az {s s' s'':Shared}(a:∃ h' tk,s' = { s with heap:=h',toks:=tk })(b:∃ h' tk,s'' = { s' with heap:=h',toks:=tk }):∃ h' tk,s'' = { s with heap:=h',toks:=tk }:=by
 obtain⟨h1,t1,rfl⟩:=a;obtain⟨h2,t2,rfl⟩:=b;exact⟨h2,t2,rfl⟩
theorem Kp.refl' (s:Shared):Kp s s:=⟨⟨s.heap,s.toks,rfl⟩,fun z0 z0 e=>e⟩
theorem Kp.trans' {s s' s'':Shared}(a:Kp s s')(b:Kp s' s''):Kp s s'':=by
 obtain⟨⟨h1,t1,rfl⟩,k1⟩:=a
 obtain⟨⟨h2,t2,rfl⟩,k2⟩:=b
 exact⟨⟨h2,t2,rfl⟩,fun b o e=>k2 b o (k1 b o e)⟩
theorem Kp.tok {s:Shared}{n:Nat}:Kp s { s with toks:=n }:=⟨⟨s.heap,n,rfl⟩,fun z0 z0 e=>e⟩
theorem Kp.push {s:Shared}{o:Obj}:Kp s { s with heap:=s.heap.push o }:=⟨⟨_,s.toks,rfl⟩,fun z0 z0 e=>Heap.get?_push_of_some o e⟩
theorem Kp.pushT {s:Shared}{o:Obj}{n:Nat}:Kp s { s with heap:=s.heap.push o,toks:=n }:=⟨⟨_,n,rfl⟩,fun z0 z0 e=>Heap.get?_push_of_some o e⟩
theorem bZ {prog w}{h h':Heap}{a:Addr}{S:Int->Bool}{n:Nat}(x:h.SetOf (intKind prog w) a S n)(hk:∀ o,h.get? a=some o->h'.get? a=some o):h'.SetOf (intKind prog w) a S n :=
 let ⟨o,es,ep,t,e,r⟩:=x;⟨o,es,ep,t,hk _ e,r⟩
section
variable {C:Cx} {h h':Heap} {O O':Addr->Prop} {G G':Gh}
theorem Bk {vs:List AV}{v:AV}(s:AV.stos vs=true)(m:v ∈ vs):v.sto=true:=stos_iff.mp s v m
theorem Su {α:Type}{l:List (Str × α)}{x:Str}{v:α}(e:l.lookup x=some v):v ∈ l.map (·.2):=List.mem_map.mpr ⟨(x,v),PySem.mem_of_lookup e,rfl⟩
theorem ORelF.mono (hk:∀ b o xs n,h.get? b=some o->o.data = .seq xs n->¬ O b->h'.get? b=some o/\¬ O' b){o:FObj}{a:Addr}{g:List Addr}
  (hg:∀ b ob,(b=a\/b ∈ g)->h.get? b=some ob->h'.get? b=some ob) (r:ORelF C h O G o a g):ORelF C h' O' G' o a g:=by
 cases o with
 | lst lk vs =>
  refine Ag fun PP ret=>?_
  obtain⟨e,s,hz,n,items,hl,hr⟩:=r
  refine ret ?_
  exact⟨e,s,hz,n,items,hg _ _ (.inl rfl) hl,hr.mono hk s⟩
 | mat lk M =>
  refine Ag fun PP ret=>?_
  obtain⟨⟨n,hl⟩,e,hz,hr⟩:=r
  refine ret ?_
  refine⟨⟨n,hg _ _ (.inl rfl) hl⟩,e,hz,fun i vs b hM hb=>?_⟩
  refine Ag fun PP ret=>?_
  obtain⟨s,hz',n',items,hl',hr'⟩:=hr i vs b hM hb
  refine ret ?_
  exact⟨s,hz',n',items,hg _ _ (.inr (List.mem_of_getElem? hb)) hl',hr'.mono hk s⟩
 | dic lk es =>
  refine Ag fun PP ret=>?_
  obtain⟨e,hs,s,xs,hd,hr⟩:=r
  refine ret ?_
  exact⟨e,hs,s,xs,hd.at fun o e=>hg _ _ (.inl rfl) e,hr.mono hk s⟩
 | iset ks =>
  obtain⟨e,hs⟩:=r
  exact⟨e,bZ hs fun o e=>hg _ _ (.inl rfl) e⟩
 | inst c attrs =>
  refine Ag fun PP ret=>?_
  obtain⟨d,m,rfl,s,hz,ho,hn,hr⟩:=r
  refine ret ?_
  refine⟨d,m,rfl,s,hz,hg _ _ (.inl rfl) ho,hn.at fun o e=>hg _ _ (.inr (by simp)) e,fun x=>⟨(hr x).1,fun v hv=>?_⟩⟩
  obtain⟨y,hy,hv'⟩:=(hr x).2 v hv
  exact⟨y,hy,hv'.mono hk (Bk s (Su hv))⟩
 | slots c vs =>
  refine Ag fun PP ret=>?_
  obtain⟨d,ys,rfl,s,ho,hn,hz,hr⟩:=r
  refine ret ?_
  refine⟨d,ys,rfl,s,hg _ _ (.inl rfl) ho,hn.at' fun o e=>hg _ _ (.inr (by simp)) e,hz,fun i=>⟨fun v hv=>?_,(hr i).2⟩⟩
  obtain⟨y,hy,hv'⟩:=(hr i).1 v hv
  exact⟨y,hy,hv'.mono hk (Bk s (List.mem_filterMap.mpr ⟨some v,List.mem_of_getElem? hv,rfl⟩))⟩
 | nxt src pos =>
  refine Ag fun PP ret=>?_
  obtain⟨it,rfl,ho,hi⟩:=r
  refine ret ?_
  exact⟨it,rfl,hg _ _ (.inl rfl) ho,hi.at fun o e=>hg _ _ (.inr (by simp)) e⟩
theorem ORel.mono (hk:∀ b o xs n,h.get? b=some o->o.data = .seq xs n->¬ O b->h'.get? b=some o/\¬ O' b){o:AObj}{a:Addr}{g:List Addr}
  (hg:∀ b ob,(b=a\/b ∈ g)->h.get? b=some ob->h'.get? b=some ob) (r:ORel C h O G o a g):ORel C h' O' G' o a g:=by
 cases o with
 | f o=>exact ORelF.mono hk hg r
 | srt S =>
  obtain⟨L,gs,hS,hl,he,hr⟩:=r
  refine⟨L,gs,hS,hl,he,fun x hx=>ORelF.mono hk (fun b ob hb=>hg b ob ?_) (hr x hx)⟩
  have:b ∈ a :: g:=by
   rw[he];refine List.mem_flatMap.mpr ⟨x,hx,?_⟩
   rcases hb with rfl | hb
   ·simp
   ·simp[hb]
  simpa using this
variable {H:AH}
theorem Rel.keepO (R:Rel C H G O h)(hk:∀ b o,h.get? b=some o->h'.get? b=some o)(hO:∀ b,O b->O' b)(hn:∀ b o,h.get? b=some o->O' b->O b)(hl:∀ b,O' b->∃ o,h'.get? b=some o):Rel C H G O' h' where
 sub:=fun b hb=>hO b (R.sub b hb)
 obj:=fun a o ha=>(R.obj a o ha).mono (fun b ob z0 z0 e z0 hb=>⟨hk b ob e,fun x=>hb (hn b ob e x)⟩) fun b ob z0 e=>hk b ob e
 nd:=R.nd
 dj:=R.dj
 base:=fun b o e=>⟨hk _ _ (R.base b o e).1,fun x=>(R.base b o e).2 (hn b o (R.base b o e).1 x)⟩
 live:=hl
theorem Rel.keep (R:Rel C H G O h)(hk:∀ b o,h.get? b=some o->h'.get? b=some o):Rel C H G O h':=R.keepO hk (fun z0 x=>x) (fun z0 z0 z0 x=>x) fun b hb=>let ⟨o,e⟩:=R.live b hb;⟨o,hk _ _ e⟩
noncomputable def frA (A:Around) (b:Addr):Prop:=∃ l,A.frames=some l/\b ∈ l.filterMap (·.frame)
theorem Frs.mono' {l:List Env}(hk:∀ b,b ∈ l.filterMap (·.frame)->∀ o es ep,h.get? b=some o->o.data = .dict es ep->¬ O b->(∃ o' es' ep',h'.get? b=some o'/\o'.data = .dict es' ep')/\¬ O' b)(F:Frs C O h l):Frs C O' h' l:=by
 obtain⟨h1,h2⟩:=F
 refine⟨?_,fun b hb=>?_⟩
 ·revert h1 h2 hk
  induction l with
  | nil=>intro _ _ _;trivial
  | cons e r ih =>
   intro hk h1 h2
   refine Ag fun PP ret=>?_
   obtain⟨hm,⟨L,o,hf,hb,ho,hd⟩,hr⟩:=h1
   refine ret ?_
   have hmm:∀ b,b ∈ r.filterMap (·.frame)->b ∈ (e :: r).filterMap (·.frame):=fun b hb=>by rw[List.filterMap_cons,hf];exact List.mem_cons_of_mem _ hb
   have hL:L ∈ (e :: r).filterMap (·.frame):=by rw[List.filterMap_cons,hf];exact List.mem_cons_self
   refine⟨hm,⟨L,?_⟩,ih (fun b hb=>hk b (hmm b hb)) hr fun b hb'=>h2 b (hmm b hb')⟩
   refine Ag fun PP ret=>?_
   obtain⟨hO,o2,es,ep,ho2,hd2⟩:=h2 L hL
   obtain⟨⟨o',es',ep',ho',hd'⟩,_⟩:=hk L hL o2 es ep ho2 hd2 hO
   refine ret ?_
   exact⟨o',hf,hb,ho',fun vs q=>by rw[hd']at q;cases q⟩
 ·refine Ag fun PP ret=>?_
  obtain⟨hO,o2,es,ep,ho2,hd2⟩:=h2 b hb
  obtain⟨h3,h4⟩:=hk b hb o2 es ep ho2 hd2 hO
  refine ret ?_
  exact⟨h4,h3⟩
theorem FrsA.mono' {A:Around}(F:FrsA C A O h)(hk:∀ b,frA A b->∀ o es ep,h.get? b=some o->o.data = .dict es ep->¬ O b->(∃ o' es' ep',h'.get? b=some o'/\o'.data = .dict es' ep')/\¬ O' b):FrsA C A O' h' :=
 let ⟨l,e,x⟩:=F;⟨l,e,x.mono' fun b hb=>hk b ⟨l,e,hb⟩⟩
theorem FrsA.mono {A:Around}(hk:∀ b o es ep,h.get? b=some o->o.data = .dict es ep->¬ O b->(∃ o' es' ep',h'.get? b=some o'/\o'.data = .dict es' ep')/\¬ O' b)(F:FrsA C A O h):FrsA C A O' h':=F.mono' fun b z0=>hk b
theorem FrsA.live {A:Around}(F:FrsA C A O h){b:Addr}(hb:frA A b):¬ O b/\∃ o es ep,h.get? b=some o/\o.data = .dict es ep:=by
 refine Ag fun PP ret=>?_
 obtain⟨l,e,x⟩:=F
 obtain⟨l',e',hb'⟩:=hb
 rw[e]at e';obtain rfl:=Option.some.inj e'
 refine ret ?_
 exact x.2 b hb'
theorem FrsA.keepO {A:Around}(F:FrsA C A O h)(hk:∀ b o,h.get? b=some o->h'.get? b=some o)(hn:∀ b o,h.get? b=some o->O' b->O b):FrsA C A O' h' :=
 F.mono fun b o es ep e hd hb=>⟨⟨o,es,ep,hk b o e,hd⟩,fun x=>hb (hn b o e x)⟩
theorem FrsA.keep {A:Around}(F:FrsA C A O h)(hk:∀ b o,h.get? b=some o->h'.get? b=some o):FrsA C A O h':=F.keepO hk fun z0 z0 z0 x=>x
variable {sc:Sc} {env:Env} {ρ:Rho}
theorem WF.keepO (F:WF C A sc env ρ G O h)(hst:∀ x i,(x,i) ∈ sc.vars->∀ v,VRel h O G (ρ i) v->VRel h' O' G' (ρ i) v)(hk:∀ b o,h.get? b=some o->h'.get? b=some o)(hn:∀ b o,h.get? b=some o->O' b->O b):WF C A sc env ρ G' O' h' where
 kind:=F.kind
 glob:=F.glob
 bui:=F.bui
 ns:=by
  obtain⟨m,hm,hv⟩:=F.ns
  refine⟨m,hm.keeps hk,fun x i hx hl=>(hv x i hx hl).imp id fun ⟨v,e,r⟩=>⟨v,e,hst x i hx v r⟩⟩
 cells:=fun x i hx hl=>by
  refine Ag fun PP ret=>?_
  obtain⟨k,c,ov,e,hc,hv⟩:=F.cells x i hx hl
  refine ret ?_
  exact⟨k,c,ov,e,hc.keeps hk,hv.imp id fun ⟨v,e,r⟩=>⟨v,e,hst x i hx v r⟩⟩
 celk:=F.celk
 gl:=F.gl
 apart:=F.apart
 cnl:=F.cnl
 cli:=fun x c hx=>let ⟨o,e⟩:=F.cli x c hx;⟨o,e.keeps hk⟩
 nol:=fun x=>by obtain⟨m,⟨o,_,_,ho,_⟩,_⟩:=F.ns;exact F.nol (hn _ o ho x)
 noc:=fun x c hx y=>by obtain⟨ov,o,ho,_⟩:=F.cli x c hx;exact F.noc x c hx (hn _ o ho y)
 nbs:=F.nbs
 scnd:=F.scnd
 scinj:=F.scinj
 frs:=F.frs.keepO hk hn
 top:=F.top
theorem WF.keep (F:WF C A sc env ρ G O h)(hk:∀ b o,h.get? b=some o->h'.get? b=some o):WF C A sc env ρ G O h':=F.keepO (fun z0 z0 z0 z0 r=>r.keep hk) hk fun z0 z0 z0 x=>x
theorem Rel.lt (R:Rel C H G O h){b:Addr}(hb:O b):b < h.objs.size:=by obtain⟨o,e⟩:=R.live b hb;exact Heap.lt_size e
theorem Rel.nsize (R:Rel C H G O h):¬ O h.objs.size:=fun x=>Nat.lt_irrefl _ (R.lt x)
theorem Qv (h:Heap):h.get? h.objs.size=none:=by
 cases e:h.get? h.objs.size with
 | none=>rfl
 | some o=>exact absurd (Heap.lt_size e) (Nat.lt_irrefl _)
theorem Gv {a:Addr}{o:AObj}(ha:H a ≠ none):own (upd H a o) G=own H G:=by
 funext b
 apply propext
 constructor
 ·rintro⟨x,hx,hb⟩
  by_cases e:x=a
  ·exact⟨a,ha,e ▸ hb⟩
  ·exact⟨x,by rwa [Ab e]at hx,hb⟩
 ·rintro⟨x,hx,hb⟩
  by_cases e:x=a
  ·exact⟨a,by simp,e ▸ hb⟩
  ·exact⟨x,by rwa [Ab e],hb⟩
theorem Lo {a:Addr}{o:AObj}{g:List Addr}(ha:H a=none):own (upd H a o) (Bx G a g)=fun b=>own H G b\/b=a\/b ∈ g:=by
 funext b
 apply propext
 constructor
 ·rintro⟨x,hx,hb⟩
  by_cases e:x=a
  ·clear ha hx;subst e;right;simpa [Bx]using hb
  ·left;exact⟨x,by rwa [Ab e]at hx,by simpa [Bx,e]using hb⟩
 ·rintro(⟨x,hx,hb⟩ | hb)
  ·have e:x ≠ a:=by rintro rfl;exact hx ha
   exact⟨x,by rwa [Ab e],by simpa [Bx,e]using hb⟩
  ·exact⟨a,by simp,by simpa [Bx]using hb⟩
theorem Rel.change (R:Rel C H G (own H G) h){a:Addr}{o₀ o':AObj}(ha:H a=some o₀)(hk:∀ b ob,b ≠ a->b ∉ G a->h.get? b=some ob->h'.get? b=some ob)
  (ho:ORel C h' (own H G) G o' a (G a)) (hl:∀ b,b=a\/b ∈ G a->∃ ob,h'.get? b=some ob):Rel C (upd H a o') G (own (upd H a o') G) h':=by
 have hne:H a ≠ none:=by rw[ha];simp
 have oe:own (upd H a o') G=own H G:=Gv hne
 have un:∀ x,upd H a o' x ≠ none->H x ≠ none:=fun x hx=>by
  by_cases e:x=a
  ·exact e ▸ hne
  ·rwa [Ab e]at hx
 rw[oe]
 refine⟨fun b hb=>oe ▸ hb,fun x o hx=>?_,fun x hx=>R.nd x (un x hx),fun x y z hx hy=>R.dj x y z (un x hx) (un y hy),fun b o e=>?_,fun b hb=>?_⟩
 ·by_cases e:x=a
  ·subst e;rw[Af]at hx;obtain rfl:=Option.some.inj hx;exact ho
  ·rw[Ab e]at hx
   have hxn:H x ≠ none:=by rw[hx];simp
   refine(R.obj x o hx).mono (fun b ob z0 z0 e' z0 hb=>⟨hk b ob ?_ ?_ e',hb⟩) fun b ob hb e'=>hk b ob ?_ ?_ e'
   ·clear R e e' ha hk hl ho hx hxn oe un z0;rintro rfl;exact hb ⟨b,hne,.inl rfl⟩
   ·intro hm;exact hb ⟨a,hne,.inr hm⟩
   ·clear e' ha hk hl ho hx oe un;rintro rfl;exact R.dj x b b hxn hne e hb (.inl rfl)
   ·intro hm;exact R.dj x a b hxn hne e hb (.inr hm)
 ·have:=R.base b o e
  refine⟨hk b o ?_ ?_ this.1,this.2⟩
  ·clear R e ha hk hl ho oe un;rintro rfl;exact this.2 ⟨b,hne,.inl rfl⟩
  ·intro hm;exact this.2 ⟨a,hne,.inr hm⟩
 ·by_cases e:b=a\/b ∈ G a
  ·exact hl b e
  ·obtain⟨ob,hob⟩:=R.live b hb
   exact⟨ob,hk b ob (fun x=>e (.inl x)) (fun x=>e (.inr x)) hob⟩
theorem Rel.free (R:Rel C H G (own H G) h){a:Addr}(hf:h.get? a=none):¬ own H G a:=fun x=>by obtain⟨o,e⟩:=R.live a x;rw[hf]at e;exact nqa e
theorem Rel.none_of (R:Rel C H G (own H G) h){a:Addr}(hf:h.get? a=none):H a=none:=by
 cases e:H a with
 | none=>rfl
 | some o=>exact absurd ⟨a,by rw[e];simp,.inl rfl⟩ (R.free hf)
theorem Rel.alloc (R:Rel C H G (own H G) h){a:Addr}{g:List Addr}{o:FObj}(hk:∀ b ob,h.get? b=some ob->h'.get? b=some ob)
  (hf:∀ b,b=a\/b ∈ g->h.get? b=none/\∃ ob,h'.get? b=some ob) (hnd:(a :: g).Nodup) (ho:ORelF C h' (fun b=>own H G b\/b=a\/b ∈ g) G o a g) :
  Rel C (upd H a (.f o)) (Bx G a g) (own (upd H a (.f o)) (Bx G a g)) h':=by
 have hn:H a=none:=R.none_of (hf a (.inl rfl)).1
 have oe:=Lo (G:=G) (o:=.f o) (g:=g) hn
 rw[oe]
 have ge:∀ x,x ≠ a->Bx G a g x=G x:=fun x e=>by simp[Bx,e]
 have ga:Bx G a g a=g:=by simp[Bx]
 have nof:∀ b ob,h.get? b=some ob->¬ (b=a\/b ∈ g):=fun b ob e x=>by rw[(hf b x).1]at e;exact nqa e
 refine⟨fun b hb=>by rw[oe]at hb;exact hb,fun x ob hx=>?_,fun x hx=>?_,fun x y z hx hy hxy hz=>?_,fun b ob e=>?_,fun b hb=>?_⟩
 ·by_cases e:x=a
  ·subst e;rw[Af]at hx;obtain rfl:=Option.some.inj hx;rw[ga]
   refine ORelF.mono (fun b ob z0 z0 e z0 hb=>⟨e,hb⟩) (fun z0 z0 z0 e=>e) ho
  ·rw[Ab e]at hx;rw[ge x e]
   exact(R.obj x ob hx).mono (fun b ob z0 z0 e' z0 hb=>⟨hk b ob e',fun q=>q.elim hb (nof b ob e')⟩) fun b ob z0 e'=>hk b ob e'
 ·by_cases e:x=a
  ·clear R ge hf hk hn ho hx nof oe;subst e;rw[ga];exact hnd
  ·rw[ge x e];rw[Ab e]at hx;exact R.nd x hx
 ·by_cases e:x=a
  ·clear hf hk hn hnd ho hx oe;subst e
   rw[ga]at hz
   have ey:y ≠ x:=Ne.symm hxy
   rw[Ab ey]at hy
   rw[ge y ey]
   intro q
   obtain⟨ob,e⟩:=R.live z ⟨y,hy,q⟩
   exact nof z ob e hz
  ·rw[Ab e]at hx;rw[ge x e]at hz
   by_cases ey:y=a
   ·clear ge hf hk hn hnd ho hxy hy oe;subst ey;rw[ga]
    intro q
    obtain⟨ob,e⟩:=R.live z ⟨x,hx,hz⟩
    exact nof z ob e q
   ·rw[Ab ey]at hy;rw[ge y ey]
    exact R.dj x y z hx hy hxy hz
 ·have:=R.base b ob e
  exact⟨hk _ _ this.1,fun q=>q.elim this.2 (nof b ob this.1)⟩
 ·rcases hb with hb | hb
  ·obtain⟨ob,e⟩:=R.live b hb;exact⟨ob,hk _ _ e⟩
  ·exact(hf b hb).2
end
section
variable {P:Addr->Prop} {H H' H'':AH} {G G' G'':Gh} {s s' s'':Shared}
theorem Step.refl (s:Shared):Step P H G s H G s:=⟨⟨s.heap,s.toks,rfl⟩,fun z0 o z0 z0 e=>⟨o,e,.refl o⟩,fun z0 o z0 e=>⟨o,e⟩,fun z0 x=>.inl x,fun z0 z0 e z0=>⟨e,rfl,fun z0 z0=>rfl⟩⟩
theorem Step.ofKp (k:Kp s s')(hl:∀ b,own H G b->∃ ob,s.heap.get? b=some ob):Step P H G s H G s':=by
 obtain⟨⟨h',tk,rfl⟩,hk⟩:=k
 refine⟨⟨h',tk,rfl⟩,fun b o z0 z0 e=>⟨o,hk b o e,.refl o⟩,fun b o z0 e=>⟨o,hk b o e⟩,fun z0 x=>.inl x,fun a o e z0=>⟨e,rfl,fun b hb=>?_⟩⟩
 obtain⟨ob,hob⟩:=hl b ⟨a,by rw[e];simp,hb⟩
 rw[hob];exact hk _ _ hob
theorem Step.trans (a:Step P H G s H' G' s')(b:Step P H' G' s' H'' G'' s''):Step P H G s H'' G'' s'':=by
 refine⟨?_,fun x o h1 h2 e=>(let ⟨o',e',q⟩:=a.keep x o h1 h2 e;let ⟨o'',e'',q'⟩:=b.keep x o' (fun y=>?_) h2 e';⟨o'',e'',q.trans q'⟩),fun x o p e=>?_,fun x hx=>?_,fun x o e l=>?_⟩
 ·obtain⟨h1,t1,rfl⟩:=a.same;obtain⟨h2,t2,rfl⟩:=b.same;exact⟨h2,t2,rfl⟩
 ·rcases a.fresh x y with z | z
  ·exact h1 z
  ·rw[z]at e;exact nqa e
 ·obtain⟨o',e'⟩:=a.pl x o p e
  exact b.pl x o' p e'
 ·rcases b.fresh x hx with z | z
  ·exact a.fresh x z
  ·by_cases q:own H G x
   ·exact .inl q
   ·right
    cases e:s.heap.get? x with
    | none=>rfl
    | some o =>
     by_cases p:P x
     ·obtain⟨o',e'⟩:=a.pl x o p e;rw[e']at z;exact nqb z
     ·obtain⟨o',e',_⟩:=a.keep x o q p e;rw[e']at z;exact nqb z
 ·refine Ag fun PP ret=>?_
  obtain⟨e1,g1,l1⟩:=a.lock x o e l
  obtain⟨e2,g2,l2⟩:=b.lock x o e1 l
  refine ret ?_
  exact⟨e2,g2.trans g1,fun y hy=>(l2 y (by rwa [g1])).trans (l1 y hy)⟩
end
end Mine
end
section
namespace Mine
section
variable {C:Cx} {k:Nat} {sc:Sc} {f f':PF}
theorem PureE.two {l r:Expr}{A:Around}{env:Env}{s:Shared}{ρ:Rho}{H:AH}{G:Gh}{O:Addr->Prop}{u v:AV}{K:Value->Value->Shared->Prop}
  (hl:PureE C k sc l f) (hr:PureE C k sc r f') (hA:AOk k A) (F:WF C A sc env ρ G O s.heap) (R:Rel C H G O s.heap) (hu:f ρ H=some u) (hv:f' ρ H=some v)
  (hK:∀ x y s',VRel s'.heap O G u x->VRel s'.heap O G v y->Kp s s'->K x y s') :
  wpAny (model C.prog C.w) A (eval l env) (fun x s₁=>wpAny (model C.prog C.w) A (eval r env) (fun y s₂=>K x y s₂) (fun z0 z0=>False) s₁) (fun z0 z0=>False) s:=by
 refine wpAny_mono (hl A env s ρ H G O u hA F R hu) (fun x s1 h1=>?_) (fun z0 z0 x=>x)
 obtain⟨rx,k1⟩:=h1
 refine wpAny_mono (hr A env s1 ρ H G O v hA (F.keep k1.k) (R.keep k1.k) hv) (fun y s2 h2=>?_) (fun z0 z0 x=>x)
 obtain⟨ry,k2⟩:=h2
 exact hK x y s2 (rx.keep k2.k) ry (k1.trans' k2)
noncomputable def BinR (C:Cx) (k:Nat) (t:Value->Value->Sem Value) (g:AH->AV->AV->Option AV):Prop :=
 ∀ (A:Around) (s:Shared) (H:AH) (G:Gh) (O:Addr->Prop) (u v r:AV) (x y:Value),AOk k A->Rel C H G O s.heap->VRel s.heap O G u x->VRel s.heap O G v y->g H u v=some r ->
  wpAny (model C.prog C.w) A (t x y) (fun z s'=>VRel s'.heap O G r z/\Kp s s') (fun z0 z0=>False) s
noncomputable def opP (g:AH->AV->AV->Option AV) (f f':PF):PF:=fun ρ H=>match f ρ H,f' ρ H with
 | some u,some v=>g H u v
 | _,_=>none
theorem Me {g:AH->AV->AV->Option AV}{ρ:Rho}{H:AH}{r:AV}(h:opP g f f' ρ H=some r):∃ u v,f ρ H=some u/\f' ρ H=some v/\g H u v=some r:=by
 unfold opP at h
 refine Qt h ?_;clear h;intro z1 z2 q1 q2 h
 exact⟨_,_,by assumption,by assumption,h⟩
theorem PureE.bin {l r:Expr}{op:Operator}{pos:Pos}{g:AH->AV->AV->Option AV}(hl:PureE C k sc l f)(hr:PureE C k sc r f')(hg:BinR C k (binaryOp op) g):PureE C k sc (.BinOp l op r pos) (opP g f f'):=by
 intro A env s ρ H G O v hA F R hv
 refine Ag fun PP ret=>?_
 obtain⟨a,b,ha,hb,hr'⟩:=Me hv
 refine ret ?_
 refine wpAny_BinOp (PureE.two hl hr hA F R ha hb fun x y s' rx ry ks=>?_)
 refine wpAny_mono (hg A s' H G O a b v x y hA (R.keep ks.k) rx ry hr') (fun z s'' hz=>⟨hz.1,ks.trans' hz.2⟩) (fun z0 z0 x=>x)
noncomputable def CmpR (C:Cx) (k:Nat) (op:CmpOp) (g:AH->AV->AV->Option Bool):Prop:=BinR C k (compareOp op) (fun H u v=>(g H u v).map .bool)
noncomputable def Aw (g:AH->AV->AV->Option Bool) (f f':PF):CF:=fun ρ H=>match f ρ H,f' ρ H with
 | some u,some v=>g H u v
 | _,_=>none
theorem Xl {g:AH->AV->AV->Option Bool}{ρ:Rho}{H:AH}{r:Bool}(h:Aw g f f' ρ H=some r):∃ u v,f ρ H=some u/\f' ρ H=some v/\g H u v=some r:=by
 unfold Aw at h
 refine Qt h ?_;clear h;intro z1 z2 q1 q2 h
 exact⟨_,_,by assumption,by assumption,h⟩
theorem TestE.cmp {l r:Expr}{op:CmpOp}{pos:Pos}{g:AH->AV->AV->Option Bool}(hl:PureE C k sc l f)(hr:PureE C k sc r f')(hg:CmpR C k op g)
  (hm:behindInMarks op r=false:=by with_unfolding_all rfl):TestE C k sc (.Compare l [op] [r] pos) (Aw g f f'):=by
 intro A env s ρ H G O b hA F R hv
 refine Ag fun PP ret=>?_
 obtain⟨u,v,ha,hb,hr'⟩:=Xl hv
 refine ret ?_
 refine wpAny_isTrue_Compare1 (PureE.two hl hr hA F R ha hb fun x y s' rx ry ks=>?_) hm
 refine wpAny_mono (hg A s' H G O u v (.bool b) x y hA (R.keep ks.k) rx ry (by simp[hr'])) (fun z s'' hz=>?_) (fun z0 z0 x=>x)
 obtain⟨hz,k2⟩:=hz
 simp only [vRb]at hz;subst hz
 exact wpAny_truthy_bool ⟨rfl,ks.trans' k2⟩
noncomputable def vP (i:Nat):PF:=fun ρ z0=>match ρ i with
 | .undef=>none
 | v=>some v
theorem cF {i:Nat}{ρ:Rho}{H:AH}{v:AV}(h:vP i ρ H=some v):ρ i=v/\v ≠ .undef:=by
 unfold vP at h
 set_option tactic.hygienic true in split at h
 ·exact nqa h
 ·rename_i hne;obtain rfl:=Option.some.inj h;exact⟨rfl,fun e=>hne e⟩
theorem Pj {x:Str}{i:Nat}{A:Around}{env:Env}{s:Shared}{ρ:Rho}{G:Gh}{O:Addr->Prop}{v:AV}{Q:Value->Shared->Prop}{E:Value->Shared->Prop}{M:Model}
  (F:WF C A sc env ρ G O s.heap) (hx:(x,i) ∈ sc.vars) (hv:ρ i=v) (hne:v ≠ .undef) (hQ:∀ y,VRel s.heap O G v y->Q y s) (hcd:(x == ("__classdict__":Str))=false):wpAny M A (loadName env x) Q E s:=by
 subst hv
 by_cases hl:env.kindOf x=some .local
 ·obtain⟨m,hm,hr⟩:=F.ns
  rcases hr x i hx hl with h | ⟨y,hy,hr⟩
  ·exact absurd h hne
  ·exact wpAny_loadName_local F.kind hl hm hy (hQ y hr)
 ·refine Ag fun PP ret=>?_
  obtain⟨hk,c,ov,hc,hcell,hr⟩:=F.cells x i hx hl
  refine ret ?_
  rcases hr with h | ⟨y,rfl,hr⟩
  ·exact absurd h hne
  ·rcases hk with hk | hk
   ·exact wpAny_loadName_cell F.kind hk hc hcell (hQ y hr)
   ·exact wpAny_loadName_free F.kind hk hc hcell (hQ y hr) hcd
theorem PureE.var {x:Str} {i:Nat} {pos:Pos} (hx:(x,i) ∈ sc.vars) (hd:(x == ("__debug__":Str))=false:=by decide) (hcd:(x == ("__classdict__":Str))=false:=by decide):PureE C k sc (.Name x pos) (vP i):=by
 intro A env s ρ H G O v hA F R hv
 obtain⟨h1,h2⟩:=cF hv
 exact wpAny_Name (Pj F hx h1 h2 (fun y hy=>⟨hy,.refl' s⟩) hcd) hd
theorem Od {x:Str}{A:Around}{env:Env}{s:Shared}{mg mb:Str->Option Value}{y:Value}{Q:Value->Shared->Prop}{E:Value->Shared->Prop}{M:Model}(hf:env.scope.kind = .function)(hk:env.kindOf x=some .globalImplicit)
  (n1:s.heap.Ns env.globals mg) (n2:s.heap.Ns env.builtins mb) (hm:mg x=some y\/(mg x=none/\mb x=some y)) (hQ:Q y s):wpAny M A (loadName env x) Q E s:=by
 unfold loadName
 simp only [Env.blockKind,hf,hk,ScopeKind.isAnnotationScope,Bool.false_and,Bool.false_eq_true,if_false]
 unfold loadGlobal
 rcases hm with hm | ⟨hm,hm'⟩
 ·refine wpAny_bind (wpAny_nsGet n1 ?_)
  rw[hm];exact wpAny_pure hQ
 ·refine wpAny_bind (wpAny_nsGet n1 ?_)
  rw[hm]
  refine wpAny_bind (wpAny_nsGet n2 ?_)
  rw[hm'];exact wpAny_pure hQ
theorem Co {x:Str}{A:Around}{env:Env}{s:Shared}{ρ:Rho}{H:AH}{G:Gh}{O:Addr->Prop}{y:Value}{Q:Value->Shared->Prop}{E:Value->Shared->Prop}{M:Model}
  (F:WF C A sc env ρ G O s.heap) (R:Rel C H G O s.heap) (hx:x ∈ sc.globs) (hm:C.mg x=some y\/(C.mg x=none/\C.mb x=some y)) (hQ:Q y s):wpAny M A (loadName env x) Q E s :=
 Od F.kind (F.gl x hx) (F.glob ▸ C.ns.keeps fun b o e=>(R.base b o e).1) (F.bui ▸ C.nb.keeps fun b o e=>(R.base b o e).1) hm hQ
noncomputable def cP (v:AV):PF:=fun z0 z0=>some v
theorem PureE.glob {x:Str} {pos:Pos} {v:AV} {y:Value} (hx:x ∈ sc.globs) (hm:C.mg x=some y\/(C.mg x=none/\C.mb x=some y)) (hv:∀ h O G,VRel h O G v y) (hd:(x == ("__debug__":Str))=false:=by decide):PureE C k sc (.Name x pos) (cP v):=by
 intro A env s ρ H G O v' hA F R hv'
 obtain rfl:=Option.some.inj hv'
 exact wpAny_Name (Co F R hx hm ⟨hv _ _ _,.refl' s⟩) hd
theorem PureE.none {i pos}:PureE C k sc (.Constant .none i pos) (cP .none):=by
 intro A env s ρ H G O v hA F R hv;obtain rfl:=Option.some.inj hv;exact wpAny_Constant_none ⟨by simp[vRn],.refl' s⟩
theorem PureE.bool {b i pos}:PureE C k sc (.Constant (.bool b) i pos) (cP (.bool b)):=by
 intro A env s ρ H G O v hA F R hv;obtain rfl:=Option.some.inj hv;exact wpAny_Constant_bool ⟨by simp[vRb],.refl' s⟩
theorem PureE.int {n i pos}:PureE C k sc (.Constant (.int n) i pos) (cP (.int n)):=by
 intro A env s ρ H G O v hA F R hv;obtain rfl:=Option.some.inj hv;exact wpAny_Constant_int ⟨by simp[vRi],.tok⟩
noncomputable def Xz (H:AH):AV->Option Bool
 | .none=>some false
 | .bool b=>some b
 | .int i=>some (i != 0)
 | .fl vs=>some (!vs.isEmpty)
 | .ref a=>match H a with
  | some (.f (.lst _ vs))=>some (!vs.isEmpty)
  | _=>Option.none
 | _=>Option.none
theorem Xy {H:AH}{a:Addr}:Xz H (.ref a)=match H a with | some (.f (.lst _ vs))=>some (!vs.isEmpty) | _=>Option.none:=rfl
theorem PureE.ifExp {t b o:Expr}{pos:Pos}{c:CF}(ht:TestE C k sc t c)(hb:PureE C k sc b f)(ho:PureE C k sc o f') :
  PureE C k sc (.IfExp t b o pos) (fun ρ H=>match c ρ H with | some true=>f ρ H | some false=>f' ρ H | _=>.none):=by
 intro A env s ρ H G O v hA F R hv
 refine wpAny_IfExp ?_
 cases hc:c ρ H with
 | none=>simp only [hc]at hv;exact nqa hv
 | some q =>
  simp only [hc]at hv
  refine wpAny_mono (ht A env s ρ H G O q hA F R hc) (fun q' s1 hq=>?_) (fun z0 z0 x=>x)
  clear hc ht;obtain⟨rfl,k1⟩:=hq
  cases q' with
  | true=>simp only [if_true]at hv ⊢;exact wpAny_mono (hb A env s1 ρ H G O v hA (F.keep k1.k) (R.keep k1.k) hv) (fun z0 z0 z=>⟨z.1,k1.trans' z.2⟩) fun z0 z0 x=>x
  | false=>simp only [Bool.false_eq_true,if_false]at hv ⊢;exact wpAny_mono (ho A env s1 ρ H G O v hA (F.keep k1.k) (R.keep k1.k) hv) (fun z0 z0 z=>⟨z.1,k1.trans' z.2⟩) fun z0 z0 x=>x
end
end Mine
end
section
open AutoSeq1 (wpAny_loadPart')
open MeetsSeq MeetsSeq2 MeetsSeq3 SeqRoads2 SeqAt
namespace Mine
noncomputable def LtAt (A:Around) (s:Shared) (y x:Value) (b:Bool):Prop :=
 ∀ (prog:Program) (w:World) (E:Value->Shared->Prop) (Q:Value->Shared->Prop),Q (.bool b) s->wpAny (model prog w) A (richCompare .Lt y x) Q E s
noncomputable def Gs (A:Around) (s:Shared) (fin:Bool):List (Value × Value)->Bool->Prop
 | [],b=>b=fin
 | (p,q) :: r,b=>∃ e,EqAt A s p q e/\(if e=true then Gs A s fin r b else LtAt A s p q b)
theorem Ru {A:Around}{s:Shared}{fin b:Bool}:Gs A s fin [] b=(b=fin):=rfl
theorem Rv {A:Around}{s:Shared}{fin b:Bool}{p q:Value}{r:List (Value × Value)}:Gs A s fin ((p,q) :: r) b = ∃ e,EqAt A s p q e/\(if e=true then Gs A s fin r b else LtAt A s p q b):=rfl
theorem Ry (l b:Addr)(items items2:Array Value)(n n2:Nat)(dd dd2:Option Addr)(sl sl2:Array (Option Value))(r:Bool) :
  Meets (Builtin.«tuple.__lt__» ⟨[.ref l,.ref b],[]⟩)
   (fun A R s=>s.heap.get? l=some { cls:=.type "tuple",dict:=dd,data:=.seq items n,slots:=sl }/\s.heap.get? b=some { cls:=.type "tuple",dict:=dd2,data:=.seq items2 n2,slots:=sl2 } /\
    Gs A.in1 s (decide (items.size < items2.size)) (items.toList.zip items2.toList) r/\R (.ok (.ret (.bool r))) s) :=
 .of_wp fun prog w A R s h=>by
  obtain⟨hp,g,d,tk,os⟩:=s;obtain⟨hl,hb,he,h⟩:=h
  have f2:=AutoSeq1.sub_tuple_tuple
  wp_walk using wpAny_loadPart' hl,wpAny_loadPart' hb,wpAny_forIn_list _ (fun rest b s'=>b.1=none/\s' = ⟨hp,g,d,tk,os⟩/\Gs A.in1 ⟨hp,g,d,tk,os⟩ (decide (items.size < items2.size)) rest r) _
  case turn =>
   clear f2 hb he hl;rintro⟨y,x⟩ rest b s' ⟨hb',rfl,e,hz,hR⟩
   refine wpAny_bind (hz prog w _ _ ?_)
   cases e with
   | true =>
    simp only [if_true]at hR
    wp_walk
    exact⟨rfl,rfl,hR⟩
   | false =>
    simp only [Bool.false_eq_true,if_false]at hR
    have hR':∀ (E:Value->Shared->Prop) (Q:Value->Shared->Prop),Q (.bool r) ⟨hp,g,d,tk,os⟩->wpAny (model prog w) A.in1 (richCompare .Lt y x) Q E ⟨hp,g,d,tk,os⟩:=fun E Q q=>hR prog w E Q q
    wp_walk using hR' _ _
    exact⟨_,rfl,h⟩
  case fin =>
   clear f2 hb he hl;rintro⟨b1,b2⟩ s' ⟨hb',rfl,hR⟩
   simp only at hb'
   subst hb'
   simp only [Ru,Rv]at hR
   subst hR
   wp_walk
   exact⟨_,rfl,by simpa [Builtin.Tuple.tupleCompareSizes]using h⟩
  case h =>
   exact⟨rfl,rfl,he⟩
theorem Wy (l b:Addr)(items items2:Array Value)(n n2:Nat)(dd dd2:Option Addr)(sl sl2:Array (Option Value))(r:Bool)(k:Nat) :
  ∀ i:Nat,items.size - i=k->Meets (Builtin.«list.__eq__.loop» ⟨[.ref l,.ref b,rawInt i,rawInt 0],[]⟩)
   (fun A R s=>s.heap.get? l=some { cls:=.type "list",dict:=dd,data:=.seq items n,slots:=sl }/\s.heap.get? b=some { cls:=.type "list",dict:=dd2,data:=.seq items2 n2,slots:=sl2 } /\
    Gs A.in1 s (decide (items.size < items2.size)) ((items.toList.zip items2.toList).drop i) r/\i<=items.size/\R (.ok (.ret (.bool r))) s):=by
 induction k with
 | zero =>
  intro i hk prog w A R s h
  obtain⟨hp,g,d,tk,os⟩:=s;obtain⟨hl,hb,he,hle,h⟩:=h
  have hi:items[((i:Nat):Int).toNat]? = none:=by simp;exact Ar.r18 hk
  have hd:(items.toList.zip items2.toList).drop i=[]:=by simp;exact Ar.r17 hk
  rw[hd]at he
  simp only [Ru,Rv]at he
  subst he
  wp_walk using wpAny_loadPart' hl,wpAny_loadPart' hb
  rw[hi]
  wp_walk using wpAny_loadPart' hl,wpAny_loadPart' hb
  exact h
 | succ k ih =>
  intro i hk prog w A R s h
  obtain⟨hp,g,d,tk,os⟩:=s;obtain⟨hl,hb,he,hle,h⟩:=h
  have hlt:i < items.size:=by exact Ar.r16 hk
  have hi1:items[((i:Nat):Int).toNat]? = some items[i]:=by simp[hlt]
  by_cases h2:i < items2.size
  ·have hi2:items2[((i:Nat):Int).toNat]? = some items2[i]:=by simp[h2]
   have hz:i < (items.toList.zip items2.toList).length:=by simp;exact Ar.r184 hlt h2
   rw[List.drop_eq_getElem_cons hz]at he
   simp only [List.getElem_zip,Array.getElem_toList,Ru,Rv]at he
   obtain⟨e,hE,he⟩:=he
   wp_walk using wpAny_loadPart' hl,wpAny_loadPart' hb
   rw[hi1,hi2]
   refine wpAny_bind (hE prog w _ _ ?_)
   cases e with
   | true =>
    simp only [if_true]at he
    have hc:((i:Int) + 1)=((i + 1:Nat):Int):=by push_cast;rfl
    wp_walk
    rw[hc]
    exact⟨plainId_quiet plain_eq_loop _,codeAny_builtin entry_eq_loop (by
     rw[Around.under_plainId plain_eq_loop _]
     exact ih (i + 1) (by exact Ar.r15 hk) prog w A R _ ⟨hl,hb,he,by exact Ar.r188 hlt,h⟩)⟩
   | false =>
    simp only [Bool.false_eq_true,if_false]at he
    wp_walk using wpAny_loadPart' hl,wpAny_loadPart' hb
    rw[hi1,hi2]
    have hR':∀ (E:Value->Shared->Prop) (Q:Value->Shared->Prop),Q (.bool r) ⟨hp,g,d,tk,os⟩->wpAny (model prog w) A.in1 (richCompare .Lt items[i] items2[i]) Q E ⟨hp,g,d,tk,os⟩:=fun E Q q=>he prog w E Q q
    wp_walk using hR' _ _
    exact h
  ·have hi2:items2[((i:Nat):Int).toNat]? = none:=by simp;exact Ar.r123 h2
   have hd:(items.toList.zip items2.toList).drop i=[]:=by simp;exact Ar.r122 h2
   rw[hd]at he
   simp only [Ru,Rv]at he
   subst he
   wp_walk using wpAny_loadPart' hl,wpAny_loadPart' hb
   rw[hi1,hi2]
   wp_walk using wpAny_loadPart' hl,wpAny_loadPart' hb
   exact h
theorem Wz (l b:Addr)(items items2:Array Value)(n n2:Nat)(dd dd2:Option Addr)(sl sl2:Array (Option Value))(r:Bool) :
  Meets (Builtin.«list.__lt__» ⟨[.ref l,.ref b],[]⟩)
   (fun A R s=>s.heap.get? l=some { cls:=.type "list",dict:=dd,data:=.seq items n,slots:=sl }/\s.heap.get? b=some { cls:=.type "list",dict:=dd2,data:=.seq items2 n2,slots:=sl2 } /\
    Gs A.in1 s (decide (items.size < items2.size)) (items.toList.zip items2.toList) r/\R (.ok (.ret (.bool r))) s):=by
 intro prog w A R s h
 obtain⟨hp,g,d,tk,os⟩:=s;obtain⟨hl,hb,he,h⟩:=h
 have f3:=AutoSeq1.sub_list_list
 wp_walk using wpAny_loadPart' hl,wpAny_loadPart' hb
 exact⟨plainId_quiet plain_eq_loop _,codeAny_builtin entry_eq_loop (by
  rw[Around.under_plainId plain_eq_loop _]
  exact Wy l b items items2 n n2 dd dd2 sl sl2 r _ 0 rfl prog w A R _ ⟨hl,hb,by simpa using he,Nat.zero_le _,h⟩)⟩
section
variable {A:Around} {s:Shared}
theorem LtAt.lists {l b:Addr}{items items2:Array Value}{r:Bool}(hl:s.heap.IsList l items)(hb:s.heap.IsList b items2)(hu:A.units < cLine)
  (he:Gs A.in1 s (decide (items.size < items2.size)) (items.toList.zip items2.toList) r):LtAt A s (.ref l) (.ref b) r:=fun prog w E Q h=>by
 obtain⟨⟨cls,dd,data,sl⟩,ho,hc,n,hd⟩:=id hl
 obtain⟨⟨cls2,dd2,data2,sl2⟩,ho2,hc2,n2,hd2⟩:=id hb
 simp only at hc hd hc2 hd2
 subst hc hd hc2 hd2
 exact richCompare_meets_room (op:=.Lt) ⟨_,ho,rfl⟩ ⟨_,ho2,rfl⟩ F.slot_list_lt F.entry_list_lt (F.args_list_lt_2 _ _) (Wz l b items items2 n n2 dd dd2 sl sl2 r)
  ⟨ho,ho2,he,show Value.bool r ≠ Value.notImplemented/\Q (.bool r) s from ⟨(fun x=>nomatch x),h⟩⟩ hu
theorem LtAt.tuples {l b:Addr}{items items2:Array Value}{r:Bool}(hl:s.heap.IsTuple l items)(hb:s.heap.IsTuple b items2)(hu:A.units < cLine)
  (he:Gs A.in1 s (decide (items.size < items2.size)) (items.toList.zip items2.toList) r):LtAt A s (.ref l) (.ref b) r:=fun prog w E Q h=>by
 obtain⟨⟨cls,dd,data,sl⟩,ho,hc,n,hd⟩:=id hl
 obtain⟨⟨cls2,dd2,data2,sl2⟩,ho2,hc2,n2,hd2⟩:=id hb
 simp only at hc hd hc2 hd2
 subst hc hd hc2 hd2
 exact richCompare_meets_room (op:=.Lt) ⟨_,ho,rfl⟩ ⟨_,ho2,rfl⟩ F.slot_tuple_lt F.entry_tuple_lt (F.args_tuple_lt_2 _ _) (Ry l b items items2 n n2 dd dd2 sl sl2 r)
  ⟨ho,ho2,he,show Value.bool r ≠ Value.notImplemented/\Q (.bool r) s from ⟨(fun x=>nomatch x),h⟩⟩ hu
end
end Mine
end
section
open SeqAt
namespace Mine
noncomputable def eqL (e:AV->AV->Option Bool):List AV->List AV->Option Bool
 | [],[]=>some true
 | x :: xs,y :: ys=>match e x y,eqL e xs ys with
  | some b,some c=>some (b && c)
  | _,_=>none
 | _,_=>none
noncomputable def eqS (u v:AV):Option Bool:=match u with
 | .none=>(match v with | .none=>some true | .int _=>some false | _=>none)
 | .int a=>(match v with | .none=>some false | .int b=>some (a == b) | _=>none)
 | .bool a=>(match v with | .bool b=>some (a == b) | _=>none)
 | .str a=>(match v with | .str b=>some (a == b) | _=>none)
 | _=>none
noncomputable def eqA:Nat->AV->AV->Option Bool
 | 0,u,v=>eqS u v
 | n + 1,u,v=>match u with
  | .tup xs=>(match v with | .tup ys=>eqL (eqA n) xs ys | _=>none)
  | .fl xs=>(match v with | .fl ys=>if xs.length ≠ ys.length then some false else eqL (eqA n) xs ys | _=>none)
  | _=>eqS u v
noncomputable def ltL (e l:AV->AV->Option Bool):List AV->List AV->Option Bool
 | [],[]=>some false
 | [],_ :: _=>some true
 | _ :: _,[]=>some false
 | x :: xs,y :: ys=>match e x y with
  | some true=>ltL e l xs ys
  | some false=>l x y
  | none=>none
noncomputable def ltS (u v:AV):Option Bool:=match u with
 | .int a=>(match v with | .int b=>some (decide (a < b)) | _=>none)
 | .str a=>(match v with | .str b=>some (decide (a.cps.toList < b.cps.toList)) | _=>none)
 | _=>none
noncomputable def ltA:Nat->AV->AV->Option Bool
 | 0,u,v=>ltS u v
 | n + 1,u,v=>match u with
  | .tup xs=>(match v with | .tup ys=>ltL (eqA n) (ltA n) xs ys | _=>none)
  | .fl xs=>(match v with | .fl ys=>ltL (eqA n) (ltA n) xs ys | _=>none)
  | _=>ltS u v
inductive EqI:Nat->AV->AV->Bool->Prop
 | nn {n}:EqI n .none .none true
 | ni {n} (i:Int):EqI n .none (.int i) false
 | iN {n} (i:Int):EqI n (.int i) .none false
 | bb {n} (a b:Bool):EqI n (.bool a) (.bool b) (a == b)
 | ii {n} (a b:Int):EqI n (.int a) (.int b) (a == b)
 | ss {n} (a b:Str):EqI n (.str a) (.str b) (a == b)
 | tt {n xs ys b} (h:eqL (eqA n) xs ys=some b):EqI (n + 1) (.tup xs) (.tup ys) b
 | ll {n xs ys b} (h:(if xs.length ≠ ys.length then some false else eqL (eqA n) xs ys)=some b):EqI (n + 1) (.fl xs) (.fl ys) b
inductive LtI:Nat->AV->AV->Bool->Prop
 | ii {n} (a b:Int):LtI n (.int a) (.int b) (decide (a < b))
 | ss {n} (a b:Str):LtI n (.str a) (.str b) (decide (a.cps.toList < b.cps.toList))
 | tt {n xs ys b} (h:ltL (eqA n) (ltA n) xs ys=some b):LtI (n + 1) (.tup xs) (.tup ys) b
 | ll {n xs ys b} (h:ltL (eqA n) (ltA n) xs ys=some b):LtI (n + 1) (.fl xs) (.fl ys) b
theorem Vf {n u v b}(h:eqS u v=some b):EqI n u v b:=by
 cases u with
 | none =>
  cases v with
  | none=>exact Option.some.inj h ▸ .nn
  | int i=>exact Option.some.inj h ▸ .ni i
  | _=>exact nqa h
 | int a =>
  cases v with
  | none=>exact Option.some.inj h ▸ .iN a
  | int i=>exact Option.some.inj h ▸ .ii a i
  | _=>exact nqa h
 | bool a =>
  cases v with
  | bool i=>exact Option.some.inj h ▸ .bb a i
  | _=>exact nqa h
 | str a =>
  cases v with
  | str i=>exact Option.some.inj h ▸ .ss a i
  | _=>exact nqa h
 | _=>exact nqa h
theorem Vh {n u v b}(h:eqA n u v=some b):EqI n u v b:=by
 cases n with
 | zero=>exact Vf h
 | succ n =>
  cases u with
  | tup xs =>
   cases v with
   | tup ys=>exact .tt h
   | _=>exact nqa h
  | fl xs =>
   cases v with
   | fl ys=>exact .ll h
   | _=>exact nqa h
  | _=>exact Vf h
theorem Ur {n u v b}(h:ltS u v=some b):LtI n u v b:=by
 cases u with
 | int a =>
  cases v with
  | int i=>exact Option.some.inj h ▸ .ii a i
  | _=>exact nqa h
 | str a =>
  cases v with
  | str i=>exact Option.some.inj h ▸ .ss a i
  | _=>exact nqa h
 | _=>exact nqa h
theorem Us {n u v b}(h:ltA n u v=some b):LtI n u v b:=by
 cases n with
 | zero=>exact Ur h
 | succ n =>
  cases u with
  | tup xs =>
   cases v with
   | tup ys=>exact .tt h
   | _=>exact nqa h
  | fl xs =>
   cases v with
   | fl ys=>exact .ll h
   | _=>exact nqa h
  | _=>exact Ur h
noncomputable def Av (H:AH):AV->Option (List AV)
 | .fl vs=>some vs
 | .ref a=>match H a with
  | some (.f (.lst _ vs))=>some vs
  | _=>none
 | .row a i=>match H a with
  | some (.f (.mat _ M))=>M[i]?
  | _=>none
 | _=>none
theorem Fh {H:AH}{a:Addr}:Av H (.ref a)=match H a with | some (.f (.lst _ vs))=>some vs | _=>none:=rfl
theorem Hp {H:AH}{a:Addr}{i:Nat}:Av H (.row a i)=match H a with | some (.f (.mat _ M))=>M[i]? | _=>none:=rfl
noncomputable def eqV (H:AH) (u v:AV):Option Bool:=match Av H u,Av H v with
 | some xs,some ys=>if xs.length ≠ ys.length then some false else eqL (eqA 6) xs ys
 | _,_=>eqA 7 u v
noncomputable def ltV (H:AH) (u v:AV):Option Bool:=match Av H u,Av H v with
 | some xs,some ys=>ltL (eqA 6) (ltA 6) xs ys
 | _,_=>ltA 7 u v
theorem Am {h:Heap}{a n}{items:List Value}(e:h.get? a=some (Bu items n)):h.IsList a items.toArray:=⟨_,e,rfl,n,rfl⟩
theorem Bw {h:Heap}{a n}{items:List Value}(e:h.get? a=some (Ho items n)):h.IsTuple a items.toArray:=⟨_,e,rfl,n,rfl⟩
theorem Mn {h:Heap}{a n}{items:List Value}(e:h.get? a=some (Ho items n)):IsTup h a items.toArray:=⟨_,e,rfl,n,rfl⟩
section
variable {A:Around} {s:Shared} {O:Addr->Prop} {G:Gh}
theorem Vg {e}:∀ {xs ys:List AV} {b},eqL e xs ys=some b->xs.length=ys.length
 | [],[],_,_=>rfl
 | [],_ :: _,_,h=>nqa h
 | _ :: _,[],_,h=>nqa h
 | x :: xs,y :: ys,b,h=>by
  refine Mp h ?_;clear h;intro c d h1 h2 h
  simp[Vg h2]
theorem Nf {e:AV->AV->Option Bool}(he:∀ u v x b,VRel s.heap O G u x->VRel s.heap O G v x->e u v=some b->b=true) :
  ∀ {xs ys:List AV} {vs:List Value} {b},VRels s.heap O G xs vs->VRels s.heap O G ys vs->eqL e xs ys=some b->b=true
 | [],[],_,_,_,_,h=>(Option.some.inj h).symm
 | [],_ :: _,_,_,_,_,h=>nqa h
 | _ :: _,[],_,_,_,_,h=>nqa h
 | x :: xs,y :: ys,_,b,r1,r2,h=>by
  simp only [vSc]at r1 r2
  obtain⟨v,r,rfl,a1,a2⟩:=r1
  obtain⟨v',r',e',b1,b2⟩:=r2
  cases e'
  refine Mp h ?_;clear h;intro c d h1 h2 h
  obtain rfl:=Option.some.inj h
  rw[he _ _ _ _ a1 b1 h1,Nf he a2 b2 h2];rfl
theorem Zp {i i':List Value}{n n':Nat}(h:some (Bu i n)=some (Bu i' n')):i=i':=by
 have h:=Option.some.inj h;unfold Bu at h;injection h with _ _ h _;injection h with h _;simpa using h
theorem Yb {i i':List Value}{n n':Nat}(h:some (Ho i n)=some (Ho i' n')):i=i':=by
 have h:=Option.some.inj h;unfold Ho at h;injection h with _ _ h _;injection h with h _;simpa using h
theorem bD (n:Nat):∀ (u v:AV) (x:Value) (b:Bool),VRel s.heap O G u x->VRel s.heap O G v x->eqA n u v=some b->b=true:=by
 induction n using Nat.strongRecOn with
 | _ n ih =>
  intro u v x b hu hv h
  cases Vh h with
  | nn=>rfl
  | ni i=>obtain⟨t,e⟩:=hv;exact Value.noConfusion (e.symm.trans hu)
  | iN i=>obtain⟨t,e⟩:=hu;exact Value.noConfusion (e.symm.trans hv)
  | bb a b=>have e:Value.bool a = .bool b:=Eq.trans (Eq.symm hu) hv;injection e with e;exact beq_iff_eq.mpr e
  | ii a b=>obtain⟨t,e1⟩:=hu;obtain⟨t',e2⟩:=hv;have e:=e1.symm.trans e2;injection e with e;exact beq_iff_eq.mpr e
  | ss a b=>obtain⟨t,e1⟩:=hu;obtain⟨t',e2⟩:=hv;have e:=e1.symm.trans e2;injection e with e;exact beq_iff_eq.mpr e
  | tt h =>
   refine Ag fun PP ret=>?_
   obtain⟨a,n1,items,e1,hg,_,_,hr⟩:=hu
   obtain⟨a',n2,items',e2,hg',_,_,hr'⟩:=hv
   refine ret ?_
   have e:=e1.symm.trans e2;injection e with e
   exact Nf (ih _ (Nat.lt_succ_self _)) hr ((Yb (hg.symm.trans (e ▸ hg'))) ▸ hr') h
  | ll h =>
   refine Ag fun PP ret=>?_
   obtain⟨a,n1,items,e1,hg,_,_,hr⟩:=hu
   obtain⟨a',n2,items',e2,hg',_,_,hr'⟩:=hv
   refine ret ?_
   have e:=e1.symm.trans e2;injection e with e
   have hi:=Zp (hg.symm.trans (e ▸ hg'))
   rw[if_neg (by rw[<- hr.length,<- hr'.length,hi];exact fun q=>q rfl)]at h
   exact Nf (ih _ (Nat.lt_succ_self _)) hr (hi ▸ hr') h
theorem Ka {e:AV->AV->Option Bool}(he:∀ u v x y b,VRel s.heap O G u x->VRel s.heap O G v y->e u v=some b->EqAt A s x y b) :
  ∀ {xs ys:List AV} {vs ws:List Value} {b},VRels s.heap O G xs vs->VRels s.heap O G ys ws->eqL e xs ys=some b ->
   ∃ q:Nat->Bool,(∀ j (h1:j < vs.length) (h2:j < ws.length),EqAt A s vs[j] ws[j] (q j))/\(List.range vs.length).all q=b
 | [],[],_,_,_,r1,r2,h=>by
  simp only [vSn]at r1 r2;clear he;subst r1 r2
  exact⟨fun z0=>true,fun j h1=>absurd h1 (by simp),Option.some.inj h⟩
 | [],_ :: _,_,_,_,_,_,h=>nqa h
 | _ :: _,[],_,_,_,_,_,h=>nqa h
 | x :: xs,y :: ys,_,_,b,r1,r2,h=>by
  simp only [vSc]at r1 r2
  obtain⟨v,r,rfl,a1,a2⟩:=r1
  obtain⟨v',r',rfl,b1,b2⟩:=r2
  refine Mp h ?_;clear h;intro c d h1 h2 h
  obtain rfl:=Option.some.inj h
  obtain⟨q,hq,hb⟩:=Ka he a2 b2 h2
  refine⟨fun j=>match j with | 0=>c | j + 1=>q j,fun j k1 k2=>?_,?_⟩
  ·cases j with
   | zero=>exact he _ _ _ _ _ a1 b1 h1
   | succ j=>exact hq j (by simpa using k1) (by simpa using k2)
  ·rw[List.length_cons,List.range_succ_eq_map,List.all_cons,List.all_map,<- hb];rfl
theorem Qg {n:Nat}{xs ys:List AV}{vs ws:List Value}{a a':Addr}{n1 n2:Nat}{b:Bool}(hu:A.units < cLine)
  (he:∀ u v x y b,VRel s.heap O G u x->VRel s.heap O G v y->eqA n u v=some b->EqAt A.in1 s x y b)
  (h1:s.heap.get? a=some (Bu vs n1)) (h2:s.heap.get? a' = some (Bu ws n2)) (r1:VRels s.heap O G xs vs) (r2:VRels s.heap O G ys ws)
  (h:(if xs.length ≠ ys.length then some false else eqL (eqA n) xs ys)=some b):RcAt A s (.ref a) (.ref a') b/\RcNeAt A s (.ref a) (.ref a') (!b):=by
 by_cases hl:xs.length=ys.length
 ·rw[if_neg (by simpa using hl)]at h
  obtain⟨q,hq,rfl⟩:=Ka he r1 r2 h
  have hz:vs.toArray.size=ws.toArray.size:=by simp[r1.length,r2.length,hl]
  have q1:=RcAt.lists (e:=q) (Am h1) (Am h2) hz hu (fun j k1 k2=>by simpa using hq j (by simpa using k1) (by simpa using k2))
  have q2:=RcNeAt.lists (e:=q) (Am h1) (Am h2) hz hu (fun j k1 k2=>by simpa using hq j (by simpa using k1) (by simpa using k2))
  simp only [List.size_toArray]at q1 q2
  exact⟨q1,q2⟩
 ·rw[if_pos (by simpa using hl)]at h
  clear he;obtain rfl:=Option.some.inj h
  have hz:(vs.toArray.size != ws.toArray.size)=true:=by simp[r1.length,r2.length,hl]
  exact⟨RcAt.lists_lengths (Am h1) (Am h2) hz hu,RcNeAt.lists_lengths (Am h1) (Am h2) hz hu⟩
theorem Wo {n:Nat}{xs ys:List AV}{vs ws:List Value}{a a':Addr}{n1 n2:Nat}{b:Bool}(hu:A.units < cLine)
  (he:∀ u v x y b,VRel s.heap O G u x->VRel s.heap O G v y->eqA n u v=some b->EqAt A.in1 s x y b)
  (h1:s.heap.get? a=some (Ho vs n1)) (h2:s.heap.get? a' = some (Ho ws n2)) (r1:VRels s.heap O G xs vs) (r2:VRels s.heap O G ys ws)
  (h:eqL (eqA n) xs ys=some b):RcAt A s (.ref a) (.ref a') b/\RcNeAt A s (.ref a) (.ref a') (!b):=by
 obtain⟨q,hq,rfl⟩:=Ka he r1 r2 h
 have hz:vs.length=ws.length:=by simp[r1.length,r2.length,Vg h]
 have q1:=RcAt.tuples (e:=q) (Bw h1) (Bw h2) hu (fun j k1 k2=>by simpa using hq j (by simpa using k1) (by simpa using k2))
 have q2:=RcNeAt.tuples (e:=q) (Bw h1) (Bw h2) hu (fun j k1 k2=>by simpa using hq j (by simpa using k1) (by simpa using k2))
 simp only [List.size_toArray,hz,Nat.min_self,beq_self_eq_true,Bool.and_true]at q1 q2
 rw[hz]
 exact⟨q1,q2⟩
noncomputable def E3 (A:Around) (s:Shared) (x y:Value) (b:Bool):Prop:=EqAt A s x y b/\RcAt A s x y b/\RcNeAt A s x y (!b)
theorem E3.refs {A:Around}{a a':Addr}{b:Bool}(q:RcAt A s (.ref a) (.ref a') b/\RcNeAt A s (.ref a) (.ref a') (!b))(hs:a=a'->b=true):E3 A s (.ref a) (.ref a') b:=by
 refine⟨?_,q⟩
 by_cases e:a=a'
 ·rw[hs e,e];exact EqAt.same _
 ·exact EqAt.of_refs e q.1
theorem eqA_at' (n:Nat):∀ {A:Around} (u v:AV) (x y:Value) (b:Bool),A.units + n + 1<=cLine->VRel s.heap O G u x->VRel s.heap O G v y->eqA n u v=some b->E3 A s x y b:=by
 induction n using Nat.strongRecOn with
 | _ n ih =>
  intro A u v x y b hA hu hv h
  have hsame:=fun e:x=y=>bD n u v x b hu (e ▸ hv) h
  have hu':A.units < cLine:=by exact Ar.r54 hA
  have he:∀ m,m + 1=n->∀ u v x y b,VRel s.heap O G u x->VRel s.heap O G v y->eqA m u v=some b->EqAt A.in1 s x y b :=
   fun m hm u v x y b h1 h2 h3=>(ih m (by exact Ar.r12 hm) (A:=A.in1) u v x y b (by simp only [Around.in1_units];exact Ar.r53 hA hm) h1 h2 h3).1
  clear hA ih;cases Vh h with
  | nn=>cases hu;cases hv;exact⟨EqAt.same _,RcAt.none_none,RcNeAt.none_none⟩
  | ni i=>cases hu;obtain⟨t,rfl⟩:=hv;exact⟨EqAt.none_int _ _,RcAt.none_int _ _,RcNeAt.none_int _ _⟩
  | iN i=>cases hv;obtain⟨t,rfl⟩:=hu;exact⟨EqAt.int_none _ _,RcAt.int_none _ _,RcNeAt.int_none _ _⟩
  | bb a b=>cases hu;cases hv;exact⟨EqAt.bool_bool _ _,RcAt.bool_bool _ _,RcNeAt.bool_bool _ _⟩
  | ii a b=>obtain⟨t,rfl⟩:=hu;obtain⟨t',rfl⟩:=hv;exact⟨EqAt.int_int _ _ _ _,RcAt.int_int _ _ _ _,RcNeAt.int_int _ _ _ _⟩
  | ss a b=>obtain⟨t,rfl⟩:=hu;obtain⟨t',rfl⟩:=hv;exact⟨EqAt.str_str _ _ _ _,RcAt.str_str _ _ _ _,RcNeAt.str_str _ _ _ _⟩
  | tt h =>
   refine Ag fun PP ret=>?_
   obtain⟨a,n1,items,rfl,hg,_,_,hr⟩:=hu
   obtain⟨a',n2,items',rfl,hg',_,_,hr'⟩:=hv
   refine ret ?_
   exact .refs (Wo hu' (he _ rfl) hg hg' hr hr' h) fun e=>hsame (e ▸ rfl)
  | ll h =>
   refine Ag fun PP ret=>?_
   obtain⟨a,n1,items,rfl,hg,_,_,hr⟩:=hu
   obtain⟨a',n2,items',rfl,hg',_,_,hr'⟩:=hv
   refine ret ?_
   exact .refs (Qg hu' (he _ rfl) hg hg' hr hr' h) fun e=>hsame (e ▸ rfl)
theorem Kb (n:Nat){A:Around}(u v:AV)(x y:Value)(b:Bool)(hA:A.units + n + 1<=cLine)(hu:VRel s.heap O G u x)(hv:VRel s.heap O G v y)(h:eqA n u v=some b) :
  EqAt A s x y b/\RcAt A s x y b/\RcNeAt A s x y (!b):=eqA_at' n u v x y b hA hu hv h
theorem Lp {e l:AV->AV->Option Bool}(he:∀ u v x y b,VRel s.heap O G u x->VRel s.heap O G v y->e u v=some b->EqAt A s x y b)
  (hl:∀ u v x y b,VRel s.heap O G u x->VRel s.heap O G v y->l u v=some b->LtAt A s x y b) :
  ∀ {xs ys:List AV} {vs ws:List Value} {b},VRels s.heap O G xs vs->VRels s.heap O G ys ws->ltL e l xs ys=some b->Gs A s (decide (vs.length < ws.length)) (vs.zip ws) b
 | [],[],_,_,_,r1,r2,h=>by
  simp only [vSn]at r1 r2;subst r1 r2;obtain rfl:=Option.some.inj h;exact rfl
 | [],y :: ys,_,_,_,r1,r2,h=>by
  simp only [vSn,vSc]at r1 r2;obtain⟨v,r,rfl,_,_⟩:=r2;subst r1;obtain rfl:=Option.some.inj h;exact rfl
 | x :: xs,[],_,_,_,r1,r2,h=>by
  simp only [vSn,vSc]at r1 r2;obtain⟨v,r,rfl,_,_⟩:=r1;subst r2;obtain rfl:=Option.some.inj h;exact rfl
 | x :: xs,y :: ys,_,_,b,r1,r2,h=>by
  simp only [vSc]at r1 r2
  obtain⟨v,r,rfl,a1,a2⟩:=r1
  obtain⟨v',r',rfl,b1,b2⟩:=r2
  replace h:(match e x y with | some true=>ltL e l xs ys | some false=>l x y | none=>none)=some b:=h
  simp only [List.zip_cons_cons,Ru,Rv,List.length_cons,Nat.succ_lt_succ_iff]
  generalize h1:e x y=w at h
  cases w with
  | none=>exact nqa h
  | some w=>cases w with
   | true=>refine⟨true,he _ _ _ _ _ a1 b1 h1,?_⟩;simp only [if_true];exact Lp he hl a2 b2 h
   | false=>refine⟨false,he _ _ _ _ _ a1 b1 h1,?_⟩;simp only [Bool.false_eq_true,if_false];exact hl _ _ _ _ _ a1 b1 h
theorem Kr {a b:Int}{t u:Tok}:LtAt A s (.int a t) (.int b u) (decide (a < b)):=fun prog w E Q h=>P.lt_int h
theorem Ko {a b:Str}{t u:Tok}:LtAt A s (.str a t) (.str b u) (decide (a.cps.toList < b.cps.toList)):=fun prog w E Q h=>PyProof.Rows.lt_str h
theorem Ss (n:Nat):∀ {A:Around} (u v:AV) (x y:Value) (b:Bool),A.units + n + 1<=cLine->VRel s.heap O G u x->VRel s.heap O G v y->ltA n u v=some b->LtAt A s x y b:=by
 induction n with
 | zero =>
  intro A u v x y b _ hu hv h
  cases Us h with
  | ii a b=>obtain⟨t,rfl⟩:=hu;obtain⟨t',rfl⟩:=hv;exact Kr
  | ss a b=>obtain⟨t,rfl⟩:=hu;obtain⟨t',rfl⟩:=hv;exact Ko
 | succ n ih =>
  intro A u v x y b hA hu hv h
  have hu':A.units < cLine:=by exact Ar.r48 hA
  have he:∀ u v x y b,VRel s.heap O G u x->VRel s.heap O G v y->eqA n u v=some b->EqAt A.in1 s x y b :=
   fun u v x y b h1 h2 h3=>(Kb n (A:=A.in1) u v x y b (by simp only [Around.in1_units];exact Ar.r47 hA) h1 h2 h3).1
  have hl:∀ u v x y b,VRel s.heap O G u x->VRel s.heap O G v y->ltA n u v=some b->LtAt A.in1 s x y b :=
   fun u v x y b h1 h2 h3=>ih (A:=A.in1) u v x y b (by simp only [Around.in1_units];exact Ar.r47 hA) h1 h2 h3
  clear hA ih;cases Us h with
  | ii a b=>obtain⟨t,rfl⟩:=hu;obtain⟨t',rfl⟩:=hv;exact Kr
  | ss a b=>obtain⟨t,rfl⟩:=hu;obtain⟨t',rfl⟩:=hv;exact Ko
  | tt h =>
   refine Ag fun PP ret=>?_
   obtain⟨a,n1,items,rfl,hg,_,_,hr⟩:=hu
   obtain⟨a',n2,items',rfl,hg',_,_,hr'⟩:=hv
   refine ret ?_
   exact LtAt.tuples (Bw hg) (Bw hg') hu' (by simpa using Lp he hl hr hr' h)
  | ll h =>
   refine Ag fun PP ret=>?_
   obtain⟨a,n1,items,rfl,hg,_,_,hr⟩:=hu
   obtain⟨a',n2,items',rfl,hg',_,_,hr'⟩:=hv
   refine ret ?_
   exact LtAt.lists (Am hg) (Am hg') hu' (by simpa using Lp he hl hr hr' h)
end
section
variable {C:Cx} {k:Nat} {H:AH} {G:Gh} {O:Addr->Prop} {h:Heap}
theorem Ib {a:Addr}{lk:Bool}{vs:List AV}(h:H a=some (.f (.lst lk vs))):Av H (.ref a)=some vs:=by
 refine(?_:(match H a with | some (.f (.lst _ vs))=>some vs | _=>none)=some vs)
 rw[h]
theorem Ud {a:Addr}{i:Nat}{lk:Bool}{M:List (List AV)}(h:H a=some (.f (.mat lk M))):Av H (.row a i)=M[i]?:=by
 refine(?_:(match H a with | some (.f (.mat _ M))=>M[i]? | _=>none)=M[i]?)
 rw[h]
theorem Ao (R:Rel C H G O h){v:AV}{x:Value}{vs:List AV}(hv:VRel h O G v x)(e:Av H v=some vs) :
  ∃ a n items,x = .ref a/\h.get? a=some (Bu items n)/\VRels h O G vs items/\vs.length<=lim:=by
 cases v with
 | fl ws=>obtain rfl:=Option.some.inj e;simp only [vRf]at hv;obtain⟨a,n,items,rfl,hg,_,hz,hr⟩:=hv;exact⟨a,n,items,rfl,hg,hr,hz⟩
 | ref a =>
  refine aF e ?_;clear e;intro lk ws hH e
  obtain rfl:=Option.some.inj e
  refine Ag fun PP ret=>?_
  simp only [vRr]at hv;subst hv
  obtain⟨_,_,hz,n,items,hg,hr⟩:=R.obj a _ hH
  refine ret ?_
  exact⟨a,n,items,rfl,hg,hr,hz⟩
 | row a i =>
  refine kL e ?_;clear e;intro z1 M hH e
  refine Ag fun PP ret=>?_
  simp only [vRw]at hv
  obtain⟨b,hb,rfl⟩:=hv
  obtain⟨_,_,_,hr⟩:=R.obj a _ hH
  obtain⟨_,hz,n,items,hg,hr⟩:=hr i vs b e hb
  refine ret ?_
  exact⟨b,n,items,rfl,hg,hr,hz⟩
 | _=>exact nqa e
theorem AOk.units {A:Around}(hA:AOk k A):A.units + 100<=cLine:=by obtain⟨_,_,h⟩:=hA;unfold cLine;exact Ar.r66 h
theorem bC {A:Around}{s:Shared}(hA:AOk k A)(R:Rel C H G O s.heap){u v:AV}{x y:Value}{b:Bool}(hu:VRel s.heap O G u x)(hv:VRel s.heap O G v y)(e:eqV H u v=some b) :
  RcAt A s x y b/\RcNeAt A s x y (!b):=by
 have hU:=hA.units
 unfold eqV at e
 generalize h1:Av H u=w at e
 cases w with
 | none=>exact(Kb 7 u v x y b (by exact Ar.r62 hU) hu hv e).2
 | some xs =>
  generalize h2:Av H v=w at e
  cases w with
  | none=>exact(Kb 7 u v x y b (by exact Ar.r62 hU) hu hv e).2
  | some ys =>
   refine Ag fun PP ret=>?_
   clear hA;obtain⟨a,n,items,rfl,hg,hr,_⟩:=Ao R hu h1
   obtain⟨a',n',items',rfl,hg',hr',_⟩:=Ao R hv h2
   refine ret ?_
   exact Qg (by exact Ar.r63 hU) (fun u v x y b q1 q2 q3=>(Kb 6 (A:=A.in1) u v x y b (by simp only [Around.in1_units];exact Ar.r61 hU) q1 q2 q3).1) hg hg' hr hr' e
theorem iT {A:Around}{s:Shared}(hA:AOk k A)(R:Rel C H G O s.heap){u v:AV}{x y:Value}{b:Bool}(hu:VRel s.heap O G u x)(hv:VRel s.heap O G v y)(e:ltV H u v=some b) :
  LtAt A s x y b:=by
 have hU:=hA.units
 unfold ltV at e
 generalize h1:Av H u=w at e
 cases w with
 | none=>exact Ss 7 u v x y b (by exact Ar.r62 hU) hu hv e
 | some xs =>
  generalize h2:Av H v=w at e
  cases w with
  | none=>exact Ss 7 u v x y b (by exact Ar.r62 hU) hu hv e
  | some ys =>
   refine Ag fun PP ret=>?_
   obtain⟨a,n,items,rfl,hg,hr,_⟩:=Ao R hu h1
   obtain⟨a',n',items',rfl,hg',hr',_⟩:=Ao R hv h2
   have hx:=Lp (A:=A.in1) (fun u v x y b q1 q2 q3=>(Kb 6 (A:=A.in1) u v x y b (by simp only [Around.in1_units];exact Ar.r61 hU) q1 q2 q3).1) (fun u v x y b q1 q2 q3=>Ss 6 (A:=A.in1) u v x y b (by simp only [Around.in1_units];exact Ar.r61 hU) q1 q2 q3) hr hr' e
   refine ret ?_
   exact LtAt.lists (Am hg) (Am hg') (by exact Ar.r63 hU) (by simpa using hx)
theorem CmpR.eq:CmpR C k .Eq eqV:=by
 intro A s H G O u v r x y hA R hu hv e
 obtain⟨b,hb,rfl⟩:=Option.map_eq_some_iff.mp e
 exact(bC hA R hu hv hb).1 _ _ _ _ ⟨by simp[vRb],.refl' s⟩
theorem CmpR.ne:CmpR C k .NotEq (fun H u v=>(eqV H u v).map (!·)):=by
 intro A s H G O u v r x y hA R hu hv e
 obtain⟨b,hb,rfl⟩:=Option.map_eq_some_iff.mp e
 clear e;obtain⟨c,hc,rfl⟩:=Option.map_eq_some_iff.mp hb
 exact(bC hA R hu hv hc).2 _ _ _ _ ⟨by simp[vRb],.refl' s⟩
theorem CmpR.lt:CmpR C k .Lt ltV:=by
 intro A s H G O u v r x y hA R hu hv e
 obtain⟨b,hb,rfl⟩:=Option.map_eq_some_iff.mp e
 exact(iT hA R hu hv hb) _ _ _ _ ⟨by simp[vRb],.refl' s⟩
end
end Mine
end
section
open SeqAt
namespace Mine
section
variable {C:Cx} {k:Nat} {sc:Sc} {f f':PF}
noncomputable def iop (g:Int->Int->Option Int):AH->AV->AV->Option AV:=fun z0 u v=>match u,v with
 | .int a,.int b=>(g a b).map .int
 | _,_=>none
theorem Zx {g:Int->Int->Option Int}{H:AH}{u v r:AV}(h:iop g H u v=some r):∃ a b c,u = .int a/\v = .int b/\g a b=some c/\r = .int c:=by
 unfold iop at h
 refine Uw h ?_;clear h;intro z1 z2 q1 q2 h;subst q1;subst q2
 obtain⟨c,hc,rfl⟩:=Option.map_eq_some_iff.mp h;exact⟨_,_,c,rfl,rfl,hc,rfl⟩
theorem BinR.ofInt {t:Value->Value->Sem Value}{g:Int->Int->Option Int}
  (h:∀ (A:Around) (s:Shared) (a b c:Int) (p q:Tok) (Q:Value->Shared->Prop),g a b=some c->(∀ tk n,Q (.int c tk) { s with toks:=n })->wpAny (model C.prog C.w) A (t (.int a p) (.int b q)) Q (fun z0 z0=>False) s):BinR C k t (iop g):=by
 intro A s H G O u v r x y hA R hu hv e
 obtain⟨a,b,c,rfl,rfl,hc,rfl⟩:=Zx e
 simp only [vRi]at hu hv
 obtain⟨p,rfl⟩:=hu
 obtain⟨q,rfl⟩:=hv
 exact h A s a b c p q _ hc fun tk n=>⟨by simp[vRi],.tok⟩
noncomputable def Es (a b:Int):Option Int:=some (a + b)
noncomputable def subI (a b:Int):Option Int:=some (a - b)
noncomputable def Hk (a b:Int):Option Int:=if 0 < b/\b < 1073741824 then some (a / b) else none
noncomputable def Bt (a b:Int):Option Int:=if 0 < b then some (a % b) else if b < 0 then some (a.fmod b) else none
noncomputable def Np (a b:Int):Option Int:=if 0<=b/\b<=1000000/\a.natAbs < 2 ^ 64 then some (a ^ b.toNat) else none
theorem BinR.add:BinR C k (binaryOp .Add) (iop Es):=.ofInt fun A s a b c p q Q h hQ=>by obtain rfl:=Option.some.inj h;exact P.add_int (hQ _ _)
theorem BinR.iadd:BinR C k (inplaceOp .Add) (iop Es):=.ofInt fun A s a b c p q Q h hQ=>by obtain rfl:=Option.some.inj h;exact P.iadd_int (hQ _ _)
theorem BinR.sub:BinR C k (binaryOp .Sub) (iop subI):=.ofInt fun A s a b c p q Q h hQ=>by obtain rfl:=Option.some.inj h;exact P.sub_int (hQ _ _)
theorem BinR.isub:BinR C k (inplaceOp .Sub) (iop subI):=.ofInt fun A s a b c p q Q h hQ=>by obtain rfl:=Option.some.inj h;exact P.isub_int (hQ _ _)
theorem BinR.fdiv:BinR C k (binaryOp .FloorDiv) (iop Hk):=.ofInt fun A s a b c p q Q h hQ=>by
 unfold Hk at h;refine Bj h ?_;clear h;intro h' h
 obtain rfl:=Option.some.inj h
 have e:a / b=a.fdiv b:=by rw[Int.fdiv_eq_ediv_of_nonneg _ (by exact Ar.r223 h')]
 refine PyProof.Rows.floordiv_int (by exact Ar.r224 h') ?_ (.inl (PyProof.noPylong_small (by omega)))
 rw[<- e];exact hQ _ _
theorem BinR.mod:BinR C k (binaryOp .Mod) (iop Bt):=.ofInt fun A s a b c p q Q h hQ=>by
 unfold Bt at h;set_option tactic.hygienic true in split at h
 ·rename_i h';obtain rfl:=Option.some.inj h
  have e:a % b=a.fmod b:=by rw [Int.fmod_eq_emod_of_nonneg _ (by exact Ar.r225 h')]
  refine PyProof.Rows.mod_int' (by exact Ar.r226 h') ?_
  rw[<- e];exact hQ _ _
 ·refine Bj h ?_;clear h;intro q1 h
  obtain rfl:=Option.some.inj h;exact PyProof.Rows.mod_int' (by exact Ar.r231 (by assumption)) (hQ _ _)
theorem BinR.pow:BinR C k (binaryOp .Pow) (iop Np):=.ofInt fun A s a b c p q Q h hQ=>by
 unfold Np at h;refine Bj h ?_;clear h;intro h' h
 obtain rfl:=Option.some.inj h;exact PyProof.Rows.pow_int_small h'.1 h'.2.1 h'.2.2 (hQ _ _)
noncomputable def dO (g:Int->Int->Bool):AH->AV->AV->Option Bool:=fun z0 u v=>match u,v with
 | .int a,.int b=>some (g a b)
 | _,_=>none
theorem CmpR.ofInt {op:CmpOp}{g:Int->Int->Bool}
  (h:∀ (A:Around) (s:Shared) (a b:Int) (p q:Tok) (Q:Value->Shared->Prop),Q (.bool (g a b)) s->wpAny (model C.prog C.w) A (compareOp op (.int a p) (.int b q)) Q (fun z0 z0=>False) s):CmpR C k op (dO g):=by
 intro A s H G O u v r x y hA R hu hv e
 obtain⟨b,hb,rfl⟩:=Option.map_eq_some_iff.mp e
 unfold dO at hb
 refine Uw hb ?_;clear hb;intro z1 z2 q1 q2 hb;subst q1;subst q2
 obtain rfl:=Option.some.inj hb
 simp only [vRi]at hu hv
 obtain⟨p,rfl⟩:=hu
 obtain⟨q,rfl⟩:=hv
 exact h A s _ _ p q _ ⟨by simp[vRb],.refl' s⟩
theorem CmpR.gtI:CmpR C k .Gt (dO fun a b=>decide (b < a)):=.ofInt fun A s a b p q Q h=>P.gt_int h
noncomputable def isN:AV->Option Bool
 | .none=>some true
 | .undef=>none
 | .row _ _=>none
 | _=>some false
theorem Zw {h O G v x b}(hv:VRel h O G v x)(e:isN v=some b):(x == .none)=b:=by
 set_option tactic.hygienic true in cases v <;> first | exact nqa e | skip
 all_goals (simp only [vRn,vRb,vRi,vRs,vRr,vRk,vRt,vRp,vRf]at hv;obtain rfl:=Option.some.inj e)
 ·subst hv;rfl
 ·subst hv;rfl
 ·obtain⟨t,rfl⟩:=hv;rfl
 ·obtain⟨t,rfl⟩:=hv;rfl
 ·obtain⟨a,n,i,rfl,_⟩:=hv;rfl
 ·obtain⟨a,n,i,rfl,_⟩:=hv;rfl
 ·subst hv;rfl
 ·subst hv;rfl
 ·subst hv;rfl
theorem CmpR.is:CmpR C k .Is (fun z0 u v=>match v with | .none=>isN u | _=>.none):=by
 intro A s H G O u v r x y hA R hu hv e
 obtain⟨b,hb,rfl⟩:=Option.map_eq_some_iff.mp e
 set_option tactic.hygienic true in cases v <;> simp only at hb <;> first | (exact nqa hb;done) | skip
 simp only [vRn]at hv;subst hv
 refine is_none ?_
 rw[Zw hu hb]
 exact⟨by simp[vRb],.refl' s⟩
theorem CmpR.isNot:CmpR C k .IsNot (fun z0 u v=>match v with | .none=>(isN u).map (!·) | _=>.none):=by
 intro A s H G O u v r x y hA R hu hv e
 obtain⟨b,hb,rfl⟩:=Option.map_eq_some_iff.mp e
 set_option tactic.hygienic true in cases v <;> simp only at hb <;> first | (exact nqa hb;done) | skip
 obtain⟨c,hc,rfl⟩:=Option.map_eq_some_iff.mp hb
 simp only [vRn]at hv;subst hv
 refine isNot_none ?_
 rw[Zw hu hc]
 exact⟨by simp[vRb],.refl' s⟩
theorem PureE.neg {x:Expr}{pos:Pos}(h:PureE C k sc x f):PureE C k sc (.UnaryOp .USub x pos) (fun ρ H=>match f ρ H with | some (.int a)=>some (.int (-a)) | _=>Option.none):=by
 intro A env s ρ H G O v hA F R hv
 dsimp only at hv
 refine aC hv ?_;clear hv;intro a ha hv
 obtain rfl:=Option.some.inj hv
 refine wpAny_UnaryOp (wpAny_mono (h A env s ρ H G O _ hA F R ha) (fun x s1 h1=>?_) fun z0 z0 x=>x)
 obtain⟨r,k1⟩:=h1
 simp only [vRi]at r
 obtain⟨t,rfl⟩:=r
 exact P.neg_int ⟨by simp[vRi],k1.trans' .tok⟩
theorem Xx {A:Around}{s:Shared}{H:AH}{G:Gh}{O:Addr->Prop}{v:AV}{x:Value}{b:Bool}{Q:Bool->Shared->Prop}(hA:AOk k A)(R:Rel C H G O s.heap)(hv:VRel s.heap O G v x)(e:Xz H v=some b)
  (hQ:∀ tk,Q b { s with toks:=tk }):wpAny (model C.prog C.w) A (truthy x) Q (fun z0 z0=>False) s:=by
 have lst:∀ (vs:List AV) (a:Addr) (n:Nat) (items:List Value),s.heap.get? a=some (Bu items n)->VRels s.heap O G vs items->vs.length<=lim->b=(!vs.isEmpty)->wpAny (model C.prog C.w) A (truthy (.ref a)) Q (fun z0 z0=>False) s:=by
  intro vs a n items hg hr hz hb
  have hl:=hr.length
  refine wpAny_truthy_list (Am hg) (by rw[List.size_toArray,hl];rw[An]at hz;lia) ?_
  have h3:(!items.toArray.isEmpty)=b:=by
   rw[hb]
   clear R e hA hQ hb hg hr hv hz;cases vs with
   | nil=>have:items=[]:=List.eq_nil_of_length_eq_zero (by simpa using hl);subst this;rfl
   | cons v vs=>cases items with
    | nil=>simp at hl
    | cons _ _=>rfl
  rw[h3];exact hQ _
 set_option tactic.hygienic true in cases v <;> first | exact nqa e | skip
 ·simp only [vRn]at hv;subst hv;obtain rfl:=Option.some.inj e;exact wpAny_pure (hQ s.toks)
 ·simp only [vRb]at hv;subst hv;obtain rfl:=Option.some.inj e;exact wpAny_truthy_bool (hQ s.toks)
 ·simp only [vRi]at hv;obtain⟨t,rfl⟩:=hv;obtain rfl:=Option.some.inj e;exact P.truthy_int (hQ s.toks)
 ·simp only [vRf]at hv;obtain⟨a,n,items,rfl,hg,_,hz,hr⟩:=hv;obtain rfl:=Option.some.inj e;exact lst _ a n items hg hr hz rfl
 ·rename_i a
  refine aF e ?_;clear e;intro lk vs hH e
  clear hA hQ;obtain rfl:=Option.some.inj e
  simp only [vRr]at hv;subst hv
  obtain⟨_,_,hz,n,items,hg,hr⟩:=R.obj a _ hH
  exact lst vs a n items hg hr hz rfl
end
end Mine
end
section
open SeqAt
namespace Mine
theorem Ej {k:Int}{n j:Nat}(h:seqIndex? k n=some j):-(n:Int)<=k/\k < n/\j < n:=by
 unfold seqIndex? at h
 by_cases hk:k < 0
 ·simp only [hk,if_true]at h
  by_cases h1:(decide (0<=k + (n:Int)) && decide (k + (n:Int) < n))=true
  ·rw[if_pos h1]at h
   simp only [Bool.and_eq_true,decide_eq_true_eq]at h1
   have:=Option.some.inj h
   omega
  ·rw[if_neg h1]at h;exact nqa h
 ·simp only [hk,if_false]at h
  by_cases h1:(decide (0<=k) && decide (k < (n:Int)))=true
  ·rw[if_pos h1]at h
   simp only [Bool.and_eq_true,decide_eq_true_eq]at h1
   have:=Option.some.inj h
   omega
  ·rw[if_neg h1]at h;exact nqa h
theorem Lc {k:Int}{n j:Nat}(h:seqIndex? k n=some j)(h0:0<=k):j=k.toNat:=by
 unfold seqIndex? at h
 have hk:¬ k < 0:=by exact Ar.r229 h0
 simp only [hk,if_false]at h
 by_cases h1:(decide (0<=k) && decide (k < (n:Int)))=true
 ·rw[if_pos h1]at h;exact(Option.some.inj h).symm
 ·rw[if_neg h1]at h;exact nqa h
noncomputable def Gm (vs:List AV) (k:Int):Option AV:=(seqIndex? k vs.length).bind (vs[·]?)
noncomputable def idx (H:AH) (v i:AV):Option AV:=match i with
 | .int k=>match v with
  | .tup vs=>Gm vs k
  | .fl vs=>Gm vs k
  | .row a j=>(Av H (.row a j)).bind fun vs=>Gm vs k
  | .ref a=>match H a with
   | some (.f (.lst _ vs))=>Gm vs k
   | some (.f (.mat _ M))=>(seqIndex? k M.length).map (AV.row a)
   | some (.f (.dic _ es))=>es.lookup k
   | _=>none
  | _=>none
 | _=>none
theorem Qs {H:AH}{a:Addr}{k:Int}:idx H (.ref a) (.int k)=match H a with | some (.f (.lst _ vs))=>Gm vs k | some (.f (.mat _ M))=>(seqIndex? k M.length).map (AV.row a) | some (.f (.dic _ es))=>es.lookup k | _=>none:=rfl
section
variable {C:Cx} {k:Nat} {sc:Sc} {f f':PF}
theorem Iy {A:Around}{s:Shared}{a:Addr}{n:Nat}{items:List Value}{i:Int}{t:Tok}{j:Nat}{x:Value}{Q:Value->Shared->Prop}{E:Value->Shared->Prop}(hg:s.heap.get? a=some (Bu items n))
  (hz:items.length<=lim) (hi:seqIndex? i items.length=some j) (hx:items[j]? = some x) (h:Q x s):wpAny (model C.prog C.w) A (getItem (.ref a) (.int i t)) Q E s:=by
 obtain⟨h1,h2,h3⟩:=Ej hi
 have hz':=hz
 rw[An]at hz'
 by_cases h0:0<=i
 ·have e:j=i.toNat:=Lc hi h0
  exact wpAny_getItem_list (Am hg) h0 (by lia) (by simpa [<- e]using hx) h
 ·have e:=seqIndex_neg (k:=i) (n:=items.length) (by exact Ar.r233 h0) h1
  rw[hi]at e
  have e:=Option.some.inj e
  exact wpAny_getItem_list_neg (Am hg) (by exact Ar.r233 h0) (by simpa using h1) (by lia) (by simpa [<- e]using hx) h
theorem Uv {h:Heap}{O G}{vs:List AV}{items:List Value}{i:Int}{v:AV}(hr:VRels h O G vs items)(e:Gm vs i=some v):∃ j x,seqIndex? i items.length=some j/\items[j]? = some x/\VRel h O G v x:=by
 unfold Gm at e
 refine Ag fun PP ret=>?_
 obtain⟨j,hj,hv⟩:=Option.bind_eq_some_iff.mp e
 obtain⟨x,hx,hr'⟩:=hr.get hv
 refine ret ?_
 exact⟨j,x,by rw[hr.length];exact hj,hx,hr'⟩
theorem Hs {es:List (Int × AV)}{xs:List Value}{h O G}(hr:VRels h O G (es.map (·.2)) xs){k:Int}{v:AV}(e:es.lookup k=some v) :
  ∃ x,valueAt ((es.map (·.1)).zip xs) k=some x/\VRel h O G v x:=by
 induction es generalizing xs with
 | nil=>simp at e
 | cons p r ih =>
  obtain⟨k',v'⟩:=p
  simp only [List.map_cons,vSc]at hr
  obtain⟨x,q,rfl,h1,h2⟩:=hr
  rw[List.lookup_cons]at e
  simp only [List.map_cons,List.zip_cons_cons,valueAt,List.find?_cons]
  by_cases hk:k=k'
  ·subst hk;simp at e;subst e;exact⟨x,by simp,h1⟩
  ·have:(k == k')=false:=by simpa using hk
   rw[this]at e
   obtain⟨y,hy,hr⟩:=ih h2 e
   refine⟨y,?_,hr⟩
   rw[decide_eq_false (by exact fun h=>hk h.symm)]
   exact hy
theorem Sz {A:Around}{s:Shared}{H:AH}{G:Gh}{O:Addr->Prop}{v i r:AV}{x y:Value}{Q:Value->Shared->Prop}(R:Rel C H G O s.heap)(hv:VRel s.heap O G v x)(hi:VRel s.heap O G i y)(e:idx H v i=some r)
  (hQ:∀ z tk,VRel s.heap O G r z->Q z { s with toks:=tk }):(∃ T id,s.TypeIs x T/\typeLookup (.type T) "__getitem__" = pure (some (.builtin id)))/\wpAny (model C.prog C.w) A (getItem x y) Q (fun z0 z0=>False) s:=by
 set_option tactic.hygienic true in cases i <;> first | exact nqa e | skip
 rename_i i
 simp only [vRi]at hi
 obtain⟨t,rfl⟩:=hi
 have lst:∀ (vs:List AV) (a:Addr) (n:Nat) (items:List Value),s.heap.get? a=some (Bu items n)->VRels s.heap O G vs items->vs.length<=lim->Gm vs i=some r->x = .ref a ->
   (∃ T id,s.TypeIs x T/\typeLookup (.type T) "__getitem__" = pure (some (.builtin id)))/\wpAny (model C.prog C.w) A (getItem x (.int i t)) Q (fun z0 z0=>False) s:=by
  intro vs a n items hg hr hz he hx
  clear R e hv;subst hx
  obtain⟨j,z,h1,h2,h3⟩:=Uv hr he
  exact⟨⟨"list",_,⟨_,hg,rfl⟩,slot_list_getitem.lookup⟩,Iy hg (by rw[hr.length];exact hz) h1 h2 (hQ z s.toks h3)⟩
 set_option tactic.hygienic true in cases v <;> first | exact nqa e | skip
 ·rename_i vs
  refine Ag fun PP ret=>?_
  simp only [vRp]at hv
  clear R lst;obtain⟨a,n,items,rfl,hg,_,hz,hr⟩:=hv
  obtain⟨j,z,h1,h2,h3⟩:=Uv hr e
  have hb:=Ej h1
  have hl:=hr.length
  rw[An]at hz
  refine ret ?_
  exact⟨⟨"tuple",_,⟨_,hg,rfl⟩,F.slot_tuple_getitem.lookup⟩,getItem_tuple (Mn hg) (by lia) (by lia) (by simpa using h1) (by simpa using h2) (hQ z s.toks h3)⟩
 ·rename_i vs
  refine Ag fun PP ret=>?_
  simp only [vRf]at hv
  clear R hQ;obtain⟨a,n,items,rfl,hg,_,hz,hr⟩:=hv
  refine ret ?_
  exact lst vs a n items hg hr hz e rfl
 ·rename_i a
  simp only [vRr]at hv
  subst hv
  replace e:(match H a with | some (.f (.lst _ vs))=>Gm vs i | some (.f (.mat _ M))=>(seqIndex? i M.length).map (AV.row a) | some (.f (.dic _ es))=>es.lookup i | _=>none)=some r:=e
  generalize hH:H a=o at e
  cases o with
  | none=>exact nqa e
  | some o=>cases o with
   | srt=>exact nqa e
   | f o=>cases o with
    | lst lk vs =>
     obtain⟨_,_,hz,n,items,hg,hr⟩:=R.obj a _ hH
     exact lst vs a n items hg hr hz e rfl
    | mat lk M =>
     refine Ag fun PP ret=>?_
     clear lst;obtain⟨j,hj,rfl⟩:=Option.map_eq_some_iff.mp e
     obtain⟨⟨n,hg⟩,hl,hz,_⟩:=R.obj a _ hH
     have hb:=Ej hj
     have hjl:j < (G a).length:=by lia
     refine ret ?_
     refine⟨⟨"list",_,⟨_,hg,rfl⟩,slot_list_getitem.lookup⟩,Iy (j:=j) (x:=.ref ((G a)[j])) hg (by simp;exact Ar.r32 hl hz) (by simpa [hl]using hj) (by simp[hjl]) (hQ _ s.toks ?_)⟩
     simp only [vRw]
     exact⟨_,by simp[hjl],rfl⟩
    | dic lk es =>
     refine Ag fun PP ret=>?_
     obtain⟨_,_,_,xs,hd,hr⟩:=R.obj a _ hH
     obtain⟨z,hz,hr'⟩:=Hs hr e
     refine ret ?_
     exact⟨⟨"dict",_,hd.typeIs,slot_dict_getitem.lookup⟩,wpAny_getItem_of (intKind_is _ _ i t) hd.mapOf hz (hQ z _ hr')⟩
    | _=>exact nqa e
 ·rename_i a j
  refine Ag fun PP ret=>?_
  obtain⟨vs,h1,h2⟩:=Option.bind_eq_some_iff.mp e
  clear e hQ;obtain⟨b,n,items,rfl,hg,hr,hz⟩:=Ao R hv h1
  refine ret ?_
  exact lst vs b n items hg hr hz h2 rfl
theorem PureE.sub {v i:Expr}{pos:Pos}(hv:PureE C k sc v f)(hi:PureE C k sc i f')(hs:∀ o x,subscripted i false o x=operate [o,x] (getItem o x):=by intro _ _;rfl):PureE C k sc (.Subscript v i pos) (opP idx f f'):=by
 intro A env s ρ H G O r hA F R hr
 refine Ag fun PP ret=>?_
 obtain⟨u,w,hu,hw,he⟩:=Me hr
 refine ret ?_
 refine Subscript_ (PureE.two hv hi hA F R hu hw fun x y s' rx ry ks=>?_)
 refine Ag fun PP ret=>?_
 obtain⟨⟨T,id,hT,hl⟩,hg⟩:=Sz (A:=A) (Q:=fun z s''=>VRel s''.heap O G r z/\Kp s s'') (R.keep ks.k) rx ry he (fun z tk hz=>⟨hz,ks.trans' .tok⟩)
 refine ret ?_
 exact tail_any hT hl hg (hs x y)
noncomputable def inV (H:AH) (u v:AV):Option Bool:=match Av H v with
 | some vs=>(vs.mapM fun x=>eqA 6 x u).map fun l=>l.any id
 | none=>match v,u with
  | .ref a,.int k=>match H a with
   | some (.f (.dic _ es))=>some (es.lookup k).isSome
   | some (.f (.iset ks))=>some (decide (k ∈ ks))
   | _=>none
  | _,_=>none
theorem Ni (l:Addr)(items:Array Value)(n:Nat)(dd:Option Addr)(sl:Array (Option Value))(x:Value)(k:Nat) :
  ∀ (i:Nat) (bs:List Bool),items.size - i=k->bs.length=k->Meets (Builtin.«list.__contains__.loop» ⟨[.ref l,x,rawInt i],[]⟩)
   (fun A R s=>s.heap.get? l=some { cls:=.type "list",dict:=dd,data:=.seq items n,slots:=sl }/\(∀ j b (h:i + j < items.size),bs[j]? = some b->EqAt A.in1 s items[i + j] x b)/\R (.ok (.ret (.bool (bs.any id)))) s):=by
 induction k with
 | zero =>
  intro i bs hk hbs prog w A R s h
  obtain⟨hp,g,d,tk,os⟩:=s;obtain⟨hl,he,h⟩:=h
  wp_walk using AutoSeq1.wpAny_loadPart' hl
  have hi:items[((i:Nat):Int).toNat]? = none:=by simp;exact Ar.r18 hk
  have:bs=[]:=List.eq_nil_of_length_eq_zero hbs
  clear hbs he hk hl;subst this
  rw[hi]
  wp_walk
  exact h
 | succ k ih =>
  intro i bs hk hbs prog w A R s h
  obtain⟨hp,g,d,tk,os⟩:=s;obtain⟨hl,he,h⟩:=h
  wp_walk using AutoSeq1.wpAny_loadPart' hl
  have hlt:i < items.size:=by exact Ar.r16 hk
  have hi:items[((i:Nat):Int).toNat]? = some items[i]:=by simp[hlt]
  cases bs with
  | nil=>simp at hbs
  | cons b bs =>
   rw[List.any_cons]at h
   rw[hi]
   refine wpAny_bind (he 0 b (by simpa using hlt) (by simp) prog w _ _ ?_)
   cases b with
   | true =>
    wp_walk
    exact h
   | false =>
    have hc:((i:Int) + 1)=((i + 1:Nat):Int):=by push_cast;rfl
    wp_walk
    rw[hc]
    exact⟨plainId_quiet MeetsSeq.plain_contains_loop _,codeAny_builtin MeetsSeq.entry_contains_loop (by
     rw[Around.under_plainId MeetsSeq.plain_contains_loop _]
     exact ih (i + 1) bs (by exact Ar.r15 hk) (by simpa using hbs) prog w A R _ ⟨hl,fun j c hj hc=>by
      have:=he (j + 1) c (by exact Ar.r124 hj) (by simpa using hc)
      have e:i + (j + 1)=i + 1 + j:=by exact Ar.r4
      simpa only [e]using this,by simpa using h⟩)⟩
theorem Gl (l:Addr)(items:Array Value)(n:Nat)(dd:Option Addr)(sl:Array (Option Value))(x:Value)(bs:List Bool)(hbs:bs.length=items.size) :
  Meets (Builtin.«list.__contains__» ⟨[.ref l,x],[]⟩)
   (fun A R s=>s.heap.get? l=some { cls:=.type "list",dict:=dd,data:=.seq items n,slots:=sl }/\(∀ j b (h:j < items.size),bs[j]? = some b->EqAt A.in1 s items[j] x b)/\R (.ok (.ret (.bool (bs.any id)))) s):=by
 intro prog w A R s h
 obtain⟨hp,g,d,tk,os⟩:=s;obtain⟨hl,he,h⟩:=h
 wp_walk using AutoSeq1.wpAny_loadPart' hl
 exact⟨plainId_quiet MeetsSeq.plain_contains_loop _,codeAny_builtin MeetsSeq.entry_contains_loop (by
  rw[Around.under_plainId MeetsSeq.plain_contains_loop _]
  exact Ni l items n dd sl x _ 0 bs rfl (by simpa using hbs) prog w A R _ ⟨hl,fun j b hj hb=>by simpa using he j b (by simpa using hj) hb,h⟩)⟩
theorem Oc {α β:Type}{g:α->Option β}:∀ {l:List α} {r:List β},l.mapM g=some r->r.length=l.length/\∀ (j:Nat) (b:β),r[j]? = some b->∃ a,l[j]? = some a/\g a=some b
 | [],r,h=>by simp at h;subst h;simp
 | a :: l,r,h=>by
  rw[List.mapM_cons]at h
  cases hg:g a with
  | none=>simp[hg]at h
  | some b =>
   cases hr:l.mapM g with
   | none=>simp[hg,hr]at h
   | some r' =>
    simp[hg,hr]at h
    subst h
    obtain⟨h1,h2⟩:=Oc hr
    refine⟨by simp[h1],fun j c hj=>?_⟩
    cases j with
    | zero=>simp at hj;subst hj;exact⟨a,by simp,hg⟩
    | succ j=>simpa using h2 j c (by simpa using hj)
theorem iW {A:Around}{s:Shared}{H:AH}{G:Gh}{O:Addr->Prop}{u v:AV}{x y:Value}{b:Bool}{Q:Value->Shared->Prop}(hA:AOk k A)(R:Rel C H G O s.heap)(hu:VRel s.heap O G u y)(hv:VRel s.heap O G v x)(e:inV H u v=some b) :
  ((∀ tk,Q (.bool b) { s with toks:=tk })->wpAny (model C.prog C.w) A (compareOp .In y x) Q (fun z0 z0=>False) s) /\
  ((∀ tk,Q (.bool (!b)) { s with toks:=tk })->wpAny (model C.prog C.w) A (compareOp .NotIn y x) Q (fun z0 z0=>False) s):=by
 have hU:=hA.units
 unfold inV at e
 generalize hs:Av H v=o at e
 cases o with
 | some vs =>
  obtain⟨bs,hbs,rfl⟩:=Option.map_eq_some_iff.mp e
  obtain⟨a,n,items,rfl,hg,hr,hz⟩:=Ao R hv hs
  obtain⟨hl,hj⟩:=Oc hbs
  have heq:∀ j b (h:j < items.toArray.size),bs[j]? = some b->EqAt A.in1 s items.toArray[j] y b:=by
   intro j b h hb
   obtain⟨w,hw,hwb⟩:=hj j b hb
   obtain⟨z,hz,hrz⟩:=hr.get hw
   have:items.toArray[j]=z:=by
    have h':j < items.length:=by simpa using h
    rw[List.getElem?_eq_getElem h']at hz
    simpa using hz
   rw[this]
   exact(Kb 6 (A:=A.in1) w u z y b (by simp only [Around.in1_units];exact Ar.r61 hU) hrz hu hwb).1
  have hlen:bs.length=items.toArray.size:=by simp[hl,hr.length]
  exact⟨fun hQ=>SeqRoads2.in_meets (T:="list") ⟨_,hg,rfl⟩ F.slot_list_contains F.entry_list_contains (F.args_list_contains_2 _ _) (Gl a items.toArray n none #[] y bs hlen) ⟨hg,heq,_,rfl,hQ s.toks⟩,
   fun hQ=>SeqRoads2.notIn_meets (T:="list") ⟨_,hg,rfl⟩ F.slot_list_contains F.entry_list_contains (F.args_list_contains_2 _ _) (Gl a items.toArray n none #[] y bs hlen) ⟨hg,heq,_,rfl,hQ s.toks⟩⟩
 | none =>
  refine Ix e ?_;clear e;rintro a i rfl rfl e
  simp only [vRi,vRr]at hu hv
  obtain⟨t,rfl⟩:=hu
  subst hv
  generalize hH:H a=o at e
  cases o with
  | none=>exact nqa e
  | some o=>cases o with
   | srt=>exact nqa e
   | f o=>cases o with
    | dic lk es =>
     cases e
     obtain⟨_,hsm,hst,xs,hd,hr⟩:=R.obj a _ hH
     have hb:(valueAt ((es.map (·.1)).zip xs) i).isSome=(es.lookup i).isSome:=by
      clear hd hH hsm hst
      induction es generalizing xs with
      | nil=>simp[valueAt]
      | cons p r ih =>
       obtain⟨k',v'⟩:=p
       simp only [List.map_cons,vSc]at hr
       obtain⟨z,q,rfl,h1,h2⟩:=hr
       rw[List.lookup_cons]
       simp only [List.map_cons,List.zip_cons_cons,valueAt,List.find?_cons]
       by_cases hk:i=k'
       ·subst hk;simp
       ·have:(i == k')=false:=by simpa using hk
        rw[this,decide_eq_false (by exact fun h=>hk h.symm)]
        exact ih q h2
     refine⟨fun hQ=>wpAny_in_of (intKind_is _ _ i t) hsm hd.mapOf ?_,fun hQ=>wpAny_notIn_of (intKind_is _ _ i t) hsm hd.mapOf ?_⟩
     ·rw[hb];exact hQ _
     ·rw[hb];exact hQ _
    | iset ks =>
     cases e
     obtain⟨_,hset⟩:=R.obj a _ hH
     exact⟨fun hQ=>wpAny_inSet_of (intKind_is _ _ i t) rfl hset (hQ _),fun hQ=>wpAny_notInSet_of (intKind_is _ _ i t) rfl hset (hQ _)⟩
    | _=>exact nqa e
theorem CmpR.inn:CmpR C k .In inV:=by
 intro A s H G O u v r x y hA R hu hv e
 obtain⟨b,hb,rfl⟩:=Option.map_eq_some_iff.mp e
 exact(iW hA R hu hv hb).1 fun tk=>⟨by simp[vRb],.tok⟩
end
end Mine
end
section
namespace Mine
section
variable {C:Cx} {k:Nat} {sc:Sc} {f f':PF}
noncomputable abbrev LF:=Rho->AH->Option (List AV)
noncomputable def ArgsE (C:Cx) (k:Nat) (sc:Sc) (args:List Expr) (fs:LF):Prop :=
 ∀ (pos:Pos) (A:Around) (env:Env) (s:Shared) (ρ:Rho) (H:AH) (G:Gh) (O:Addr->Prop) (vs:List AV),AOk k A->WF C A sc env ρ G O s.heap->Rel C H G O s.heap->fs ρ H=some vs ->
  wpAny (model C.prog C.w) A (spliced (backTo pos (starEach args env))) (fun xs s'=>VRels s'.heap O G vs xs/\Kp s s') (fun z0 z0=>False) s
noncomputable def Aa (f:PF) (fs:LF):LF:=fun ρ H=>match f ρ H,fs ρ H with
 | some v,some vs=>some (v :: vs)
 | _,_=>none
theorem Tj {fs:LF}{ρ:Rho}{H:AH}{r:List AV}(h:Aa f fs ρ H=some r):∃ v vs,f ρ H=some v/\fs ρ H=some vs/\r=v :: vs:=by
 unfold Aa at h
 refine aA h ?_;clear h;intro z1 z2 q1 q2 h
 obtain rfl:=Option.some.inj h;exact⟨_,_,by assumption,by assumption,rfl⟩
noncomputable def Ak:LF:=fun z0 z0=>some []
theorem ArgsE.nil:ArgsE C k sc [] Ak:=by
 intro pos A env s ρ H G O vs hA F R h;obtain rfl:=Option.some.inj h
 exact wpAny_items_nil ⟨.nil,.refl' s⟩
theorem ArgsE.cons {e:Expr}{rest:List Expr}{fs:LF}(he:PureE C k sc e f)(hr:ArgsE C k sc rest fs)(hs:∀ env,starEach (e :: rest) env=(false,eval e env) :: starEach rest env:=by intro _;rfl):ArgsE C k sc (e :: rest) (Aa f fs):=by
 intro pos A env s ρ H G O vs hA F R h
 refine Ag fun PP ret=>?_
 obtain⟨v,ws,hv,hws,rfl⟩:=Tj h
 refine ret ?_
 refine wpAny_items_cons (wpAny_mono (he A env s ρ H G O v hA F R hv) (fun x s1 h1=>?_) fun z0 z0 x=>x) (hs env)
 obtain⟨r1,k1⟩:=h1
 refine wpAny_mono (hr pos A env s1 ρ H G O ws hA (F.keep k1.k) (R.keep k1.k) hws) (fun xs s2 h2=>?_) fun z0 z0 x=>x
 obtain⟨r2,k2⟩:=h2
 exact⟨.cons (r1.keep k2.k) r2,k1.trans' k2⟩
theorem Bv:lim<=sizeLine:=by rw[An,sizeLine_eq];decide
noncomputable def Ex (fs:LF):PF:=fun ρ H=>match fs ρ H with
 | some vs=>if vs.length<=lim then some (.tup vs) else none
 | none=>none
theorem PureE.tuple {elts:List Expr}{i:Nat}{pos:Pos}{fs:LF}(h:ArgsE C k sc elts fs):PureE C k sc (.Tuple elts i pos) (Ex fs):=by
 intro A env s ρ H G O v hA F R hv
 unfold Ex at hv
 refine Pk hv ?_;clear hv;intro vs hvs hv
 refine Bj hv ?_;clear hv;intro hz hv
 obtain rfl:=Option.some.inj hv
 refine wpAny_Tuple (wpAny_mono (h pos A env s ρ H G O vs hA F R hvs) (fun xs s1 h1=>?_) fun z0 z0 x=>x)
 obtain⟨r,k1⟩:=h1
 have hl:=r.length
 refine⟨by have:=Bv;exact Ar.r95 hz hl this,?_,k1.trans' .push⟩
 simp only [vRp]
 exact⟨_,0,xs,rfl,Heap.get?_push_size _ rfl,(R.keep k1.k).nsize,hz,r.keep fun z0 z0 e=>Heap.get?_push_of_some _ e⟩
noncomputable def Ce (fs:LF):Rho->AH->Option FObj:=fun ρ H=>match fs ρ H with
 | some vs=>if vs.length<=lim/\AV.stos vs=true then some (.lst false vs) else none
 | none=>none
theorem Jx {fs:LF}{ρ:Rho}{H:AH}{o:FObj}(h:Ce fs ρ H=some o):∃ vs,fs ρ H=some vs/\vs.length<=lim/\AV.stos vs=true/\o = .lst false vs:=by
 unfold Ce at h
 set_option tactic.hygienic true in split at h
 ·refine Bj h ?_;clear h;intro h' h
  obtain rfl:=Option.some.inj h;exact⟨_,by assumption,h'.1,h'.2,rfl⟩
 ·exact nqa h
theorem Jw {s s1:Shared}{H:AH}{G:Gh}{O:Addr->Prop}{vs:List AV}{xs:List Value}(R:Rel C H G O s1.heap)(k1:Kp s s1)(hz:vs.length<=lim)(hs:AV.stos vs=true)(r:VRels s1.heap O G vs xs) :
  PostM C s G O (.lst false vs) (.ref s1.heap.objs.size) { s1 with heap:=s1.heap.push { cls:=.type "list",data:=.seq xs.toArray } }:=by
 refine⟨s1.heap.objs.size,[],rfl,⟨rfl,hs,hz,0,xs,Heap.get?_push_size _ rfl,?_⟩,by simp,fun b hb=>?_,k1.trans' .push⟩
 ·refine r.mono (fun b o z0 z0 e z0 hb=>⟨Heap.get?_push_of_some _ e,fun q=>?_⟩) hs
  rcases q with q | q | q
  ·exact hb q
  ·clear R hb hs hz k1 r z0;subst q;exact absurd (Heap.lt_size e) (Nat.lt_irrefl _)
  ·simp at q
 ·simp at hb;clear R hs hz r;subst hb
  refine⟨?_,_,Heap.get?_push_size _ rfl⟩
  cases e:s.heap.get? s1.heap.objs.size with
  | none=>rfl
  | some o=>exact absurd (Heap.lt_size (k1.k _ _ e)) (Nat.lt_irrefl _)
theorem MakeE.list {elts:List Expr}{pos:Pos}{fs:LF}(h:ArgsE C k sc elts fs):MakeE C k sc (.List elts pos) (Ce fs):=by
 intro A env s ρ H G O o hA F R ho
 refine Ag fun PP ret=>?_
 obtain⟨vs,hvs,hz,hs,rfl⟩:=Jx ho
 refine ret ?_
 refine wpAny_List (wpAny_mono (h pos A env s ρ H G O vs hA F R hvs) (fun xs s1 h1=>?_) fun z0 z0 x=>x)
 obtain⟨r,k1⟩:=h1
 have hl:=r.length
 exact⟨by have:=Bv;exact Ar.r95 hz hl this,Jw (R.keep k1.k) k1 hz hs r⟩
noncomputable def Ge (g:Rho->AH->Option FObj):PF:=fun ρ H=>match g ρ H with
 | some (.lst _ vs)=>some (.fl vs)
 | _=>none
theorem MakeE.frz {e:Expr}{g:Rho->AH->Option FObj}(h:MakeE C k sc e g):PureE C k sc e (Ge g):=by
 intro A env s ρ H G O v hA F R hv
 unfold Ge at hv
 refine kI hv ?_;clear hv;intro lk vs hg hv
 obtain rfl:=Option.some.inj hv
 refine wpAny_mono (h A env s ρ H G O _ hA F R hg) (fun x s1 h1=>?_) fun z0 z0 x=>x
 refine Ag fun PP ret=>?_
 clear F h hA hg hv;obtain⟨a,gl,rfl,⟨rfl,hs,hz,n,items,hl,hr⟩,_,hf,k1⟩:=h1
 refine ret ?_
 refine⟨?_,k1⟩
 simp only [vRf]
 refine⟨a,n,items,rfl,hl,fun q=>?_,hz,hr.mono (fun b o z0 z0 e z0 hb=>⟨e,fun q=>hb (.inl q)⟩) hs⟩
 obtain⟨o,e⟩:=R.live a q
 rw[(hf a (.inl rfl)).1]at e;exact nqa e
noncomputable def Jo (f:PF):LF:=fun ρ H=>match f ρ H with
 | some v=>Av H v
 | none=>none
noncomputable def Rj (fs fs':LF):LF:=fun ρ H=>match fs ρ H,fs' ρ H with
 | some xs,some ys=>some (xs++ys)
 | _,_=>none
theorem Op {fs fs':LF}{ρ:Rho}{H:AH}{r:List AV}(h:Rj fs fs' ρ H=some r):∃ xs ys,fs ρ H=some xs/\fs' ρ H=some ys/\r=xs++ys:=by
 unfold Rj at h
 refine aB h ?_;clear h;intro z1 z2 q1 q2 h
 obtain rfl:=Option.some.inj h;exact⟨_,_,by assumption,by assumption,rfl⟩
theorem Jn {ρ:Rho}{H:AH}{r:List AV}(h:Jo f ρ H=some r):∃ v,f ρ H=some v/\Av H v=some r:=by
 unfold Jo at h
 refine Fo h ?_;clear h;intro z1 q1 h
 exact⟨_,by assumption,h⟩
theorem MakeE.cat {l r:Expr}{pos:Pos}(hl:PureE C k sc l f)(hr:PureE C k sc r f'):MakeE C k sc (.BinOp l .Add r pos) (Ce (Rj (Jo f) (Jo f'))):=by
 intro A env s ρ H G O o hA F R ho
 refine Ag fun PP ret=>?_
 obtain⟨vs,hvs,hz,hs,rfl⟩:=Jx ho
 clear ho;obtain⟨xs,ys,hxs,hys,rfl⟩:=Op hvs
 obtain⟨u,hu,hxs⟩:=Jn hxs
 obtain⟨v,hv,hys⟩:=Jn hys
 refine ret ?_
 refine wpAny_BinOp (PureE.two hl hr hA F R hu hv fun x y s' rx ry ks=>?_)
 refine Ag fun PP ret=>?_
 have R':=R.keep ks.k
 obtain⟨a,n,items,rfl,hg,r1,z1⟩:=Ao R' rx hxs
 obtain⟨b,n',items',rfl,hg',r2,z2⟩:=Ao R' ry hys
 have e1:=r1.length
 have e2:=r2.length
 have hlim:=Bv
 simp only [List.length_append]at hz
 refine ret ?_
 refine P.add_list hg hg' ?_ (by simp only [List.size_toArray];exact Ar.r30 e1 e2 hlim hz)
 have:=Jw (xs:=items++items') R' ks (by simpa using hz) hs (r1.append r2)
 simp only [List.append_toArray]
 exact this
noncomputable def Sm (fs:LF) (f':PF):LF:=fun ρ H=>match fs ρ H,f' ρ H with
 | some xs,some (.int n)=>if 0<=n/\xs.length * n.toNat<=lim/\n < 2 ^ 63 then some (List.replicate n.toNat xs).flatten else none
 | _,_=>none
theorem Hj {α:Type}(xs:Array α):∀ (n:Nat) (acc:Array α),(List.replicate n xs).foldl (fun a b=>a++b) acc=acc++(List.replicate n xs.toList).flatten.toArray
 | 0,acc=>by simp
 | n + 1,acc=>by
  simp only [List.replicate_succ,List.foldl_cons,List.flatten_cons]
  rw[Hj xs n]
  apply Array.ext'
  simp[List.append_assoc]
theorem VRels.rep {h O G}{vs:List AV}{xs:List Value}(r:VRels h O G vs xs):∀ n:Nat,VRels h O G (List.replicate n vs).flatten (List.replicate n xs).flatten
 | 0=>by simp[vSn]
 | n + 1=>by simp only [List.replicate_succ,List.flatten_cons];exact r.append (VRels.rep r n)
theorem MakeE.mul {l r:Expr}{pos:Pos}(hl:PureE C k sc l f)(hr:PureE C k sc r f'):MakeE C k sc (.BinOp l .Mult r pos) (Ce (Sm (Jo f) f')):=by
 intro A env s ρ H G O o hA F R ho
 obtain⟨vs,hvs,hz,hs,rfl⟩:=Jx ho
 unfold Sm at hvs
 refine kH hvs ?_;clear hvs;intro xs i hxs hi hvs
 refine Bj hvs ?_;clear hvs;intro hc hvs
 clear ho;obtain rfl:=Option.some.inj hvs
 obtain⟨u,hu,hxs⟩:=Jn hxs
 refine wpAny_BinOp (PureE.two hl hr hA F R hu hi fun x y s' rx ry ks=>?_)
 have R':=R.keep ks.k
 obtain⟨a,n,items,rfl,hg,r1,z1⟩:=Ao R' rx hxs
 simp only [vRi]at ry
 obtain⟨t,rfl⟩:=ry
 have e1:=r1.length
 have hlim:=Bv
 refine wpAny_binaryOp_repeat_ref (T:="list") (U:="int") (by decide) ⟨_,hg,rfl⟩ (fun s'=>typeIs_int s' _ _) noFill_list_mul PySem.F.fills_int_mul PySem.F.slot_int_rmul repeat_list PySem.F.slot_int_index.lookup
  (call_meets PySem.F.slot_int_rmul (typeIs_int _ _ _) PySem.F.entry_int_rmul (PySem.F.args_int_rmul_2 _ _) (int___rmul___int_list _ _ _ _ _) ⟨hg,rfl,⟨_,hg,rfl⟩,?_⟩)
 have hfit:¬(!Builtin.List.listFitsIndex i)=true:=by
  unfold Builtin.List.listFitsIndex;simp;lia
 have h2:¬ items.toArray.size * i.toNat > (2 ^ 63 - 1) / 8:=by
  simp only [List.size_toArray,e1];have:=hc.2.1;rw[An]at this;lia
 have h3:¬ Builtin.List.listTooLong (items.toArray.size * i.toNat)=true:=by
  unfold Builtin.List.listTooLong
  simp only [List.size_toArray,e1,decide_eq_true_eq];have:=hc.2.1;rw[An]at this;rw[sizeLine_eq];exact Ar.r80 this
 refine call_meets PySem.F.slot_list_mul ⟨_,hg,rfl⟩ PySem.F.entry_list_mul (PySem.F.args_list_mul_2 _ _) (AutoListH.list___mul___list_int_3 _ _ _ _ _ hfit h2 h3) ⟨hg,?_⟩
 have:=Jw (xs:=(List.replicate i.toNat items).flatten) R' ks hz hs (r1.rep i.toNat)
 have e:(List.foldl (fun x1 x2=>x1++x2) #[] (List.replicate (if items.toArray.isEmpty=true then 0 else i.toNat) items.toArray))=(List.replicate i.toNat items).flatten.toArray:=by
  rw[Hj]
  cases items with
  | nil=>simp
  | cons v vs=>simp
 rw[e];exact this
end
end Mine
end
section
namespace Mine
structure ItOK (C:Cx) (A:Around) (s s':Shared) (O:Addr->Prop) (G:Gh) (vs:List AV) (I:Addr) (fp wr cs:List Addr) (P:Nat->Value->Prop) (St:Nat->Heap->Prop):Prop where
 W:Walks C.prog C.w A I fp wr vs.length P St
 st:St 0 s'.heap
 new:∀ b ∈ wr,s.heap.get? b=none/\∃ o,s'.heap.get? b=some o
 wl:∀ i h,St i h->∀ b ∈ wr,∃ o vs,h.get? b=some o/\o.data = .fields vs
 cont:∀ b ∈ fp,b ∈ wr\/b ∈ cs
 csl:∀ b ∈ cs,∃ o,s'.heap.get? b=some o
 item:∀ i x,P i x->∃ v,vs[i]? = some v/\VRel s'.heap O G v x
 tup:∀ i (s:Shared) target v (Q:Unit->Shared->Prop) (E:Value->Shared->Prop),St i s.heap->Q () s->wpAny (model C.prog C.w) A (letOwnedTupleGo target (.ref I) v) Q E s
structure Wlk (prog:Program) (w:World) (A:Around) (TG:Expr->Prop) (I:Addr) (fp wr:List Addr) (n:Nat) (P:Nat->Value->Heap->Heap->Prop) (St:Nat->Heap->Prop):Prop where
 sub:∀ b ∈ wr,b ∈ fp
 frame:∀ i h h',St i h->(∀ b ∈ fp,∀ o,h.get? b=some o->h'.get? b=some o)->St i h'
 step:∀ i (s:Shared) (target:Expr) (Q':Option Value->Shared->Prop) (E:Value->Shared->Prop),TG target->i < n->St i s.heap ->
  (∀ v s1,(∀ (Q:Unit->Shared->Prop) (E':Value->Shared->Prop),(∀ h' tk,P i v s.heap h'->St (i + 1) h'->(∀ b o,b ∉ wr->s.heap.get? b=some o->h'.get? b=some o)->Q () { s with heap:=h',toks:=tk })->wpAny (model prog w) A (letOwnedTupleGo target (.ref I) v) Q E' s1)->Q' (some v) s1)->wpAny (model prog w) A (pyNext (.ref I)) Q' E s
 done:∀ (s:Shared) (Q:Option Value->Shared->Prop) (E:Value->Shared->Prop),St n s.heap ->
  (∀ h' tk,(∀ b o,b ∉ wr->s.heap.get? b=some o->h'.get? b=some o)->Q none { s with heap:=h',toks:=tk })->wpAny (model prog w) A (pyNext (.ref I)) Q E s
 self:∀ i (s:Shared) (Q:Value->Shared->Prop) (E:Value->Shared->Prop),St i s.heap->Q (.ref I) s->wpAny (model prog w) A (pyIter (.ref I)) Q E s
inductive ItemR (hB:Heap) (O:Addr->Prop) (G:Gh) (h h':Heap) (u:AV) (v:Value):Prop
 | old (r:VRel hB O G u v)
 | pair (T:Addr) (n:Nat) (x y:Value) (a b:AV) (e:v = .ref T) (eu:u = .tup [a,b]) (hT:h.get? T=none) (hT':h'.get? T=some (Ho [x,y] n)) (ra:VRel hB O G a x) (rb:VRel hB O G b y)
structure ItQ (C:Cx) (A:Around) (TG:Expr->Prop) (s s':Shared) (O:Addr->Prop) (G:Gh) (vs:List AV) (I:Addr) (fp wr cs:List Addr) (P:Nat->Value->Heap->Heap->Prop) (St:Nat->Heap->Prop):Prop where
 W:Wlk C.prog C.w A TG I fp wr vs.length P St
 st:St 0 s'.heap
 new:∀ b ∈ wr,s.heap.get? b=none/\∃ o,s'.heap.get? b=some o
 wl:∀ i h,St i h->∀ b ∈ wr,∃ o vs,h.get? b=some o/\o.data = .fields vs
 cont:∀ b ∈ fp,b ∈ wr\/b ∈ cs
 csl:∀ b ∈ cs,∃ o,s'.heap.get? b=some o
 item:∀ i x h h',P i x h h'->∃ v,vs[i]? = some v/\ItemR s'.heap O G h h' v x
theorem ItOK.toQ {C:Cx}{A:Around}{TG:Expr->Prop}{s s':Shared}{O:Addr->Prop}{G:Gh}{vs:List AV}{I:Addr}{fp wr cs:List Addr}{P:Nat->Value->Prop}{St:Nat->Heap->Prop}(ok:ItOK C A s s' O G vs I fp wr cs P St) :
  ItQ C A TG s s' O G vs I fp wr cs (fun i v z0 z0=>P i v) St :=
 ⟨⟨ok.W.sub,ok.W.frame,fun i s target Q' E z0 hi st h=>ok.W.item i s Q' E hi st fun v h' tk hP st' hk=>h v _ fun Q E' hq=>ok.tup (i + 1) _ target v Q E' st' (hq h' tk hP st' hk),ok.W.done,ok.W.self⟩,ok.st,ok.new,ok.wl,ok.cont,ok.csl,fun i x z0 z0 hP=>(ok.item i x hP).imp fun u h=>⟨h.1,.old h.2⟩⟩
theorem ItQ.wns {C:Cx}{A:Around}{TG:Expr->Prop}{s s':Shared}{O:Addr->Prop}{G:Gh}{vs:List AV}{I:Addr}{fp wr cs:List Addr}{P:Nat->Value->Heap->Heap->Prop}{St:Nat->Heap->Prop}(ok:ItQ C A TG s s' O G vs I fp wr cs P St) :
  ∀ i h,St i h->∀ b ∈ wr,∀ o,h.get? b=some o->∀ xs n,o.data ≠ .seq xs n:=fun i h st b hb o e=>by
 obtain⟨o',vs,e',hd⟩:=ok.wl i h st b hb
 rw[e']at e;cases e;intro xs n q;rw[hd]at q;cases q
noncomputable def Kg (h:Heap) (H:AH) (G:Gh) (O:Addr->Prop) (b:Addr):Prop:=(¬ O b/\∃ o xs n,h.get? b=some o/\o.data = .seq xs n)\/∃ a o,H a=some (.f o)/\o.lk=true/\(b=a\/b ∈ G a)
inductive PostI (C:Cx) (A:Around) (TG:Expr->Prop) (s:Shared) (O:Addr->Prop) (G:Gh) (vs:List AV) (Cond:Heap->Addr->Prop) (it:Value) (s2:Shared):Prop
 | mk (k:Kp s s2) (hz:vs.length<=lim) (I:Addr) (fp wr cs:List Addr) (P:Nat->Value->Heap->Heap->Prop) (St:Nat->Heap->Prop) (e:it = .ref I) (ok:ItQ C A TG s s2 O G vs I fp wr cs P St) (hcs:∀ b ∈ cs,Cond s2.heap b)
noncomputable def IterE (C:Cx) (k:Nat) (sc:Sc) (e:Expr) (fs:LF) (TG:Expr->Prop:=fun z0=>True):Prop :=
 ∀ (A:Around) (env:Env) (s:Shared) (ρ:Rho) (H:AH) (G:Gh) (O:Addr->Prop) (vs:List AV),AOk k A->WF C A sc env ρ G O s.heap->Rel C H G O s.heap->fs ρ H=some vs ->
  wpAny (model C.prog C.w) A (eval e env) (fun x s1=>wpAny (model C.prog C.w) A (pyIter x) (PostI C A TG s O G vs fun h b=>∃ v,Kg h H G O b\/(H b ≠ none/\v=AV.ref b)\/∃ a i,H a ≠ none/\(G a)[i]? = some b/\v=AV.row a i) (fun z0 z0=>False) s1) (fun z0 z0=>False) s
noncomputable def IterS (C:Cx) (k:Nat) (sc:Sc) (e:Expr) (fs:LF) (TG:Expr->Prop:=fun z0=>True):Prop :=
 ∀ (A:Around) (env:Env) (s:Shared) (ρ:Rho) (H:AH) (G:Gh) (O:Addr->Prop) (vs:List AV),AOk k A->WF C A sc env ρ G O s.heap->Rel C H G O s.heap->fs ρ H=some vs ->
  wpAny (model C.prog C.w) A (eval e env) (fun x s1=>wpAny (model C.prog C.w) A (pyIter x) (PostI C A TG s O G vs fun h b=>Kg h H G O b) (fun z0 z0=>False) s1) (fun z0 z0=>False) s
theorem Ds {s s1:Shared}(k1:Kp s s1):s.heap.get? s1.heap.objs.size=none:=by
 cases e:s.heap.get? s1.heap.objs.size with
 | none=>rfl
 | some o=>exact absurd (Heap.lt_size (k1.k _ _ e)) (Nat.lt_irrefl _)
noncomputable def tupGoNames:List String:=["enumerate","zip","dict_itemiterator","dict_reverseitemiterator","odict_iterator","itertools.zip_longest","itertools.pairwise"]
noncomputable def aH (c:Value):Bool:=match c with
 | .type n=>!tupGoNames.contains n
 | _=>true
theorem Py {M:Model}{A:Around}{s:Shared}{I:Addr}{o:Obj}{target:Expr}{v:Value}{Q:Unit->Shared->Prop}{E:Value->Shared->Prop}(ho:s.heap.get? I=some o)(hc:aH o.cls=true)(hQ:Q () s):wpAny M A (letOwnedTupleGo target (.ref I) v) Q E s:=by
 obtain⟨cl,d,dt,sl⟩:=o
 have key:wpAny M A (match (Value.ref I,v) with
   | (.ref r,.ref a)=>do
    let o <- load r
    match o.cls,o.data with
    | .type n,.fields vs =>
     if ["enumerate","zip","dict_itemiterator","dict_reverseitemiterator","odict_iterator","itertools.zip_longest","itertools.pairwise"].contains n && vs[0]? == some (rawInt a) then do
      rule "for.unpacks-the-owned-tuple"
      updateField r 0 .none
     else pure ()
    | _,_=>pure ()
   | _=>pure ()) Q E s:=by
  cases v with
  | ref a =>
   refine wpAny_bind (wpAny_load ho ?_)
   dsimp only
   clear ho
   set_option tactic.hygienic true in cases cl <;> first | exact wpAny_pure hQ | skip
   ·rename_i n
    set_option tactic.hygienic true in cases dt <;> first | exact wpAny_pure hQ | skip
    rename_i vs
    dsimp only
    have hn:(["enumerate","zip","dict_itemiterator","dict_reverseitemiterator","odict_iterator","itertools.zip_longest","itertools.pairwise"].contains n)=false:=by
     cases q:tupGoNames.contains n with
     | false=>exact q
     | true=>exact nqd ((congrArg (!·) q).symm.trans hc)
    rw[hn]
    simp only [Bool.false_and,Bool.false_eq_true,if_false]
    exact wpAny_pure hQ
  | _=>exact wpAny_pure hQ
 unfold letOwnedTupleGo
 set_option tactic.hygienic true in cases target <;> first | exact wpAny_pure hQ | exact key
section
variable {C:Cx} {k:Nat} {sc:Sc} {f f':PF}
theorem Eh {A:Around}{s s1:Shared}{O:Addr->Prop}{G:Gh}{vs:List AV}{a:Addr}{n:Nat}{items:List Value}{Q:Value->Shared->Prop}(hh:A.handled=none)(k1:Kp s s1)(hg:s1.heap.get? a=some (Bu items n))(hr:VRels s1.heap O G vs items)
  (hQ:∀ s2 I fp wr P St,(∀ {b o},s1.heap.get? b=some o->s2.heap.get? b=some o)->Kp s s2->ItOK C A s s2 O G vs I fp wr [a] P St->Q (.ref I) s2):wpAny (model C.prog C.w) A (pyIter (.ref a)) Q (fun z0 z0=>False) s1:=by
 have hlt:=Heap.lt_size hg
 refine wpAny_pyIter_list (Am hg) (hQ _ _ [s1.heap.objs.size,a] [s1.heap.objs.size] (fun i v=>items.toArray[i]? = some v) (fun i h=>h.IsListIter s1.heap.objs.size a i/\h.IsList a items.toArray) (fun e=>Heap.get?_push_of_some _ e) (k1.trans' .push) ⟨?_,?_,?_,?_,?_,?_,?_,?_⟩)
 ·have:=Walks.list (prog:=C.prog) (w:=C.w) hh s1.heap.objs.size a (Nat.ne_of_lt hlt) items.toArray
  have e:items.toArray.size=vs.length:=by rw[List.size_toArray,hr.length]
  rw[e]at this
  exact this
 ·exact⟨⟨_,Heap.get?_push_size _ rfl,rfl,rfl⟩,(Am hg).push _⟩
 ·intro b hb;simp at hb;clear hQ hg hh hlt hr;subst hb;exact⟨Ds k1,_,Heap.get?_push_size _ rfl⟩
 ·rintro i h ⟨⟨o',e',_,hd⟩,_⟩ b hb;simp at hb;clear hQ hg hh hlt hr k1 left right;subst hb;exact⟨o',_,e',hd⟩
 ·intro b hb;simp at hb;clear hQ hg hh hlt hr k1;rcases hb with rfl | rfl <;> simp
 ·intro b hb;simp at hb;clear hQ hh hlt hr k1;subst hb;exact⟨_,Heap.get?_push_of_some _ hg⟩
 ·intro i x hx
  have hx':items[i]? = some x:=by simpa using hx
  have hi:i < items.length:=by
   rcases Nat.lt_or_ge i items.length with h | h
   ·exact h
   ·rw[List.getElem?_eq_none h]at hx';exact nqa hx'
  rw[hr.length]at hi
  obtain⟨y,hy,hry⟩:=hr.get (List.getElem?_eq_getElem hi)
  rw[hx']at hy;clear hQ hg hh hlt hr hx hx' k1;obtain rfl:=Option.some.inj hy
  exact⟨_,List.getElem?_eq_getElem hi,hry.keep fun z0 z0 e=>Heap.get?_push_of_some _ e⟩
 ·rintro i s target v Q E ⟨⟨o,ho,hc,hd⟩,_⟩ hQ
  exact Py ho (by rw[hc];decide) hQ
theorem Mk {A:Around}{s s1:Shared}{O:Addr->Prop}{G:Gh}{vs:List AV}{a:Addr}{n:Nat}{items:List Value}{Q:Value->Shared->Prop}(hh:A.handled=none)(k1:Kp s s1)(hg:s1.heap.get? a=some (Ho items n))(hr:VRels s1.heap O G vs items)
  (hQ:∀ s2 I fp wr P St,(∀ {b o},s1.heap.get? b=some o->s2.heap.get? b=some o)->Kp s s2->ItOK C A s s2 O G vs I fp wr [a] P St->Q (.ref I) s2):wpAny (model C.prog C.w) A (pyIter (.ref a)) Q (fun z0 z0=>False) s1:=by
 have hlt:=Heap.lt_size hg
 refine wpAny_pyIter_tuple (Bw hg) (hQ _ _ [s1.heap.objs.size,a] [s1.heap.objs.size] (fun i v=>items.toArray[i]? = some v) (fun i h=>h.IsTupleIter s1.heap.objs.size a i/\h.IsTuple a items.toArray) (fun e=>Heap.get?_push_of_some _ e) (k1.trans' .push) ⟨?_,?_,?_,?_,?_,?_,?_,?_⟩)
 ·have:=Walks.tuple (prog:=C.prog) (w:=C.w) hh s1.heap.objs.size a (Nat.ne_of_lt hlt) items.toArray
  have e:items.toArray.size=vs.length:=by rw[List.size_toArray,hr.length]
  rw[e]at this
  exact this
 ·exact⟨⟨_,Heap.get?_push_size _ rfl,rfl,rfl⟩,⟨_,Heap.get?_push_of_some _ hg,rfl,n,rfl⟩⟩
 ·intro b hb;simp at hb;clear hQ hg hh hlt hr;subst hb;exact⟨Ds k1,_,Heap.get?_push_size _ rfl⟩
 ·rintro i h ⟨⟨o',e',_,hd⟩,_⟩ b hb;simp at hb;clear hQ hg hh hlt hr k1 left right;subst hb;exact⟨o',_,e',hd⟩
 ·intro b hb;simp at hb;clear hQ hg hh hlt hr k1;rcases hb with rfl | rfl <;> simp
 ·intro b hb;simp at hb;clear hQ hh hlt hr k1;subst hb;exact⟨_,Heap.get?_push_of_some _ hg⟩
 ·intro i x hx
  have hx':items[i]? = some x:=by simpa using hx
  have hi:i < items.length:=by
   rcases Nat.lt_or_ge i items.length with h | h
   ·exact h
   ·rw[List.getElem?_eq_none h]at hx';exact nqa hx'
  rw[hr.length]at hi
  obtain⟨y,hy,hry⟩:=hr.get (List.getElem?_eq_getElem hi)
  rw[hx']at hy;clear hQ hg hh hlt hr hx hx' k1;obtain rfl:=Option.some.inj hy
  exact⟨_,List.getElem?_eq_getElem hi,hry.keep fun z0 z0 e=>Heap.get?_push_of_some _ e⟩
 ·rintro i s target v Q E ⟨⟨o,ho,hc,hd⟩,_⟩ hQ
  exact Py ho (by rw[hc];decide) hQ
noncomputable def itV (H:AH):AV->Option (List AV)
 | .tup vs=>some vs
 | v=>Av H v
noncomputable def itP (f:PF):LF:=fun ρ H=>match f ρ H with
 | some v=>itV H v
 | none=>none
theorem Zv {ρ:Rho}{H:AH}{r:List AV}(h:itP f ρ H=some r):∃ v,f ρ H=some v/\itV H v=some r:=by
 unfold itP at h
 refine Fo h ?_;clear h;intro z1 q1 h
 exact⟨_,by assumption,h⟩
noncomputable def Mm (H:AH):AV->Option (List AV)
 | .tup vs=>some vs
 | .fl vs=>some vs
 | .ref a=>match H a with
  | some (.f (.lst true vs))=>some vs
  | _=>none
 | .row a i=>match H a with
  | some (.f (.mat true M))=>M[i]?
  | _=>none
 | _=>none
theorem Zu {H:AH}{a:Addr}:Mm H (.ref a)=match H a with | some (.f (.lst true vs))=>some vs | _=>none:=rfl
theorem eU {H:AH}{a:Addr}{i:Nat}:Mm H (.row a i)=match H a with | some (.f (.mat true M))=>M[i]? | _=>none:=rfl
theorem eV {H:AH}{vs:List AV}:Mm H (.tup vs)=some vs:=rfl
noncomputable def Hf (f:PF):LF:=fun ρ H=>match f ρ H with
 | some v=>Mm H v
 | none=>none
theorem Xb {ρ:Rho}{H:AH}{r:List AV}(h:Hf f ρ H=some r):∃ v,f ρ H=some v/\Mm H v=some r:=by
 unfold Hf at h
 refine Fo h ?_;clear h;intro z1 q1 h
 exact⟨_,by assumption,h⟩
theorem Qq {A:Around}{TG:Expr->Prop}{s s1:Shared}{H:AH}{G:Gh}{O:Addr->Prop}{vs:List AV}{v:AV}{x:Value}(hA:A.handled=Option.none)(k1:Kp s s1)(R':Rel C H G O s1.heap)(rx:VRel s1.heap O G v x)(hi:Mm H v=some vs) :
  wpAny (model C.prog C.w) A (pyIter x) (PostI C A TG s O G vs fun h b=>Kg h H G O b) (fun z0 z0=>False) s1:=by
 cases v with
 | tup ws =>
  obtain rfl:=Option.some.inj hi
  simp only [vRp]at rx
  obtain⟨a,n,items,rfl,hg,hO,hz,hr⟩:=rx
  exact Mk hA k1 hg hr fun s2 I fp wr P St k2' k2 ok=>⟨k2,hz,I,fp,wr,[a],_,St,rfl,ok.toQ,fun b hb=>by simp at hb;subst hb;exact .inl ⟨hO,_,_,_,k2' hg,rfl⟩⟩
 | fl ws =>
  obtain rfl:=Option.some.inj hi
  simp only [vRf]at rx
  obtain⟨a,n,items,rfl,hg,hO,hz,hr⟩:=rx
  exact Eh hA k1 hg hr fun s2 I fp wr P St k2' k2 ok=>⟨k2,hz,I,fp,wr,[a],_,St,rfl,ok.toQ,fun b hb=>by simp at hb;subst hb;exact .inl ⟨hO,_,_,_,k2' hg,rfl⟩⟩
 | ref a =>
  refine kM hi ?_;clear hi;intro ws hH hi
  cases hi
  simp only [vRr]at rx
  subst rx
  obtain⟨_,_,hz,n,items,hg,hr⟩:=R'.obj a _ hH
  exact Eh hA k1 hg hr fun s2 I fp wr P St k2' k2 ok=>⟨k2,hz,I,fp,wr,[a],_,St,rfl,ok.toQ,fun b hb=>by simp at hb;subst hb;exact .inr ⟨_,_,hH,rfl,.inl rfl⟩⟩
 | row a i =>
  refine kK hi ?_;clear hi;intro M hH hi
  obtain⟨a',n,items,e,hg,hr,hz⟩:=Ao R' rx ((Ud hH).trans hi)
  simp only [vRw]at rx
  obtain⟨c,hc,rfl⟩:=rx
  injection e with e
  subst e
  exact Eh hA k1 hg hr fun s2 I fp wr P St k2' k2 ok=>⟨k2,hz,I,fp,wr,_,_,St,rfl,ok.toQ,fun b hb=>by simp at hb;subst hb;exact .inr ⟨_,_,hH,rfl,.inr (List.mem_of_getElem? hc)⟩⟩
 | _=>exact nqa hi
theorem IterS.val {e:Expr}(h:PureE C k sc e f):IterS C k sc e (Hf f):=by
 intro A env s ρ H G O vs hA F R hv
 obtain⟨v,hf,hi⟩:=Xb hv
 exact wpAny_mono (h A env s ρ H G O v hA F R hf) (fun x s1 h1=>Qq hA.1 h1.2 (R.keep h1.2.k) h1.1 hi) fun z0 z0 x=>x
noncomputable def Dl (a b c:Int):List Int:=(List.range (Builtin.Range.rangeSize a b c).toNat).map fun (i:Nat)=>a + (i:Int) * c
noncomputable def Dw (a b c:Int):Bool:=decide (-1000000000 < a) && decide (a < 1000000000) && decide (-1000000000 < b) && decide (b < 1000000000) && decide (-1000000 < c) && decide (c < 1000000) && decide (c ≠ 0) && decide ((Builtin.Range.rangeSize a b c).toNat<=lim)
noncomputable def cQ:List AV->Option (List AV)
 | [.int b]=>if Dw 0 b 1 then some ((Dl 0 b 1).map .int) else none
 | [.int a,.int b]=>if Dw a b 1 then some ((Dl a b 1).map .int) else none
 | [.int a,.int b,.int c]=>if Dw a b c then some ((Dl a b c).map .int) else none
 | _=>none
theorem jX {b:Int}:cQ [.int b]=if Dw 0 b 1 then some ((Dl 0 b 1).map .int) else none:=rfl
theorem jW {a b:Int}:cQ [.int a,.int b]=if Dw a b 1 then some ((Dl a b 1).map .int) else none:=rfl
noncomputable def Pb (fs:LF):LF:=fun ρ H=>match fs ρ H with
 | some vs=>cQ vs
 | none=>none
theorem Ey {a b c:Int}(hc:c ≠ 0):0<=Builtin.Range.rangeSize a b c:=by
 unfold Builtin.Range.rangeSize
 set_option tactic.hygienic true in split
 ·set_option tactic.hygienic true in split
  ·have:0<=(b - a - 1) / c:=Int.ediv_nonneg (by exact Ar.r237 (by assumption)) (by exact Ar.r232 (by assumption))
   exact Ar.r228 this
  ·lia
 ·set_option tactic.hygienic true in split
  ·have:0<=(a - b - 1) / (-c):=Int.ediv_nonneg (by exact Ar.r238 (by assumption)) (by lia)
   exact Ar.r228 this
  ·lia
theorem Wj {a b c:Int}(h:Dw a b c=true):Builtin.Range.small a b c=true:=by
 simp only [Dw,Bool.and_eq_true,decide_eq_true_eq]at h
 have hn:=Ey (a:=a) (b:=b) (c:=c) (by exact Ar.r240 h)
 have hz:=h.2
 rw[An]at hz
 unfold Builtin.Range.small
 simp only [Builtin.Range.rangeFitsLong,Bool.and_eq_true,Bool.or_eq_true,decide_eq_true_eq,beq_iff_eq]
 refine⟨⟨⟨⟨?_,?_⟩,?_⟩,?_⟩,.inr ?_⟩
 all_goals (try (constructor <;> omega))
 set_option tactic.hygienic true in split <;> simp only [Bool.and_eq_true,decide_eq_true_eq] <;> constructor <;> omega
theorem Ml {A:Around}{s s1:Shared}{O:Addr->Prop}{G:Gh}{r:Addr}{a b c:Int}{t u v:Tok}{Q:Value->Shared->Prop}(hh:A.handled=none)(k1:Kp s s1)(hg:IsRange s1.heap r a b c t u v)(hok:Dw a b c=true)
  (hQ:∀ s2 I fp wr P St,Kp s s2->ItOK C A s s2 O G ((Dl a b c).map .int) I fp wr [] P St->Q (.ref I) s2):wpAny (model C.prog C.w) A (pyIter (.ref r)) Q (fun z0 z0=>False) s1:=by
 have hc0:c ≠ 0:=by simp only [Dw,Bool.and_eq_true,decide_eq_true_eq]at hok;exact Ar.r240 hok
 have hn:=Ey (a:=a) (b:=b) (c:=c) hc0
 refine wpAny_pyIter_range hg (Wj hok) (hQ _ _ [s1.heap.objs.size] [s1.heap.objs.size] (fun i x=>i < (Builtin.Range.rangeSize a b c).toNat/\∃ t,x = .int (a + i * c) t) (fun i h=>IsRangeIter h s1.heap.objs.size (a + (i:Nat) * c) (((Builtin.Range.rangeSize a b c).toNat:Int) - (i:Nat)) c) (k1.trans' .push) ⟨?_,?_,?_,?_,?_,?_,?_,?_⟩)
 ·have:=(Walks.range (prog:=C.prog) (w:=C.w) hh s1.heap.objs.size a c (Builtin.Range.rangeSize a b c).toNat).bound
  simpa [Dl]using this
 ·show IsRangeIter _ _ _ _ _
  have e1:a + ((0:Nat):Int) * c=a:=by simp
  have e2:((Builtin.Range.rangeSize a b c).toNat:Int) - ((0:Nat):Int)=Builtin.Range.rangeSize a b c:=by rw[Int.toNat_of_nonneg hn];simp
  rw[e1,e2]
  exact Heap.get?_push_size _ rfl
 ·intro b hb;simp at hb;subst hb;exact⟨Ds k1,_,Heap.get?_push_size _ rfl⟩
 ·intro i h st b hb;simp at hb;subst hb;have st':h.get? _=some _:=st;exact⟨_,_,st',rfl⟩
 ·intro b hb;simp at hb;subst hb;simp
 ·intro b hb;simp at hb
 ·rintro i x ⟨hi,t,rfl⟩
  exact⟨.int (a + i * c),by simp[Dl,hi],by simp[vRi]⟩
 ·rintro i s target v Q E ho hQ
  exact Py (show s.heap.get? _=some _ from ho) (show aH (Value.type "range_iterator")=true by decide) hQ
theorem Nt {A:Around}{s s1:Shared}{O:Addr->Prop}{G:Gh}{vs ws:List AV}{xs:List Value}{Q:Value->Shared->Prop}(hh:A.handled=none)(k1:Kp s s1)(hr:VRels s1.heap O G ws xs)(he:cQ ws=some vs)
  (hQ:∀ s2 I fp wr P St,Kp s s2->vs.length<=lim->ItOK C A s s2 O G vs I fp wr [] P St->Q (.ref I) s2) :
  wpAny (model C.prog C.w) A (call (.type "range") xs) (fun x s2=>wpAny (model C.prog C.w) A (pyIter x) Q (fun z0 z0=>False) s2) (fun z0 z0=>False) s1:=by
 have lz:∀ {a b c:Int},Dw a b c=true->((Dl a b c).map AV.int).length<=lim:=fun h=>by
  simp only [Dw,Bool.and_eq_true,decide_eq_true_eq]at h;simpa [Dl]using h.2
 cases ws with
 | nil=>exact nqa he
 | cons v l =>
  set_option tactic.hygienic true in cases v <;> first | exact nqa he | skip
  rename_i i1
  cases l with
  | nil =>
   refine Bj he ?_;clear he;intro hok he
   obtain rfl:=Option.some.inj he
   simp only [vSn,vSc,vRi]at hr
   clear he;obtain⟨x,r,rfl,⟨t,rfl⟩,rfl⟩:=hr
   exact call_range_1 (Ml hh (k1.trans' .pushT) (IsRange.new ..) hok fun s2 I fp wr P St k2 ok=>hQ s2 I fp wr P St k2 (lz hok) ok)
  | cons v l =>
   set_option tactic.hygienic true in cases v <;> first | exact nqa he | skip
   rename_i i2
   cases l with
   | nil =>
    refine Bj he ?_;clear he;intro hok he
    obtain rfl:=Option.some.inj he
    simp only [vSn,vSc,vRi]at hr
    clear he;obtain⟨x,r,rfl,⟨t,rfl⟩,y,r',rfl,⟨u,rfl⟩,rfl⟩:=hr
    exact call_range_2 (Ml hh (k1.trans' .pushT) (IsRange.new ..) hok fun s2 I fp wr P St k2 ok=>hQ s2 I fp wr P St k2 (lz hok) ok)
   | cons v l =>
    set_option tactic.hygienic true in cases v <;> first | exact nqa he | skip
    rename_i i3
    cases l with
    | cons=>exact nqa he
    | nil =>
     refine Bj he ?_;clear he;intro hok he
     obtain rfl:=Option.some.inj he
     simp only [vSn,vSc,vRi]at hr
     clear he;obtain⟨x,r,rfl,⟨t,rfl⟩,y,r',rfl,⟨u,rfl⟩,z,r'',rfl,⟨w,rfl⟩,rfl⟩:=hr
     have hc:=hok
     simp only [Dw,Bool.and_eq_true,decide_eq_true_eq]at hc
     exact call_range_3 (by exact Ar.r240 hc) (Ml hh (k1.trans' .pushT) (IsRange.new ..) hok fun s2 I fp wr P St k2 ok=>hQ s2 I fp wr P St k2 (lz hok) ok) (.inl (PyProof.noPylong_small (by omega)))
theorem Db {M:Model}{A:Around}{E:Value->Shared->Prop}{s:Shared}{env:Env}{pos:Pos}{f:Value}{e:Expr}{rest:List Expr}{Q:Args->Shared->Prop}(hs:starEach (e :: rest) env=(false,eval e env) :: starEach rest env)
  (h:wpAny M A (spliced (backTo pos (starEach (e :: rest) env))) (fun vs s'=>Q ⟨vs,[]⟩ s') E s):wpAny M A (evalArgs f true (backTo pos (starEach (e :: rest) env)) []) Q E s:=by
 rw[hs]at h ⊢
 exact Calls.evalArgs_plain h
noncomputable def Gr (args:List Expr):Prop:=∀ env,(starEach args env).any (·.1)=false
theorem Cn {args:List Expr}(h:Gr args)(pos:Pos)(env:Env):(backTo pos (starEach args env)).any (·.1)=false:=by
 have:=h env
 unfold backTo
 rw[List.any_map]
 simpa [Function.comp_def]using this
theorem IterS.range {p pos:Pos} {x:Str} {e:Expr} {rest:List Expr} {fs:LF} (hx:x ∈ sc.globs) (hm:C.mg x=some (.type "range")\/(C.mg x=none/\C.mb x=some (.type "range"))) (h:ArgsE C k sc (e :: rest) fs)
  (hs:∀ env,starEach (e :: rest) env=(false,eval e env) :: starEach rest env:=by intro _;rfl) (hns:Gr (e :: rest):=by intro _;rfl) (hd:(x == ("__debug__":Str))=false:=by decide):IterS C k sc (.Call (.Name x p) (e :: rest) [] pos) (Pb fs):=by
 intro A env s ρ H G O vs hA F R hv
 unfold Pb at hv
 refine Pk hv ?_;clear hv;intro ws hws hv
 refine wpAny_Call_NameR (wpAny_Name (Co F R hx hm ?_) hd)
 refine PySem.callWith_type (Cn hns pos env) (Db (hs env) (wpAny_mono (h pos A env s ρ H G O ws hA F R hws) (fun xs s1 h1=>?_) fun z0 z0 x=>x))
 obtain⟨r,k1⟩:=h1
 exact Nt hA.1 k1 r hv fun s2 I fp wr P St k2 hz ok=>⟨k2,hz,I,fp,wr,[],_,St,rfl,ok.toQ,fun b hb=>by simp at hb⟩
end
end Mine
end
section
namespace Mine
structure FS (P:Addr->Prop) (s s':Shared):Prop where
 same:∃ h' tk,s' = { s with heap:=h',toks:=tk }
 k:∀ b o,¬ P b->s.heap.get? b=some o->s'.heap.get? b=some o
 l:∀ b o,s.heap.get? b=some o->∃ o',s'.heap.get? b=some o'
 sz:s'.heap.objs.size=s.heap.objs.size
theorem FS.refl (P:Addr->Prop)(s:Shared):FS P s s:=⟨⟨s.heap,s.toks,rfl⟩,fun z0 z0 z0 e=>e,fun z0 o e=>⟨o,e⟩,rfl⟩
theorem FS.trans {P:Addr->Prop}{s s' s'':Shared}(a:FS P s s')(b:FS P s' s''):FS P s s'':=by
 obtain⟨⟨h1,t1,rfl⟩,k1,l1,z1⟩:=a
 obtain⟨⟨h2,t2,rfl⟩,k2,l2,z2⟩:=b
 exact⟨⟨h2,t2,rfl⟩,fun b o hb e=>k2 b o hb (k1 b o hb e),fun b o e=>let ⟨o',e'⟩:=l1 b o e;l2 b o' e',z2.trans z1⟩
theorem FS.mono {P P':Addr->Prop}{s s':Shared}(a:FS P s s')(h:∀ b,P b->P' b):FS P' s s':=⟨a.same,fun b o hb e=>a.k b o (fun q=>hb (h b q)) e,a.l,a.sz⟩
noncomputable def ta (sc:Sc) (env:Env) (idx:List Nat) (b:Addr):Prop:=b=env.locals\/∃ x i,(x,i) ∈ sc.vars/\i ∈ idx/\env.cells.lookup x=some b
theorem Bp {sc:Sc}{env:Env}{idx:List Nat}{b:Addr}(h:ta sc env idx b):fr env b:=h.imp id fun ⟨x,_,_,_,e⟩=>⟨x,PySem.mem_of_lookup e⟩
theorem Yd {sc:Sc}{env:Env}{idx idx':List Nat}(hi:∀ i ∈ idx,i ∈ idx'){b:Addr}(h:ta sc env idx b):ta sc env idx' b:=h.imp id fun ⟨x,i,h1,h2,e⟩=>⟨x,i,h1,hi i h2,e⟩
section
variable {C:Cx} {sc:Sc} {env:Env} {ρ:Rho} {G:Gh} {O:Addr->Prop} {s:Shared} {M:Model} {A:Around}
theorem VRel.frm {h h':Heap}(hl:∀ o,h.get? env.locals=some o->∀ xs n,o.data ≠ .seq xs n)(hc:∀ x c,(x,c) ∈ env.cells->∀ o,h.get? c=some o->∀ xs n,o.data ≠ .seq xs n)
  (hk:∀ b o,¬ fr env b->h.get? b=some o->h'.get? b=some o):∀ b o xs n,h.get? b=some o->o.data = .seq xs n->h'.get? b=some o:=by
 intro b o xs n e hd
 refine hk b o (fun hf=>?_) e
 rcases hf with rfl | ⟨x,hx⟩
 ·exact hl o e xs n hd
 ·exact hc x b hx o e xs n hd
mutual
theorem VRel.seqs {h h':Heap}(hk:∀ b o xs n,h.get? b=some o->o.data = .seq xs n->h'.get? b=some o):∀ {v:AV} {x:Value},VRel h O G v x->VRel h' O G v x
 | .undef,_,r=>by simp[vRu]at r
 | .none,_,r=>by simpa [vRu,vRn,vRb,vRi,vRs,vRr,vRk,vRt,vRw,vRp,vRf]using r
 | .bool b,_,r=>by simpa [vRu,vRn,vRb,vRi,vRs,vRr,vRk,vRt,vRw,vRp,vRf]using r
 | .int i,_,r=>by simpa [vRu,vRn,vRb,vRi,vRs,vRr,vRk,vRt,vRw,vRp,vRf]using r
 | .str s,_,r=>by simpa [vRu,vRn,vRb,vRi,vRs,vRr,vRk,vRt,vRw,vRp,vRf]using r
 | .ref a,_,r=>by simpa [vRu,vRn,vRb,vRi,vRs,vRr,vRk,vRt,vRw,vRp,vRf]using r
 | .bi a,_,r=>by simpa [vRu,vRn,vRb,vRi,vRs,vRr,vRk,vRt,vRw,vRp,vRf]using r
 | .ty a,_,r=>by simpa [vRu,vRn,vRb,vRi,vRs,vRr,vRk,vRt,vRw,vRp,vRf]using r
 | .row a i,_,r=>by simpa [vRu,vRn,vRb,vRi,vRs,vRr,vRk,vRt,vRw,vRp,vRf]using r
 | .tup vs,x,r=>by
  simp only [vRp]at r ⊢
  refine Ag fun PP ret=>?_
  obtain⟨a,n,items,e,hg,ho,hz,hr⟩:=r
  refine ret ?_
  exact⟨a,n,items,e,hk a _ _ n hg rfl,ho,hz,VRels.seqs hk hr⟩
 | .fl vs,x,r=>by
  simp only [vRf]at r ⊢
  refine Ag fun PP ret=>?_
  obtain⟨a,n,items,e,hg,ho,hz,hr⟩:=r
  refine ret ?_
  exact⟨a,n,items,e,hk a _ _ n hg rfl,ho,hz,VRels.seqs hk hr⟩
theorem VRels.seqs {h h':Heap}(hk:∀ b o xs n,h.get? b=some o->o.data = .seq xs n->h'.get? b=some o):∀ {vs:List AV} {xs:List Value},VRels h O G vs xs->VRels h' O G vs xs
 | [],xs,r=>by simpa [vSn,vSc]using r
 | v :: vs,xs,r=>by
  simp only [vSc]at r ⊢
  refine Ag fun PP ret=>?_
  obtain⟨x,q,e,h1,h2⟩:=r
  refine ret ?_
  exact⟨x,q,e,VRel.seqs hk h1,VRels.seqs hk h2⟩
end
theorem Cy {h:Heap}{a m}(hn:h.Ns a m):∀ o,h.get? a=some o->∀ xs n,o.data ≠ .seq xs n:=by
 obtain⟨o,es,ep,ho,hd,_⟩:=hn
 intro o' e xs n
 rw[ho]at e;cases e;rw[hd];intro x;cases x
theorem Dg {h:Heap}{c ov}(hc:h.IsCell c ov):∀ o,h.get? c=some o->∀ xs n,o.data ≠ .seq xs n:=by
 obtain⟨o,ho,hd⟩:=hc
 intro o' e xs n
 rw[ho]at e;cases e;rw[hd];intro x;cases x
theorem Bo:∀ {cs:List (Str × Addr)} {x:Str} {c:Addr},(x,c) ∈ cs->∃ c',cs.lookup x=some c'
 | (k,v) :: r,x,c,h=>by
  rw[List.lookup_cons]
  cases hb:x == k with
  | true=>exact⟨v,rfl⟩
  | false =>
   rcases List.mem_cons.mp h with e | h
   ·clear h;cases e;simp at hb
   ·exact Bo h
theorem Bz {x:Str}{i:Nat}{v:AV}{y:Value}{Q:Unit->Shared->Prop}{E:Value->Shared->Prop}(F:WF C A sc env ρ G O s.heap)(hx:(x,i) ∈ sc.vars)(hv:VRel s.heap O G v y)
  (hQ:∀ s',WF C A sc env (ρ.set i v) G O s'.heap->FS (ta sc env [i]) s s'->VRel s'.heap O G v y->Q () s'):wpAny M A (storeName env x y) Q E s:=by
 obtain⟨m,hm,hr⟩:=F.ns
 have hcc:=F.cli
 by_cases hl:env.kindOf x=some .local
 ·refine wpAny_storeName_local hl hm (fun h' hn hs=>?_) (by rw[F.kind];rfl)
  have hk:∀ b o,¬ fr env b->s.heap.get? b=some o->h'.get? b=some o:=fun b o hb e=>hs.extBut b o (fun q=>hb (.inl q)) e
  have hk2:∀ b o,b ≠ env.locals->s.heap.get? b=some o->h'.get? b=some o:=fun b o hb e=>hs.extBut b o hb e
  have hsq:=VRel.frm (env:=env) (h:=s.heap) (h':=h') (Cy hm) (fun z c hz=>let ⟨ov,q⟩:=hcc z c hz;Dg q) hk
  have hcc':∀ z c,(z,c) ∈ env.cells->∃ ov,h'.IsCell c ov:=fun z c hz=>let ⟨ov,q⟩:=hcc z c hz;⟨ov,q.sameBut hs (F.cnl z c hz)⟩
  refine hQ _ ⟨F.kind,F.glob,F.bui,⟨_,hn,fun z j hz hlz=>?_⟩,fun z j hz hlz=>?_,F.celk,F.gl,F.apart,F.cnl,hcc',F.nol,F.noc,F.nbs,F.scnd,F.scinj,F.frs.mono (fun b o es ep e hd hb=>⟨by
    by_cases q:b=env.locals
    ·clear F e hQ hb hcc hcc' hd hk hk2 hl hm hr hs hsq hv hx;subst q;obtain⟨o',es',ep',e',hd',_⟩:=hn;exact⟨o',es',ep',e',hd'⟩
    ·exact⟨o,es,ep,hk2 b o q e,hd⟩,hb⟩),F.top⟩ ⟨⟨h',_,rfl⟩,fun b o hb e=>hk2 b o (fun q=>hb (.inl q)) e,fun b o e=>?_,hs.1⟩ (hv.seqs hsq)
  ·by_cases e:z=x
   ·clear hQ hcc hcc' hk hk2 hl hlz hm hn hr hs;subst e
    have:=F.scnd z i j hx hz
    clear F hx hz;subst this
    right
    exact⟨y,by simp,by rw[Rho.set_self];exact hv.seqs hsq⟩
   ·have hij:j ≠ i:=fun q=>e (F.scinj z x i (q ▸ hz) hx)
    rw[Rho.set_ne hij]
    refine(hr z j hz hlz).imp id fun ⟨w,e1,e2⟩=>⟨w,by simp[e,e1],e2.seqs hsq⟩
  ·refine Ag fun PP ret=>?_
   obtain⟨hkz,c,ov,hc,hcell,hrz⟩:=F.cells z j hz hlz
   have hij:j ≠ i:=fun q=>by
    have:=F.scinj z x i (q ▸ hz) hx
    clear F hQ hc hcc hcc' hcell hk hk2 hkz hm hn hr hrz hs hsq hv hx hz q ret;subst this;exact hlz hl
   refine ret ?_
   refine⟨hkz,c,ov,hc,hcell.sameBut hs (F.cnl z c (PySem.mem_of_lookup hc)),?_⟩
   rw[Rho.set_ne hij]
   exact hrz.imp id fun ⟨w,e1,e2⟩=>⟨w,e1,e2.seqs hsq⟩
  ·by_cases hb:b=env.locals
   ·clear F e hQ hcc hcc' hk hk2 hl hm hr hs hsq hv hx;subst hb;obtain⟨o',_,_,e',_⟩:=hn;exact⟨o',e'⟩
   ·exact⟨o,hk2 _ _ hb e⟩
 ·refine Ag fun PP ret=>?_
  obtain⟨hkx,c,ov,hc,hcell,hrx⟩:=F.cells x i hx hl
  have hmem:=PySem.mem_of_lookup hc
  have hcl:=F.cnl x c hmem
  have fin:∀ h',h'.IsCell c (some y)->Heap.SameBut c s.heap h'->Q () { s with heap:=h' }:=by
   intro h' hcell' hs
   have hk:∀ b o,¬ fr env b->s.heap.get? b=some o->h'.get? b=some o:=fun b o hb e=>hs.extBut b o (fun q=>hb (.inr ⟨x,q ▸ hmem⟩)) e
   have hsq:=VRel.frm (env:=env) (h:=s.heap) (h':=h') (Cy hm) (fun z c hz=>let ⟨ov,q⟩:=hcc z c hz;Dg q) hk
   have hcc':∀ z d,(z,d) ∈ env.cells->∃ ov,h'.IsCell d ov:=fun z d hz=>by
    by_cases q:d=c
    ·clear F hQ hc hcc hcell hcl hk hkx hl hm hmem hr hrx hs hsq hv hx hz ret;subst q;exact⟨_,hcell'⟩
    ·obtain⟨ov,q'⟩:=hcc z d hz;exact⟨ov,q'.sameBut hs q⟩
   refine hQ _ ⟨F.kind,F.glob,F.bui,⟨m,hm.sameBut hs (Ne.symm hcl),fun z j hz hlz=>?_⟩,fun z j hz hlz=>?_,F.celk,F.gl,F.apart,F.cnl,hcc',F.nol,F.noc,F.nbs,F.scnd,F.scinj,F.frs.mono (fun b o es ep e hd hb=>⟨⟨o,es,ep,hs.extBut b o (fun q=>by
     subst q;obtain⟨o',e',hd'⟩:=hcell;rw[e']at e;cases e;rw[hd']at hd;cases hd) e,hd⟩,hb⟩),F.top⟩ ⟨⟨h',s.toks,rfl⟩,fun b o hb e=>hs.extBut b o (fun q=>hb (.inr ⟨x,i,hx,by simp,q ▸ hc⟩)) e,fun b o e=>?_,hs.1⟩ (hv.seqs hsq)
   ·have hij:j ≠ i:=fun q=>by
     have:=F.scinj z x i (q ▸ hz) hx
     clear F hQ hc hcc hcc' hcell hcell' hcl hk hkx hm hmem hr hrx hs hsq hv hx hz q ret;subst this;exact hl hlz
    rw[Rho.set_ne hij]
    exact(hr z j hz hlz).imp id fun ⟨w,e1,e2⟩=>⟨w,e1,e2.seqs hsq⟩
   ·obtain⟨hkz,d,ov',hd,hcd,hrz⟩:=F.cells z j hz hlz
    by_cases e:z=x
    ·clear hQ hcc hcc' hcd hcell hcl hk hkx hl hlz hm hmem hr hrx hrz hs ret;subst e
     have:=F.scnd z i j hx hz
     clear F hx hz;subst this
     rw[hc]at hd;obtain rfl:=Option.some.inj hd
     exact⟨hkz,c,_,hc,hcell',.inr ⟨y,rfl,by rw[Rho.set_self];exact hv.seqs hsq⟩⟩
    ·have hij:j ≠ i:=fun q=>e (F.scinj z x i (q ▸ hz) hx)
     have hdc:d ≠ c:=fun q=>e (name_of_addr F.apart (PySem.mem_of_lookup hd) (q ▸ hmem))
     refine⟨hkz,d,ov',hd,hcd.sameBut hs hdc,?_⟩
     rw[Rho.set_ne hij]
     exact hrz.imp id fun ⟨w,e1,e2⟩=>⟨w,e1,e2.seqs hsq⟩
   ·by_cases hb:b=c
    ·clear F e hQ hc hcc hcc' hcell hcl hk hkx hl hm hmem hr hrx hs hsq hv hx ret;subst hb;obtain⟨o',e',_⟩:=hcell';exact⟨o',e'⟩
    ·exact⟨o,hs.extBut _ _ hb e⟩
  refine ret ?_
  rcases hkx with hkx | hkx
  ·exact wpAny_storeName_cell F.kind hkx hc hcell fin
  ·unfold storeName
   rw[hkx,F.kind]
   exact wpAny_bind (wpAny_cellOf hc (wpAny_cellSet hcell fin))
inductive Tgt where
 | one (i:Nat)
 | many (is:List Nat)
noncomputable def Tgt.idx:Tgt->List Nat
 | .one i=>[i]
 | .many is=>is
noncomputable def setMany (ρ:Rho):List Nat->List AV->Rho
 | i :: is,v :: vs=>setMany (ρ.set i v) is vs
 | _,_=>ρ
noncomputable def gG (H:AH):AV->Option (List AV)
 | .tup vs=>some vs
 | v=>Av H v
noncomputable def Tgt.put (H:AH):Tgt->AV->Rho->Option Rho
 | .one i,v,ρ=>some (ρ.set i v)
 | .many is,v,ρ=>match gG H v with
  | some vs=>if vs.length=is.length then some (setMany ρ is vs) else none
  | none=>none
noncomputable def AssignR (C:Cx) (sc:Sc) (t:Expr) (tg:Tgt):Prop :=
 ∀ (k:Nat) (A:Around) (env:Env) (s:Shared) (ρ ρ':Rho) (H:AH) (G:Gh) (O:Addr->Prop) (v:AV) (y:Value) (Q:Unit->Shared->Prop),AOk k A->WF C A sc env ρ G O s.heap->Rel C H G O s.heap->VRel s.heap O G v y->tg.put H v ρ=some ρ' ->
  (∀ s1 s',Kp s s1->FS (ta sc env tg.idx) s1 s'->WF C A sc env ρ' G O s'.heap->Q () s')->wpAny (model C.prog C.w) A (assign t env y) Q (fun z0 z0=>False) s
theorem AssignR.name {x:Str}{p:Pos}{i:Nat}(hx:(x,i) ∈ sc.vars):AssignR C sc (.Name x p) (.one i):=by
 intro k A env s ρ ρ' H G O v y Q hA F R hv hp hQ
 obtain rfl:=Option.some.inj hp
 exact wpAny_assign_Name (Bz F hx hv fun s' F' fs z0=>hQ s s' (.refl' s) fs F')
theorem On {prog:Program}{w:World}{A:Around}{I:Addr}{fp wr:List Addr}{n:Nat}{P:Nat->Value->Prop}{St:Nat->Heap->Prop}(W:Walks prog w A I fp wr n P St){E:Value->Shared->Prop} :
  ∀ (m i:Nat) (s:Shared) (Q:List Value->Shared->Prop),St i s.heap->i + m<=n ->
   (∀ vs h' tk,vs.length=m->(∀ j v,vs[j]? = some v->P (i + j) v)->St (i + m) h'->(∀ b o,b ∉ wr->s.heap.get? b=some o->h'.get? b=some o)->Q vs { s with heap:=h',toks:=tk })->wpAny (model prog w) A (draw (.ref I) m) Q E s
 | 0,i,s,Q,hst,_,hQ=>by
  refine(?_:wpAny _ _ (pure []) Q E s)
  exact wpAny_pure (hQ [] s.heap s.toks rfl (fun j v h=>by simp at h) hst fun z0 z0 z0 e=>e)
 | m + 1,i,s,Q,hst,hle,hQ=>by
  refine(?_:wpAny _ _ (pyNext (.ref I) >>= _) Q E s)
  refine wpAny_bind (W.item i s _ _ (by exact Ar.r58 hle) hst fun v h1 tk hP hst1 hk1=>?_)
  refine wpAny_bind (wpAny_holding (On W m (i + 1) _ _ hst1 (by exact Ar.r56 hle) fun vs h2 tk2 hl hPs hst2 hk2=>wpAny_pure ?_))
  refine hQ (v :: vs) h2 tk2 (by simp[hl]) (fun j u hj=>?_) (by rw[show i + (m + 1)=i + 1 + m by exact Ar.r4];exact hst2) fun b o hb e=>hk2 b o hb (hk1 b o hb e)
  cases j with
  | zero=>simp at hj;subst hj;exact hP
  | succ j=>have:=hPs j u (by simpa using hj);rwa [show i + (j + 1)=i + 1 + j by exact Ar.r4]
theorem VRels.of_get {h:Heap}:∀ {vs:List AV} {xs:List Value},xs.length=vs.length->(∀ (j:Nat) (x:Value),xs[j]? = some x->∃ v,vs[j]? = some v/\VRel h O G v x)->VRels h O G vs xs
 | [],xs,hl,_=>by simp at hl;subst hl;simp[vSn]
 | v :: vs,[],hl,_=>by simp at hl
 | v :: vs,x :: xs,hl,hg=>by
  obtain⟨v',e,r⟩:=hg 0 x (by simp)
  simp at e;subst e
  refine .cons r (VRels.of_get (by simpa using hl) fun j y hy=>?_)
  simpa using hg (j + 1) y (by simpa using hy)
theorem Lu {k:Nat}{A:Around}{H:AH}{v:AV}{y:Value}{vs:List AV}{Q:List Value->Shared->Prop}(hA:AOk k A)(R:Rel C H G O s.heap)(hv:VRel s.heap O G v y)(hu:gG H v=some vs)
  (hQ:∀ xs s',VRels s'.heap O G vs xs->Kp s s'->Q xs s'):wpAny (model C.prog C.w) A (unpackItems y vs.length none) Q (fun z0 z0=>False) s:=by
 have core:∀ (a:Addr) (T:String) (id:String),y = .ref a->s.TypeIs (.ref a) T->typeLookup (.type T) "__iter__" = pure (some (.builtin id)) ->
   (∀ Q',(∀ s2 I fp wr P St,(∀ {b o},s.heap.get? b=some o->s2.heap.get? b=some o)->Kp s s2->ItOK C A s s2 O G vs I fp wr [a] P St->Q' (.ref I) s2)->wpAny (model C.prog C.w) A (pyIter (.ref a)) Q' (fun z0 z0=>False) s) ->
   wpAny (model C.prog C.w) A (unpackItems y vs.length none) Q (fun z0 z0=>False) s:=by
  intro a T id hy hT hl hit
  clear R hA hv;subst hy
  unfold unpackItems
  refine wpAny_bind ?_
  unfold notIterableAtAll
  refine wpAny_bind (wpAny_specialOf hT hl ?_)
  refine wpAny_pure ?_
  simp only [Bool.false_eq_true,if_false]
  refine wpAny_bind (wpAny_holding (hit _ fun s2 I fp wr P St z0 k2 ok=>?_))
  refine wpAny_bind (wpAny_holding (On ok.W vs.length 0 s2 _ ok.st (by exact Ar.r201) fun xs h' tk hlen hP hst hk=>?_))
  rw[if_neg (by exact Ar.r40 hlen)]
  refine wpAny_bind (wpAny_holding (ok.W.done _ _ _ (by simpa using hst) fun h2 tk2 hk2=>?_))
  simp only [Option.isSome_none,Bool.false_eq_true,if_false]
  have kk:∀ b o,s.heap.get? b=some o->h2.get? b=some o:=fun b o e=>by
   have hb:b ∉ wr:=fun hb=>by rw[(ok.new b hb).1]at e;exact nqa e
   exact hk2 b o hb (hk b o hb (k2.k b o e))
  refine wpAny_pure (hQ xs _ ?_ ?_)
  ·refine VRels.of_get (by simp[hlen]) fun j x hx=>?_
   obtain⟨u,hu,hr⟩:=ok.item _ x (hP j x hx)
   refine⟨u,by simpa using hu,hr.seqs fun b o ys n e hd=>?_⟩
   have hb:b ∉ wr:=fun hb=>(ok.toQ (TG:=fun z0=>True)).wns 0 _ ok.st b hb o e ys n hd
   exact hk2 b o hb (hk b o hb e)
  ·clear hP hQ hT hit hk hk2 hl hlen hst hu ok z0;obtain⟨⟨h0,t0,rfl⟩,_⟩:=k2
   exact⟨⟨h2,tk2,rfl⟩,kk⟩
 cases v with
 | tup ws =>
  refine Ag fun PP ret=>?_
  clear R hQ;obtain rfl:=Option.some.inj hu
  simp only [vRp]at hv
  clear hu;obtain⟨a,n,items,rfl,hg,hO,hz,hr⟩:=hv
  refine ret ?_
  exact core a "tuple" _ rfl ⟨_,hg,rfl⟩ PySem.F.slot_tuple_iter.lookup fun Q' hQ'=>Mk hA.1 (.refl' s) hg hr hQ'
 | fl ws =>
  refine Ag fun PP ret=>?_
  clear hQ;obtain⟨a,n,items,rfl,hg,hr,hz⟩:=Ao R hv hu
  refine ret ?_
  exact core a "list" _ rfl ⟨_,hg,rfl⟩ slot_list_iter.lookup fun Q' hQ'=>Eh hA.1 (.refl' s) hg hr hQ'
 | ref a =>
  refine Ag fun PP ret=>?_
  clear hQ;obtain⟨a,n,items,rfl,hg,hr,hz⟩:=Ao R hv hu
  refine ret ?_
  exact core a "list" _ rfl ⟨_,hg,rfl⟩ slot_list_iter.lookup fun Q' hQ'=>Eh hA.1 (.refl' s) hg hr hQ'
 | row a i =>
  refine Ag fun PP ret=>?_
  clear hQ;obtain⟨a,n,items,rfl,hg,hr,hz⟩:=Ao R hv hu
  refine ret ?_
  exact core a "list" _ rfl ⟨_,hg,rfl⟩ slot_list_iter.lookup fun Q' hQ'=>Eh hA.1 (.refl' s) hg hr hQ'
 | _=>exact nqa hu
theorem Rel.fs {H:AH}{s':Shared}(R:Rel C H G O s.heap)(F:WF C A sc env ρ G O s.heap)(fs:FS (fr env) s s'):Rel C H G O s'.heap:=by
 have hfr:∀ b,fr env b->¬ O b:=by
  clear R fs;rintro b (rfl | ⟨x,hx⟩)
  ·exact F.nol
  ·exact F.noc x b hx
 have hsq:=VRel.frm (env:=env) (h:=s.heap) (h':=s'.heap) (by obtain⟨m,hm,_⟩:=F.ns;exact Cy hm) (fun z c hz=>let ⟨ov,q⟩:=F.cli z c hz;Dg q) fs.k
 refine⟨R.sub,fun a o ha=>(R.obj a o ha).mono (fun b ob xs n e hd hb=>⟨hsq b ob xs n e hd,hb⟩) fun b ob hb e=>fs.k b ob (fun q=>hfr b q (R.sub b ⟨a,by rw[ha];simp,hb⟩)) e,R.nd,R.dj,fun b o e=>?_,fun b hb=>?_⟩
 ·have:=R.base b o e
  exact⟨fs.k b o (fun q=>by rw[F.nbs b q]at e;exact nqa e) this.1,this.2⟩
 ·obtain⟨o,e⟩:=R.live b hb
  exact fs.l b o e
theorem VRels.fs {s':Shared}{v:List AV}{x:List Value}(r:VRels s.heap O G v x)(F:WF C A sc env ρ G O s.heap)(fs:FS (fr env) s s'):VRels s'.heap O G v x :=
 r.seqs (VRel.frm (env:=env) (h:=s.heap) (h':=s'.heap) (by obtain⟨m,hm,_⟩:=F.ns;exact Cy hm) (fun z c hz=>let ⟨ov,q⟩:=F.cli z c hz;Dg q) fs.k)
inductive NamesR (sc:Sc):List Expr->List Nat->Prop
 | nil:NamesR sc [] []
 | cons {x p es i is}:(x,i) ∈ sc.vars->NamesR sc es is->NamesR sc (.Name x p :: es) (i :: is)
theorem NamesR.plain {elts:List Expr}{is:List Nat}(env:Env)(h:NamesR sc elts is):(assignEach elts env).length=is.length/\(assignEach elts env).findIdx? (·.1)=none:=by
 induction h with
 | nil=>exact⟨rfl,rfl⟩
 | @cons x p es i is hx hr ih =>
  have e:assignEach (.Name x p :: es) env=(false,assign (.Name x p) env) :: assignEach es env:=rfl
  rw[e]
  refine⟨by simp[ih.1],?_⟩
  rw[List.findIdx?_cons];simp[ih.2]
theorem Tn {k:Nat}{A:Around}(hA:AOk k A){elts:List Expr}{is:List Nat}(hn:NamesR sc elts is):∀ {vs:List AV} {xs:List Value} {ρ:Rho} {s:Shared} {Q:Unit->Shared->Prop},vs.length=is.length->WF C A sc env ρ G O s.heap->VRels s.heap O G vs xs ->
  (∀ s',FS (ta sc env is) s s'->WF C A sc env (setMany ρ is vs) G O s'.heap->Q () s')->wpAny (model C.prog C.w) A (assignInOrder ((assignEach elts env).map (·.2)) xs) Q (fun z0 z0=>False) s:=by
 induction hn with
 | nil =>
  intro vs xs ρ s Q hl F r hQ
  have:vs=[]:=List.eq_nil_of_length_eq_zero (by simpa using hl)
  clear hA hl;subst this
  simp only [vSn]at r;subst r
  exact wpAny_pure (hQ s (.refl _ s) F)
 | @cons x p es i is hx hr ih =>
  intro vs xs ρ s Q hl F r hQ
  clear hA hr;cases vs with
  | nil=>simp at hl
  | cons v vs =>
   simp only [vSc]at r
   obtain⟨y,ys,rfl,r1,r2⟩:=r
   have e:assignEach (.Name x p :: es) env=(false,assign (.Name x p) env) :: assignEach es env:=rfl
   rw[e,List.map_cons]
   refine(?_:wpAny _ _ (do holding ys (assign (.Name x p) env y);assignInOrder ((assignEach es env).map (·.2)) ys) _ _ _)
   refine wpAny_bind (wpAny_holding (wpAny_assign_Name (Bz F hx r1 fun s1 F1 fs1 z0=>?_)))
   exact ih (by simpa using hl) F1 (r2.fs F (fs1.mono fun z0=>Bp)) fun s2 fs2 F2=>hQ s2 ((fs1.mono fun z0=>Yd (by simp)).trans (fs2.mono fun z0=>Yd (by simp +contextual))) F2
theorem AssignR.tuple {elts:List Expr}{i:Nat}{p:Pos}{is:List Nat}(hn:NamesR sc elts is):AssignR C sc (.Tuple elts i p) (.many is):=by
 intro k A env s ρ ρ' H G O v y Q hA F R hv hp hQ
 simp only [Tgt.put]at hp
 set_option tactic.hygienic true in split at hp
 ·rename_i vs hu
  refine Bj hp ?_;clear hp;intro hl hp
  obtain rfl:=Option.some.inj hp
  obtain⟨h1,h2⟩:=hn.plain env
  rw[arm_assign_Tuple]
  refine wpAny_bind (wpAny_standAt ?_)
  unfold unpack
  rw[h1,h2,<- hl]
  refine wpAny_bind (wpAny_holding (Lu hA R hv hu fun xs s1 r k1=>?_))
  exact Tn hA hn hl (F.keep k1.k) r fun s2 fs F2=>hQ s1 s2 k1 fs F2
 ·exact nqa hp
end
end Mine
end
section
namespace Mine
section
variable {h h':Heap} {O O':Addr->Prop} {G:Gh}
mutual
theorem VRel.wide (hk:∀ b o xs n,h.get? b=some o->o.data = .seq xs n->¬ O b->h'.get? b=some o/\¬ O' b):∀ {v:AV} {x:Value},VRel h O G v x->VRel h' O' G v x
 | .undef,_,r=>by simp[vRu]at r
 | .none,_,r=>by simpa [vRu,vRn,vRb,vRi,vRs,vRr,vRk,vRt,vRw,vRp,vRf]using r
 | .bool b,_,r=>by simpa [vRu,vRn,vRb,vRi,vRs,vRr,vRk,vRt,vRw,vRp,vRf]using r
 | .int i,_,r=>by simpa [vRu,vRn,vRb,vRi,vRs,vRr,vRk,vRt,vRw,vRp,vRf]using r
 | .str s,_,r=>by simpa [vRu,vRn,vRb,vRi,vRs,vRr,vRk,vRt,vRw,vRp,vRf]using r
 | .ref a,_,r=>by simpa [vRu,vRn,vRb,vRi,vRs,vRr,vRk,vRt,vRw,vRp,vRf]using r
 | .bi a,_,r=>by simpa [vRu,vRn,vRb,vRi,vRs,vRr,vRk,vRt,vRw,vRp,vRf]using r
 | .ty a,_,r=>by simpa [vRu,vRn,vRb,vRi,vRs,vRr,vRk,vRt,vRw,vRp,vRf]using r
 | .row a i,_,r=>by simpa [vRu,vRn,vRb,vRi,vRs,vRr,vRk,vRt,vRw,vRp,vRf]using r
 | .tup vs,x,r=>by
  simp only [vRp]at r ⊢
  refine Ag fun PP ret=>?_
  obtain⟨a,n,items,e,hg,ho,hz,hr⟩:=r
  refine ret ?_
  exact⟨a,n,items,e,(hk a _ _ n hg rfl ho).1,(hk a _ _ n hg rfl ho).2,hz,VRels.wide hk hr⟩
 | .fl vs,x,r=>by
  simp only [vRf]at r ⊢
  refine Ag fun PP ret=>?_
  obtain⟨a,n,items,e,hg,ho,hz,hr⟩:=r
  refine ret ?_
  exact⟨a,n,items,e,(hk a _ _ n hg rfl ho).1,(hk a _ _ n hg rfl ho).2,hz,VRels.wide hk hr⟩
theorem VRels.wide (hk:∀ b o xs n,h.get? b=some o->o.data = .seq xs n->¬ O b->h'.get? b=some o/\¬ O' b):∀ {vs:List AV} {xs:List Value},VRels h O G vs xs->VRels h' O' G vs xs
 | [],xs,r=>by simpa [vSn,vSc]using r
 | v :: vs,xs,r=>by
  simp only [vSc]at r ⊢
  refine Ag fun PP ret=>?_
  obtain⟨x,q,e,h1,h2⟩:=r
  refine ret ?_
  exact⟨x,q,e,VRel.wide hk h1,VRels.wide hk h2⟩
end
structure Shift (C:Cx) (Y:Addr->Prop) (O O':Addr->Prop) (h h':Heap):Prop where
 up:∀ b,O b->O' b
 k:∀ b o,¬ Y b->h.get? b=some o->h'.get? b=some o/\(O' b->O b)
 base:∀ b,Y b->C.h0.get? b=none
 seq:∀ b o xs n,Y b->h.get? b=some o->o.data = .seq xs n->O b
 live:∀ b,O' b->∃ o,h'.get? b=some o
variable {C:Cx} {Y:Addr->Prop} {H:AH} {sc:Sc} {env:Env} {ρ:Rho}
theorem Shift.val (S:Shift C Y O O' h h'){v:AV}{x:Value}(r:VRel h O G v x):VRel h' O' G v x :=
 r.wide fun b o xs n e hd hb=>by
  have hy:¬ Y b:=fun q=>hb (S.seq b o xs n q e hd)
  exact⟨(S.k b o hy e).1,fun q=>hb ((S.k b o hy e).2 q)⟩
theorem Shift.objF (S:Shift C Y O O' h h'){o:FObj}{a:Addr}{g:List Addr}(r:ORelF C h O G o a g)(hy:∀ b,b=a\/b ∈ g->¬ Y b):ORelF C h' O' G o a g :=
 r.mono (fun b o xs n e hd hb=>by
  have hy:¬ Y b:=fun q=>hb (S.seq b o xs n q e hd)
  exact⟨(S.k b o hy e).1,fun q=>hb ((S.k b o hy e).2 q)⟩) fun b ob hb e=>(S.k b ob (hy b hb) e).1
theorem Shift.rel (S:Shift C Y O O' h h')(R:Rel C H G O h)(hy:∀ b,Y b->¬ own H G b):Rel C H G O' h' where
 sub:=fun b hb=>S.up b (R.sub b hb)
 obj:=fun a o ha=>(R.obj a o ha).mono (fun b o xs n e hd hb=>by
  have hy:¬ Y b:=fun q=>hb (S.seq b o xs n q e hd)
  exact⟨(S.k b o hy e).1,fun q=>hb ((S.k b o hy e).2 q)⟩) fun b ob hb e=>(S.k b ob (fun q=>hy b q ⟨a,by rw[ha];simp,hb⟩) e).1
 nd:=R.nd
 dj:=R.dj
 base:=fun b o e=>by
  have hy:¬ Y b:=fun q=>by rw[S.base b q]at e;exact nqa e
  obtain⟨h1,h2⟩:=R.base b o e
  exact⟨(S.k b o hy h1).1,fun q=>h2 ((S.k b o hy h1).2 q)⟩
 live:=S.live
theorem Shift.wf (S:Shift C Y O O' h h')(F:WF C A sc env ρ G O h)(hy:∀ b,Y b->¬ fr env b)(hyf:∀ b,Y b->¬ frA A b):WF C A sc env ρ G O' h' where
 kind:=F.kind
 glob:=F.glob
 bui:=F.bui
 ns:=by
  obtain⟨m,hm,hv⟩:=F.ns
  refine⟨m,hm.at' fun o e=>(S.k _ o (fun q=>hy _ q (.inl rfl)) e).1,fun x i hx hl=>(hv x i hx hl).imp id fun ⟨v,e,r⟩=>⟨v,e,S.val r⟩⟩
 cells:=fun x i hx hl=>by
  refine Ag fun PP ret=>?_
  obtain⟨k,c,ov,e,⟨o,ho,hd⟩,hv⟩:=F.cells x i hx hl
  refine ret ?_
  exact⟨k,c,ov,e,⟨o,(S.k _ o (fun q=>hy _ q (.inr ⟨x,PySem.mem_of_lookup e⟩)) ho).1,hd⟩,hv.imp id fun ⟨v,e,r⟩=>⟨v,e,S.val r⟩⟩
 celk:=F.celk
 gl:=F.gl
 apart:=F.apart
 cnl:=F.cnl
 cli:=fun x c hx=>let ⟨ov,o,ho,hd⟩:=F.cli x c hx;⟨ov,o,(S.k _ o (fun q=>hy _ q (.inr ⟨x,hx⟩)) ho).1,hd⟩
 nol:=fun x=>by obtain⟨m,⟨o,_,_,ho,_⟩,_⟩:=F.ns;exact F.nol ((S.k _ o (fun q=>hy _ q (.inl rfl)) ho).2 x)
 noc:=fun x c hx y=>by obtain⟨ov,o,ho,_⟩:=F.cli x c hx;exact F.noc x c hx ((S.k _ o (fun q=>hy _ q (.inr ⟨x,hx⟩)) ho).2 y)
 nbs:=F.nbs
 scnd:=F.scnd
 scinj:=F.scinj
 frs:=F.frs.mono' fun b hb o es ep e hd hO=>⟨⟨o,es,ep,(S.k b o (fun q=>hyf b q hb) e).1,hd⟩,fun q=>hO ((S.k b o (fun q=>hyf b q hb) e).2 q)⟩
 top:=F.top
end
inductive PostL (C:Cx) (s:Shared) (G:Gh) (O:Addr->Prop) (D:Addr) (g:List Addr) (o':FObj) (x:Value) (s':Shared):Prop
 | mk (g':List Addr) (ob:ORelF C s'.heap (fun b=>O b\/b ∈ g') G o' D g') (nd:(D :: g').Nodup) (new:∀ b ∈ g',b ∈ g\/s.heap.get? b=none) (old:∀ b ∈ g,b ∈ g') (live:∀ b,b=D\/b ∈ g'->∃ ob,s'.heap.get? b=some ob)
   (same:∃ h' tk,s' = { s with heap:=h',toks:=tk }) (kk:∀ b ob,b ≠ D->s.heap.get? b=some ob->s'.heap.get? b=some ob)
noncomputable def EltR (C:Cx) (k:Nat) (sc:Sc) (elt:Expr) (e:Rho->AH->FObj->Option FObj):Prop :=
 ∀ (A:Around) (env:Env) (s:Shared) (ρ:Rho) (H:AH) (G:Gh) (O:Addr->Prop) (D:Addr) (g:List Addr) (o o':FObj),AOk k A->WF C A sc env ρ G O s.heap->Rel C H G O s.heap->¬ own H G D->O D->(∀ b ∈ g,O b/\¬ own H G b)->C.h0.get? D=none->ORelF C s.heap O G o D g->(D :: g).Nodup->e ρ H o=some o' ->
  wpAny (model C.prog C.w) A (eval elt env) (fun x s1=>wpAny (model C.prog C.w) A (call (.builtin "list.append") [.ref D,x]) (PostL C s G O D g o') (fun z0 z0=>False) s1) (fun z0 z0=>False) s
noncomputable def Go (f:PF):Rho->AH->FObj->Option FObj:=fun ρ H o=>match o,f ρ H with
 | .lst _ ws,some w=>if w.sto=true/\ws.length < lim then some (.lst false (ws++[w])) else none
 | _,_=>none
theorem Ro {prog:Program}{w:World}{A:Around}{E:Value->Shared->Prop}{s:Shared}{l:Addr}{items:List Value}{n:Nat}{x:Value}{Q:Value->Shared->Prop}(hl:s.heap.get? l=some (Bu items n))
  (hz:items.length<=sizeLine)
  (hQ:∀ h' n',h'.get? l=some (Bu (items++[x]) n')->Heap.SameBut l s.heap h'->Q .none { s with heap:=h' }) :
  wpAny (model prog w) A (call (.builtin "list.append") [.ref l,x]) Q E s:=by
 refine wpAny_call_entry slot_list_append (Am hl).typeIs entry_list_append ?_ (args_list_append _ _)
 refine(?_:wpAny _ _ (updateSeq l (·.push x) >>= fun z0=>ret .none) _ _ s)
 refine wpAny_bind ?_
 refine wpAny_updateSeq hl rfl (wpAny_pure ⟨.none,rfl,hQ _ (n + 1) ?_ (Heap.SameBut.update ..)⟩)
 rw[Heap.get?_update_self _ hl (Obj.isFreed_of_seq (o:=(Bu items n).mapSeq (·.push x)) rfl)]
 simp[Bu,Obj.mapSeq]
section
variable {C:Cx} {k:Nat} {sc:Sc} {f f':PF}
theorem EltR.pure {elt:Expr}(h:PureE C k sc elt f):EltR C k sc elt (Go f):=by
 intro A env s ρ H G O D g o o' hA F R hDo hD hg hb ho hnd he
 unfold Go at he
 refine iLX he ?_;clear he;rintro lk ws w rfl hw he
 refine Bj he ?_;clear he;intro hs he
 obtain rfl:=Option.some.inj he
 refine wpAny_mono (h A env s ρ H G O w hA F R hw) (fun x s1 h1=>?_) fun z0 z0 x=>x
 refine Ag fun PP ret=>?_
 obtain⟨rx,⟨h1',t1,rfl⟩,hk⟩:=h1
 obtain⟨rfl,hst,hz,n,items,hl,hr⟩:=ho
 have hlen:=hr.length
 refine ret ?_
 refine Ro (hk _ _ hl) (by have:=Bv;exact Ar.r95 hz hlen this) fun h2 n2 hl2 hs2=>⟨[],?_,by simp,by simp,by simp,fun b hb=>⟨_,by simp at hb;subst hb;exact hl2⟩,⟨_,_,rfl⟩,fun b ob hbD e=>hs2.extBut b ob hbD (hk b ob e)⟩
 have sh:∀ b o xs n,h1'.get? b=some o->o.data = .seq xs n->¬ O b->h2.get? b=some o/\¬ (O b\/b ∈ ([]:List Addr)):=fun b o xs n e hd hOb=>⟨hs2.extBut b o (fun q=>hOb (q ▸ hD)) e,by simpa using hOb⟩
 refine⟨rfl,by rw[stos_iff]at hst ⊢;intro v hv;rcases List.mem_append.mp hv with q | q;exact hst v q;simp at q;subst q;exact hs.1,by simp;lia,n2,_,hl2,?_⟩
 exact((hr.keep hk).wide sh).append (.one (rx.wide sh))
end
end Mine
end
section
namespace Mine
theorem Ba:∀ (names:List (Str × NameKind)) (n:Nat) (acc:List (Str × Addr)),cellsFrom n names acc=cellsFrom n names []++acc
 | [],n,acc=>rfl
 | (x,k) :: r,n,acc=>by
  unfold cellsFrom
  set_option tactic.hygienic true in split
  ·rw[Ba r (n + 1) ((x,n) :: acc),Ba r (n + 1) [(x,n)]];simp
  ·exact Ba r n acc
theorem Dc:∀ (names:List (Str × NameKind)) (n:Nat) {x:Str} {c:Addr},(x,c) ∈ cellsFrom n names []->(x,NameKind.cell) ∈ names
 | [],n,x,c,h=>by simp[cellsFrom]at h
 | (y,k) :: r,n,x,c,h=>by
  unfold cellsFrom at h
  set_option tactic.hygienic true in split at h
  ·rename_i hk
   rw[Ba]at h
   rcases List.mem_append.mp h with h | h
   ·exact List.mem_cons_of_mem _ (Dc r _ h)
   ·simp at h;obtain⟨rfl,rfl⟩:=h
    have:k = .cell:=by simpa using hk
    clear h hk;subst this;simp
  ·exact List.mem_cons_of_mem _ (Dc r _ h)
theorem Cv:∀ (names:List (Str × NameKind)) (n:Nat) {x:Str},(x,NameKind.cell) ∈ names->∃ c,(x,c) ∈ cellsFrom n names []
 | [],n,x,h=>by simp at h
 | (y,k) :: r,n,x,h=>by
  unfold cellsFrom
  set_option tactic.hygienic true in split
  ·rename_i hk
   rw[Ba]
   rcases List.mem_cons.mp h with e | h
   ·clear h hk;cases e;exact⟨n,by simp⟩
   ·obtain⟨c,hc⟩:=Cv r (n + 1) h;exact⟨c,by simp[hc]⟩
  ·rename_i hk
   rcases List.mem_cons.mp h with e | h
   ·clear h;cases e;simp at hk
   ·exact Cv r n h
noncomputable def Ci (env:Env):List (Str × NameKind)->List (Str × Addr)->List (Str × Addr)
 | [],acc=>acc
 | (x,k) :: r,acc=>if k == .free then match env.cells.lookup x with
   | some c=>Ci env r ((x,c) :: acc)
   | none=>Ci env r acc
  else Ci env r acc
theorem bO {env:Env}{acc:List (Str × Addr)}:Ci env [] acc=acc:=rfl
theorem Oo {env:Env}{x:Str}{k:NameKind}{r:List (Str × NameKind)}{acc:List (Str × Addr)}:Ci env ((x,k) :: r) acc=if k == .free then match env.cells.lookup x with
   | some c=>Ci env r ((x,c) :: acc)
   | none=>Ci env r acc
  else Ci env r acc:=rfl
theorem Di (env:Env):∀ (names:List (Str × NameKind)) (acc:List (Str × Addr)),Ci env names acc=Ci env names []++acc
 | [],acc=>rfl
 | (x,k) :: r,acc=>by
  rw[Oo,Oo]
  set_option tactic.hygienic true in split
  ·set_option tactic.hygienic true in split
   ·rename_i c _;rw[Di env r ((x,c) :: acc),Di env r [(x,c)]];simp
   ·exact Di env r acc
  ·exact Di env r acc
theorem Bs (env:Env):∀ (names:List (Str × NameKind)) {x:Str} {c:Addr},(x,c) ∈ Ci env names []->(x,NameKind.free) ∈ names/\env.cells.lookup x=some c
 | [],x,c,h=>by simp[bO]at h
 | (y,k) :: r,x,c,h=>by
  rw[Oo]at h
  set_option tactic.hygienic true in split at h
  ·rename_i hk
   have:k = .free:=by simpa using hk
   clear hk;subst this
   set_option tactic.hygienic true in split at h
   ·rename_i d hd
    rw[Di]at h
    rcases List.mem_append.mp h with h | h
    ·exact⟨List.mem_cons_of_mem _ (Bs env r h).1,(Bs env r h).2⟩
    ·simp at h;obtain⟨rfl,rfl⟩:=h;exact⟨by simp,hd⟩
   ·exact⟨List.mem_cons_of_mem _ (Bs env r h).1,(Bs env r h).2⟩
  ·exact⟨List.mem_cons_of_mem _ (Bs env r h).1,(Bs env r h).2⟩
theorem Rh (env:Env):∀ (names:List (Str × NameKind)) {x:Str} {c:Addr},(x,NameKind.free) ∈ names->env.cells.lookup x=some c->(x,c) ∈ Ci env names []
 | [],x,c,h,_=>by simp at h
 | (y,k) :: r,x,c,h,hc=>by
  rw[Oo]
  rcases List.mem_cons.mp h with e | h
  ·clear h;cases e
   simp only [beq_self_eq_true,if_true,hc]
   rw[Di];simp
  ·have ih:=Rh env r h hc
   set_option tactic.hygienic true in split
   ·set_option tactic.hygienic true in split
    ·rw[Di];simp[ih]
    ·exact ih
   ·exact ih
theorem Nr {env:Env}{scope:Scope}(hf:∀ x,(x,NameKind.free) ∈ scope.names->∃ c,env.cells.lookup x=some c):closureFor scope env=pure (Ci env scope.names []):=by
 unfold closureFor
 have:∀ (names:List (Str × NameKind)) (acc:List (Str × Addr)),(∀ x,(x,NameKind.free) ∈ names->∃ c,env.cells.lookup x=some c) ->
   (forIn names acc fun (x:Str × NameKind) (r:List (Str × Addr))=>(match x with
    | (name,kind)=>if (kind == NameKind.free)=true then do let a <- cellOf env name;pure (ForInStep.yield ((name,a) :: r)) else pure (ForInStep.yield r):Sem (ForInStep (List (Str × Addr)))))=(pure (Ci env names acc):Sem _):=by
  intro names
  induction names with
  | nil=>intro acc _;simp[bO]
  | cons p r ih =>
   obtain⟨x,k⟩:=p
   intro acc hf
   rw[List.forIn_cons]
   rw[Oo]
   have ih':=fun acc=>ih acc fun y hy=>hf y (List.mem_cons_of_mem _ hy)
   by_cases hk:(k == NameKind.free)=true
   ·have:k = .free:=by simpa using hk
    clear hk ih;subst this
    obtain⟨c,hc⟩:=hf x (by simp)
    have e:cellOf env x=pure c:=by unfold cellOf;rw[hc]
    simp only [beq_self_eq_true,if_true,hc,e]
    exact ih' _
   ·simp only [hk,if_false]
    exact ih' _
 have h2:=this scope.names [] hf
 simp only [bind_pure_comp]at h2 ⊢
 first
  | (rw[<- h2];rfl)
  | (refine Eq.trans ?_ h2;simp;done)
  | (refine Eq.trans ?_ h2;rfl)
theorem Mb {scope:Scope}{env:Env}(x:Str):(relabel scope env).names.lookup x=(scope.names.lookup x).map fun k=>if (k == .free && env.scope.kind == .function && env.kindOf x == some .cell) then NameKind.cell else k:=by
 unfold relabel
 dsimp only
 generalize scope.names=names
 induction names with
 | nil=>rfl
 | cons p r ih =>
  obtain⟨n,k⟩:=p
  refine(?_:List.lookup x ((if (k == NameKind.free && env.scope.kind == .function && env.kindOf n == some .cell)=true then (n,NameKind.cell) else (n,k)) :: _)=_)
  cases hx:x == n with
  | true =>
   have:x=n:=by simpa using hx
   subst this
   by_cases hc:(k == NameKind.free && env.scope.kind == .function && env.kindOf x == some .cell)=true
   ·rw[if_pos hc];simp only [List.lookup_cons,hx,Option.map_some];rw[if_pos hc]
   ·rw[if_neg hc];simp only [List.lookup_cons,hx,Option.map_some];rw[if_neg hc]
  | false =>
   by_cases hc:(k == NameKind.free && env.scope.kind == .function && env.kindOf n == some .cell)=true
   ·rw[if_pos hc];simp only [List.lookup_cons,hx];exact ih
   ·rw[if_neg hc];simp only [List.lookup_cons,hx];exact ih
theorem Fl {names:List (Str × NameKind)}(hnd:(names.map (·.1)).Nodup){x:Str}{k:NameKind}(h:(x,k) ∈ names):names.lookup x=some k:=by
 induction names with
 | nil=>simp at h
 | cons p r ih =>
  obtain⟨y,j⟩:=p
  simp only [List.map_cons,List.nodup_cons]at hnd
  rw[List.lookup_cons]
  rcases List.mem_cons.mp h with e | h2
  ·clear h hnd ih;cases e;simp
  ·have:(x == y)=false:=by
    simp only [beq_eq_false_iff_ne,ne_eq];clear h ih;rintro rfl
    exact hnd.1 (List.mem_map.mpr ⟨(x,k),h2,rfl⟩)
   rw[this];exact ih hnd.2 h2
theorem Ht {α:Type}(x:Str):∀ (a b:List (Str × α)),(a++b).lookup x=(a.lookup x).or (b.lookup x)
 | [],b=>by simp
 | (y,v) :: r,b=>by
  rw[List.cons_append,List.lookup_cons,List.lookup_cons]
  cases x == y with
  | true=>simp
  | false=>exact Ht x r b
structure CompSc (sc:Sc) (scope:Scope) (sc':Sc) (idx:List Nat):Prop where
 kind:scope.kind = .function
 nd:(scope.names.map (·.1)).Nodup
 vars:∀ x i,(x,i) ∈ sc'.vars->((scope.names.lookup x=some .local\/scope.names.lookup x=some .cell)/\i ∈ idx)\/(scope.names.lookup x=some .free/\(x,i) ∈ sc.vars/\x ∈ sc.cel/\i ∉ idx)
 cel:∀ x,x ∈ sc'.cel->scope.names.lookup x=some .cell\/scope.names.lookup x=some .free
 free:∀ x,(x,NameKind.free) ∈ scope.names->x ∈ sc.cel/\∃ i,(x,i) ∈ sc.vars
 gl:∀ x,x ∈ sc'.globs->scope.names.lookup x=some .globalImplicit
 scnd:∀ x i j,(x,i) ∈ sc'.vars->(x,j) ∈ sc'.vars->i=j
 scinj:∀ x y i,(x,i) ∈ sc'.vars->(y,i) ∈ sc'.vars->x=y
 top:sc'.top=false
noncomputable def Fk {α:Type} [BEq α]:List α->Bool
 | []=>true
 | x :: r=>!r.contains x && Fk r
theorem iH {α:Type}[BEq α]{x:α}{r:List α}:Fk (x :: r)=(!r.contains x && Fk r):=rfl
theorem Dr {α:Type}[BEq α][LawfulBEq α]:∀ {l:List α},Fk l=true->l.Nodup
 | [],_=>by simp
 | x :: r,h=>by
  simp only [iH,Bool.and_eq_true,Bool.not_eq_true',List.contains_eq_mem]at h
  rw[List.nodup_cons]
  exact⟨by simpa using h.1,Dr h.2⟩
noncomputable def scB (sc:Sc):Bool:=Fk (sc.vars.map (·.1)) && Fk (sc.vars.map (·.2))
theorem Qj {α β:Type}{l:List (α × β)}(h:(l.map (·.1)).Nodup){x:α}{i j:β}(hi:(x,i) ∈ l)(hj:(x,j) ∈ l):i=j:=by
 induction l with
 | nil=>simp at hi
 | cons p r ih =>
  simp only [List.map_cons,List.nodup_cons]at h
  rcases List.mem_cons.mp hi with e | hi <;> rcases List.mem_cons.mp hj with e' | hj
  ·rw[<- e]at e';clear e h hi hj ih;cases e';rfl
  ·exact absurd (List.mem_map.mpr ⟨_,hj,by rw[<- e]⟩) h.1
  ·exact absurd (List.mem_map.mpr ⟨_,hi,by rw[<- e']⟩) h.1
  ·exact ih h.2 hi hj
theorem Wq {α β:Type}{l:List (α × β)}(h:(l.map (·.2)).Nodup){x y:α}{i:β}(hi:(x,i) ∈ l)(hj:(y,i) ∈ l):x=y:=by
 induction l with
 | nil=>simp at hi
 | cons p r ih =>
  simp only [List.map_cons,List.nodup_cons]at h
  rcases List.mem_cons.mp hi with e | hi <;> rcases List.mem_cons.mp hj with e' | hj
  ·rw[<- e]at e';clear e h hi hj ih;cases e';rfl
  ·exact absurd (List.mem_map.mpr ⟨_,hj,by rw[<- e]⟩) h.1
  ·exact absurd (List.mem_map.mpr ⟨_,hi,by rw[<- e']⟩) h.1
  ·exact ih h.2 hi hj
theorem Pa {sc:Sc}(h:scB sc=true):(∀ x i j,(x,i) ∈ sc.vars->(x,j) ∈ sc.vars->i=j)/\∀ x y i,(x,i) ∈ sc.vars->(y,i) ∈ sc.vars->x=y:=by
 simp only [scB,Bool.and_eq_true]at h
 exact⟨fun x i j=>Qj (Dr h.1),fun x y i=>Wq (Dr h.2)⟩
noncomputable def Vm (sc:Sc) (scope:Scope) (sc':Sc) (idx:List Nat):Bool :=
 Fk (scope.names.map (·.1)) && (sc'.vars.all fun p=>(scope.names.lookup p.1 == some .local || scope.names.lookup p.1 == some .cell) && idx.contains p.2 || scope.names.lookup p.1 == some .free && (sc.vars.contains p && sc.cel.contains p.1 && !idx.contains p.2)) && (sc'.cel.all fun x=>scope.names.lookup x == some .cell || scope.names.lookup x == some .free) && (scope.names.all fun p=>!(p.2 == .free) || sc.cel.contains p.1 && sc.vars.any (·.1 == p.1)) && (sc'.globs.all fun x=>scope.names.lookup x == some .globalImplicit) && scB sc' && !sc'.top
theorem CompSc.of {sc:Sc}{scope:Scope}{sc':Sc}{idx:List Nat}(hk:scope.kind = .function)(h:Vm sc scope sc' idx=true):CompSc sc scope sc' idx:=by
 refine Ag fun PP ret=>?_
 simp only [Vm,Bool.and_eq_true,List.all_eq_true]at h
 obtain⟨⟨⟨⟨⟨⟨h1,h2⟩,h3⟩,h4⟩,h5⟩,h6⟩,h7⟩:=h
 refine ret ?_
 refine⟨hk,Dr h1,fun x i hx=>?_,fun x hx=>?_,fun x hx=>?_,fun x hx=>?_,(Pa h6).1,(Pa h6).2,by simpa using h7⟩
 ·have:=h2 (x,i) hx
  simp at this
  rcases this with ⟨e,h⟩ | ⟨e,h,q⟩
  ·exact .inl ⟨e,h⟩
  ·exact .inr ⟨e,h.1,h.2,q⟩
 ·have:=h3 x hx
  simpa using this
 ·have:=h4 (x,.free) hx
  simp at this
  exact⟨this.1,this.2⟩
 ·have:=h5 x hx
  simpa using this
noncomputable def Gz (scope:Scope) (env:Env) (L:Addr):Env :=
 { scope:=relabel scope env,locals:=L,globals:=env.globals,cells:=cellsFrom (L + 1) scope.names (Ci env scope.names []),qual:=env.qual,func:=none,code:=env.code,frame:=env.frame,builtins:=env.builtins }
theorem WF.celof {C:Cx}{sc:Sc}{env:Env}{ρ:Rho}{G:Gh}{O:Addr->Prop}{h:Heap}(F:WF C A sc env ρ G O h){x:Str}{i:Nat}(hx:x ∈ sc.cel)(hi:(x,i) ∈ sc.vars):∃ c,env.cells.lookup x=some c:=by
 obtain⟨_,c,_,e,_⟩:=F.cells x i hi (F.celk x hx)
 exact⟨c,e⟩
theorem eE {C:Cx}{sc sc':Sc}{idx:List Nat}{scope:Scope}{env:Env}{ρ:Rho}{G:Gh}{O:Addr->Prop}{h h':Heap}(F:WF C A sc env ρ G O h)(hsc:CompSc sc scope sc' idx)(hO:∀ b,O b->b < h.objs.size)
  (hb:∀ b o,C.h0.get? b=some o->b < h.objs.size)
  (hk:∀ b o,h.get? b=some o->h'.get? b=some o) (hL:h'.Ns h.objs.size fun z0=>none) (hc:CellsOk h' (h.objs.size + 1) (cellsFrom (h.objs.size + 1) scope.names [])) :
  WF C A sc' (Gz scope env h.objs.size) (fun j=>if j ∈ idx then .undef else ρ j) G O h':=by
 have hcl:∀ x c,(x,c) ∈ Ci env scope.names []->∃ i ov,(x,i) ∈ sc.vars/\x ∈ sc.cel/\env.cells.lookup x=some c/\h.IsCell c ov:=by
  intro x c hx
  obtain⟨h1,h2⟩:=Bs env _ hx
  obtain⟨h3,i,hi⟩:=hsc.free x h1
  obtain⟨_,c',ov,e,hcell,_⟩:=F.cells x i hi (F.celk x h3)
  rw[h2]at e;clear F h1 hL hO hb hc hk hsc hx left right;obtain rfl:=Option.some.inj e
  exact⟨i,ov,hi,h3,h2,hcell⟩
 have hce:(Gz scope env h.objs.size).cells=cellsFrom (h.objs.size + 1) scope.names []++Ci env scope.names []:=Ba _ _ _
 have hko:∀ x,(Gz scope env h.objs.size).kindOf x=(scope.names.lookup x).map fun k=>if (k == .free && env.scope.kind == .function && env.kindOf x == some .cell) then NameKind.cell else k:=fun x=>Mb x
 have hlt:∀ x c,(x,c) ∈ Ci env scope.names []->c < h.objs.size:=fun x c hx=>let ⟨_,ov,_,_,_,hcell⟩:=hcl x c hx;hcell.lt
 have apartC:(Ci env scope.names []).Pairwise fun x y=>x.2 ≠ y.2:=by
  have hnd:=hsc.nd
  have:∀ names:List (Str × NameKind),(∀ p ∈ names,p ∈ scope.names)->(names.map (·.1)).Nodup->(Ci env names []).Pairwise fun x y=>x.2 ≠ y.2:=by
   intro names
   induction names with
   | nil=>intro _ _;simp[bO]
   | cons p r ih =>
    obtain⟨x,k⟩:=p
    intro hsub hn
    simp only [List.map_cons,List.nodup_cons]at hn
    have ih':=ih (fun q hq=>hsub q (List.mem_cons_of_mem _ hq)) hn.2
    rw[Oo]
    set_option tactic.hygienic true in split
    ·rename_i hkk
     set_option tactic.hygienic true in split
     ·rename_i c hcx
      rw[Di,List.pairwise_append]
      refine⟨ih',by simp,fun q hq z hz=>?_⟩
      simp at hz;clear hL hO hb hc hce hcl hk hkk hko hlt hnd hsc hsub ih ih';subst hz
      obtain⟨y,d⟩:=q
      dsimp only
      rintro rfl
      obtain⟨q1,q2⟩:=Bs env _ hq
      have:=name_of_addr F.apart (PySem.mem_of_lookup q2) (PySem.mem_of_lookup hcx)
      subst this
      exact hn.1 (List.mem_map.mpr ⟨_,q1,rfl⟩)
     ·exact ih'
    ·exact ih'
  exact this scope.names (fun z0 x=>x) hnd
 have hcl1:∀ x c,(x,c) ∈ (Gz scope env h.objs.size).cells->(h'.IsCell c none/\h.objs.size + 1<=c/\(x,NameKind.cell) ∈ scope.names)\/((x,c) ∈ Ci env scope.names []):=fun x c hx=>by
  rw[hce]at hx
  rcases List.mem_append.mp hx with q | q
  ·exact .inl ⟨(hc.empty x c q).1,(hc.empty x c q).2,Dc _ _ q⟩
  ·exact .inr q
 refine⟨hsc.kind,F.glob,F.bui,⟨_,hL,fun x i hx hl=>?_⟩,fun x i hx hl=>?_,fun x hx=>?_,fun x hx=>?_,?_,fun x c hx=>?_,fun x c hx=>?_,fun q=>Nat.lt_irrefl _ (hO _ q),fun x c hx q=>?_,fun b hb'=>?_,hsc.scnd,hsc.scinj,F.frs.keep hk,fun q=>by rw[hsc.top]at q;exact nqd q⟩
 ·rcases hsc.vars x i hx with ⟨_,hi⟩ | ⟨hf,_,hcx,_⟩
  ·left;simp[hi]
  ·exfalso
   rw[hko,hf]at hl
   simp only [Option.map_some]at hl
   set_option tactic.hygienic true in split at hl <;> cases hl
 ·rcases hsc.vars x i hx with ⟨hkx,hi⟩ | ⟨hf,hi,hcx,hni⟩
  ·have:scope.names.lookup x=some .cell:=by
    rcases hkx with q | q
    ·exfalso;apply hl;rw[hko,q];rfl
    ·exact q
   obtain⟨c,hcm⟩:=Cv scope.names (h.objs.size + 1) (PySem.mem_of_lookup this)
   obtain⟨c',hc'⟩:=Bo hcm
   refine⟨.inl (by rw[hko,this];rfl),c',none,?_,(hc.empty x c' (PySem.mem_of_lookup hc')).1,.inl (by simp[hi])⟩
   rw[hce,Ht,hc'];rfl
  ·refine Ag fun PP ret=>?_
   obtain⟨hk',c,ov,e,hcell,hv⟩:=F.cells x i hi (F.celk x hcx)
   refine ret ?_
   refine⟨?_,c,ov,?_,hcell.keeps hk,?_⟩
   ·rw[hko,hf]
    simp only [Option.map_some]
    set_option tactic.hygienic true in split
    ·exact .inl rfl
    ·exact .inr rfl
   ·rw[hce,Ht]
    have h1:(cellsFrom (h.objs.size + 1) scope.names []).lookup x=none:=by
     clear F apartC e hL hO hb hc hce hcell hcl hcl1 hcx hi hk hk' hko hl hlt hni hv hx ret;cases q:(cellsFrom (h.objs.size + 1) scope.names []).lookup x with
     | none=>rfl
     | some d =>
      have:=Fl hsc.nd (Dc _ _ (PySem.mem_of_lookup q))
      rw[hf]at this;cases this
    rw[h1]
    obtain⟨d,hd⟩:=Bo (Rh env scope.names (PySem.mem_of_lookup hf) e)
    rw[hd]
    obtain⟨_,hd'⟩:=Bs env _ (PySem.mem_of_lookup hd)
    rw[e]at hd';clear F apartC e h1 hL hO hb hc hce hcell hcl hcl1 hcx hd hf hi hk hk' hko hl hlt hni hsc hv hx left ret;obtain rfl:=Option.some.inj hd';rfl
   ·simp only [hni,if_false]
    exact hv.imp id fun ⟨v,e1,r⟩=>⟨v,e1,r.keep hk⟩
 ·rw[hko]
  rcases hsc.cel x hx with q | q
  ·rw[q];simp only [Option.map_some];intro e;set_option tactic.hygienic true in split at e <;> cases e
  ·rw[q];simp only [Option.map_some];intro e;set_option tactic.hygienic true in split at e <;> cases e
 ·rw[hko,hsc.gl x hx];rfl
 ·rw[hce,List.pairwise_append]
  refine⟨hc.apart,apartC,fun p hp q hq=>?_⟩
  have h1:=(hc.empty p.1 p.2 hp).2
  have h2:=hlt q.1 q.2 hq
  intro e;rw[e]at h1;exact absurd h2 (Nat.not_lt.mpr (Nat.le_of_succ_le h1))
 ·rcases hcl1 x c hx with q | q
  ·intro e;have e':c=h.objs.size:=e;have:=q.2.1;rw[e']at this;exact Nat.not_succ_le_self _ this
  ·intro e;have e':c=h.objs.size:=e;have:=hlt x c q;rw[e']at this;exact Nat.lt_irrefl _ this
 ·rcases hcl1 x c hx with q | q
  ·exact⟨none,q.1⟩
  ·refine Ag fun PP ret=>?_
   obtain⟨_,ov,_,_,_,hcell⟩:=hcl x c q
   refine ret ?_
   exact⟨ov,hcell.keeps hk⟩
 ·rcases hcl1 x c hx with q' | q'
  ·exact absurd (hO c q) (Nat.not_lt.mpr (Nat.le_of_succ_le q'.2.1))
  ·refine Ag fun PP ret=>?_
   obtain⟨_,ov,_,_,e,hcell⟩:=hcl x c q'
   refine ret ?_
   exact F.noc x c (PySem.mem_of_lookup e) q
 ·clear apartC hL hO hc hce hk hko hlt hsc;cases e:C.h0.get? b with
  | none=>rfl
  | some o =>
   exfalso
   have hlt':=hb b o e
   rcases hb' with rfl | ⟨x,hx⟩
   ·exact Nat.lt_irrefl _ hlt'
   ·rcases hcl1 x b hx with q | q
    ·exact absurd hlt' (Nat.not_lt.mpr (Nat.le_of_succ_le q.2.1))
    ·refine Ag fun PP ret=>?_
     obtain⟨_,ov,_,_,e',_⟩:=hcl x b q
     refine ret ?_
     rw[F.nbs b (.inr ⟨x,PySem.mem_of_lookup e'⟩)]at e;exact nqa e
end Mine
end
section
namespace Mine
noncomputable def TestsE (C:Cx) (k:Nat) (sc:Sc) (ifs:List Expr) (c:CF):Prop :=
 ∀ (A:Around) (env:Env) (s:Shared) (ρ:Rho) (H:AH) (G:Gh) (O:Addr->Prop) (b:Bool),AOk k A->WF C A sc env ρ G O s.heap->Rel C H G O s.heap->c ρ H=some b ->
  wpAny (model C.prog C.w) A (forIn ifs true fun c r=>if r=true then do let ok <- isTrue c env (eval c env);pure (ForInStep.yield ok) else pure (ForInStep.yield r)) (fun ok s'=>ok=b/\Kp s s') (fun z0 z0=>False) s
noncomputable def ttC:CF:=fun z0 z0=>some true
section
variable {C:Cx} {k:Nat} {sc:Sc} {f f':PF}
theorem TestsE.nil:TestsE C k sc [] ttC:=by
 intro A env s ρ H G O b hA F R h;obtain rfl:=Option.some.inj h
 exact wpAny_tests_nil ⟨rfl,.refl' s⟩
theorem TestsE.one {e:Expr}{c:CF}(h:TestE C k sc e c):TestsE C k sc [e] c:=by
 intro A env s ρ H G O b hA F R hb
 exact wpAny_tests_one (h A env s ρ H G O b hA F R hb)
end
noncomputable abbrev EF:=Rho->AH->FObj->Option FObj
noncomputable def Cf (tg:Tgt) (c:CF) (e:EF) (ρ:Rho) (H:AH):FObj->List AV->Option FObj
 | o,[]=>some o
 | o,v :: r=>match tg.put H v ρ with
  | some ρ'=>match c ρ' H with
   | some true=>match e ρ' H o with
    | some o'=>Cf tg c e ρ H o' r
    | none=>none
   | some false=>Cf tg c e ρ H o r
   | none=>none
  | none=>none
theorem kU {tg:Tgt}{c:CF}{e:EF}{ρ:Rho}{H:AH}{o:FObj}:Cf tg c e ρ H o []=some o:=rfl
theorem jK {tg:Tgt}{c:CF}{e:EF}{ρ:Rho}{H:AH}{o:FObj}{v:AV}{r:List AV}:Cf tg c e ρ H o (v :: r)=match tg.put H v ρ with
  | some ρ'=>match c ρ' H with
   | some true=>match e ρ' H o with
    | some o'=>Cf tg c e ρ H o' r
    | none=>none
   | some false=>Cf tg c e ρ H o r
   | none=>none
  | none=>none:=rfl
noncomputable def Gb (fs:LF) (tg:Tgt) (c:CF) (e:EF) (init:FObj):Rho->AH->Option FObj:=fun ρ H=>match fs ρ H with
 | some vs=>Cf tg c e ρ H init vs
 | none=>none
theorem Hg:∀ (is:List Nat) (vs:List AV) (ρ ρ1:Rho),vs.length=is.length->(∀ j,j ∉ is->ρ1 j=ρ j)->setMany ρ1 is vs=setMany ρ is vs
 | [],[],ρ,ρ1,_,h=>by funext j;exact h j (by simp)
 | [],_ :: _,_,_,h,_=>by simp at h
 | _ :: _,[],_,_,h,_=>by simp at h
 | i :: is,v :: vs,ρ,ρ1,hl,h=>by
  refine Hg is vs _ _ (by simpa using hl) fun j hj=>?_
  by_cases e:j=i
  ·clear h hj hl;subst e;simp
  ·rw[Rho.set_ne e,Rho.set_ne e];exact h j (by simp[e,hj])
theorem Tgt.put_agree {H:AH}{tg:Tgt}{v:AV}{ρ ρ1 ρ':Rho}(h:∀ j,j ∉ tg.idx->ρ1 j=ρ j)(hp:tg.put H v ρ=some ρ'):tg.put H v ρ1=some ρ':=by
 cases tg with
 | one i =>
  simp only [Tgt.put,Option.some.injEq]at hp ⊢
  subst hp
  funext j
  by_cases e:j=i
  ·clear h;subst e;simp
  ·rw[Rho.set_ne e,Rho.set_ne e];exact h j (by simp[Tgt.idx,e])
 | many is =>
  simp only [Tgt.put]at hp ⊢
  set_option tactic.hygienic true in split at hp
  ·rename_i vs hu
   refine Bj hp ?_;clear hp;intro hl hp
   clear hu;obtain rfl:=Option.some.inj hp
   simp only [hl,if_true,Option.some.injEq]
   exact Hg is vs ρ ρ1 hl h
  ·exact nqa hp
theorem Kk:∀ (is:List Nat) (vs:List AV) (ρ:Rho) (j:Nat),j ∉ is->setMany ρ is vs j=ρ j
 | [],vs,ρ,j,_=>by cases vs <;> rfl
 | i :: is,[],ρ,j,_=>rfl
 | i :: is,v :: vs,ρ,j,h=>by
  exact(Kk is vs _ j (by simp at h;exact h.2)).trans (Rho.set_ne (by simp at h;exact h.1))
theorem Tgt.put_off {H:AH}{tg:Tgt}{v:AV}{ρ ρ':Rho}(hp:tg.put H v ρ=some ρ')(j:Nat)(hj:j ∉ tg.idx):ρ' j=ρ j:=by
 cases tg with
 | one i=>simp only [Tgt.put,Option.some.injEq]at hp;subst hp;exact Rho.set_ne (by simpa [Tgt.idx]using hj)
 | many is =>
  simp only [Tgt.put]at hp
  set_option tactic.hygienic true in split at hp
  ·refine Bj hp ?_;clear hp;intro q1 hp
   obtain rfl:=Option.some.inj hp;exact Kk _ _ _ _ hj
  ·exact nqa hp
structure Made (C:Cx) (O:Addr->Prop) (G:Gh) (o:FObj) (s:Shared) (D:Addr) (g:List Addr) (s':Shared):Prop where
 obj:ORelF C s'.heap (fun b=>O b\/b=D\/b ∈ g) G o D g
 nd:(D :: g).Nodup
 new:∀ b,b=D\/b ∈ g->s.heap.get? b=none/\∃ ob,s'.heap.get? b=some ob
 kp:Kp s s'
section
variable {C:Cx} {k:Nat} {sc sc':Sc}
theorem Oi {P Q:Prop}(h:P):if true=true then P else Q:=h
theorem Oj {P Q:Prop}(h:Q):if false=true then P else Q:=h
theorem Fr {tg:Tgt}{c:CF}{e:EF}{H:AH}{ρ ρ1:Rho}(h:∀ j,j ∉ tg.idx->ρ1 j=ρ j):∀ {vs:List AV} {o o':FObj},Cf tg c e ρ H o vs=some o'->Cf tg c e ρ1 H o vs=some o'
 | [],o,o',q=>q
 | v :: vs,o,o',q=>by
  rw[jK]at q ⊢
  cases p:tg.put H v ρ with
  | none=>rw[p]at q;exact nqa q
  | some ρ' =>
   rw[p]at q
   rw[Tgt.put_agree h p]
   dsimp only at q ⊢
   cases hc:c ρ' H with
   | none=>rw[hc]at q;exact nqa q
   | some b =>
    rw[hc]at q
    cases b with
    | true =>
     dsimp only at q ⊢
     cases he:e ρ' H o with
     | none=>rw[he]at q;exact nqa q
     | some o2=>rw[he]at q;exact Fr h q
    | false=>exact Fr h q
end
end Mine
end
section
namespace Mine
noncomputable def Nl (e0:Expr) (d:Nat) (target:Expr) (ifs:List Expr) (p:Pos) (tail:Value->Env->Sem Unit):Prop:=∀ it acc env,compTurn e0 d it acc env=(do
   standAt p
   match <- pyNext it with
   | none=>pure (.done .next)
   | some v =>
    letOwnedTupleGo target it v
    assign target env v
    let mut ok:=true
    for c in ifs do
     if ok then ok <- isTrue c env (eval c env)
    if ok then tail acc env
    again (.compLoop e0 d it acc env))
noncomputable def cC (e0:Expr):Prop:=(∀ (A:Around) (d:Nat) (it acc:Value) (env:Env),A.under (.compLoop e0 d it acc env)=A)/\∀ (prog:Program) (w:World) (d:Nat) (it acc:Value) (env:Env),(model prog w).den (.compLoop e0 d it acc env)=(compTurn e0 d it acc env).onRaise (fun x=>do noteFrame x env;theTreesLotGoes x)
theorem Nj {prog:Program}{w:World}{A:Around}{s:Shared}{R:Result->Shared->Prop}{e0:Expr}{target:Expr}{d:Nat}{ifs:List Expr}{p:Pos}{tail:Value->Env->Sem Unit}{it acc:Value}{env:Env}(tn:Nl e0 d target ifs p tail)(hden:cC e0)(I:Nat->Shared->Prop)
  (turn:∀ n s,I n s->wpAny (model prog w) A (pyNext it) (fun r s₁=>match r with
   | none=>R (.ok .next) s₁
   | some v=>wpAny (model prog w) A (letOwnedTupleGo target it v) (fun z0 s₁'=>wpAny (model prog w) A (assign target env v) (fun z0 s₂ =>
     wpAny (model prog w) A (forIn ifs true fun c r=>if r=true then do let ok <- isTrue c env (eval c env);pure (ForInStep.yield ok) else pure (ForInStep.yield r)) (fun ok s₃ =>
      if ok=true then wpAny (model prog w) A (tail acc env) (fun z0 s₅=>∃ m,m < n/\I m s₅) (fun z0 z0=>False) s₃
      else ∃ m,m < n/\I m s₃) (fun z0 z0=>False) s₂) (fun z0 z0=>False) s₁') (fun z0 z0=>False) s₁) (fun z0 z0=>False) s)
  (n:Nat) (h:I n s):codeAny (model prog w) A (.compLoop e0 d it acc env) R s:=by
 refine codeAny_loop rfl I (fun n s hI=>?_) n h
 rw[hden.2,hden.1]
 refine wpAny_noted ?_
 rw[tn it acc env]
 refine wpAny_bind (wpAny_standAt (wpAny_bind (wpAny_mono (turn n s hI) (fun r s₁ h₁=>?_) fun z0 z0 h'=>h'.elim)))
 cases r with
 | none=>exact wpAny_pure h₁
 | some v =>
  refine wpAny_bind (wpAny_mono h₁ (fun z0 s₁' h₁'=>?_) fun z0 z0 h'=>h'.elim)
  refine wpAny_bind (wpAny_mono h₁' (fun z0 s₂ h₂=>wpAny_bind (wpAny_mono h₂ (fun ok s₃ h₃=>?_) fun z0 z0 h'=>h'.elim)) fun z0 z0 h'=>h'.elim)
  cases ok with
  | false=>exact wpAny_pure ⟨rfl,h₃⟩
  | true=>exact wpAny_bind (wpAny_mono h₃ (fun z0 s₅ h₅=>wpAny_pure ⟨rfl,h₅⟩) fun z0 z0 h'=>h'.elim)
section
variable {C:Cx} {A:Around} {sc:Sc} {env:Env} {ρ:Rho} {G:Gh}
theorem WF.noseq {O:Addr->Prop}{h:Heap}(F:WF C A sc env ρ G O h){b:Addr}{o:Obj}{xs n}(e:h.get? b=some o)(hd:o.data = .seq xs n):¬ fr env b:=by
 rintro(rfl | ⟨x,hx⟩)
 ·obtain⟨m,hm,_⟩:=F.ns;exact Cy hm o e xs n hd
 ·obtain⟨ov,hc⟩:=F.cli x b hx;exact Dg hc o e xs n hd
theorem WF.frlive {O:Addr->Prop}{h:Heap}(F:WF C A sc env ρ G O h){b:Addr}(hb:fr env b):∃ o,h.get? b=some o:=by
 rcases hb with rfl | ⟨x,hx⟩
 ·obtain⟨m,⟨o,_,_,e,_⟩,_⟩:=F.ns;exact⟨o,e⟩
 ·obtain⟨ov,o,e,_⟩:=F.cli x b hx;exact⟨o,e⟩
end
section
variable (C:Cx) (k:Nat) (sc':Sc)
noncomputable abbrev Og (O:Addr->Prop) (g:List Addr):Addr->Prop:=fun b=>O b\/b ∈ g
inductive PostT (A:Around) (env:Env) (s:Shared) (ρ:Rho) (H:AH) (G:Gh) (O:Addr->Prop) (D:Addr) (g:List Addr) (is:List Nat) (o':FObj) (s':Shared):Prop
 | mk (g':List Addr) (F:WF C A sc' env ρ G (Og O g') s'.heap) (R:Rel C H G (Og O g') s'.heap) (ob:ORelF C s'.heap (Og O g') G o' D g') (nd:(D :: g').Nodup) (new:∀ b ∈ g',b ∈ g\/s.heap.get? b=none) (old:∀ b ∈ g,b ∈ g')
   (same:∃ h' tk,s' = { s with heap:=h',toks:=tk }) (kk:∀ b ob,b ≠ D->¬ ta sc' env is b->s.heap.get? b=some ob->s'.heap.get? b=some ob)
noncomputable def TailR (tail:Value->Env->Sem Unit) (is:List Nat) (e:EF):Prop :=
 ∀ (A:Around) (env:Env) (s:Shared) (ρ:Rho) (H:AH) (G:Gh) (O:Addr->Prop) (D:Addr) (g:List Addr) (o o':FObj),AOk k A->WF C A sc' env ρ G O s.heap->Rel C H G O s.heap->¬ own H G D->O D->(∀ b ∈ g,O b/\¬ own H G b)->C.h0.get? D=none->¬ frA A D->ORelF C s.heap O G o D g->(D :: g).Nodup->(∀ j ∈ is,ρ j = .undef)->e ρ H o=some o' ->
  wpAny (model C.prog C.w) A (tail (.ref D) env) (fun z0 s'=>PostT C sc' A env s ρ H G O D g is o' s') (fun z0 z0=>False) s
end
section
variable {C:Cx} {k:Nat} {sc sc':Sc}
theorem TailR.elt {elt:Expr}{e:EF}(he:EltR C k sc' elt e):TailR C k sc' (fun acc env=>do let z0 <- call (.builtin "list.append") [acc,<- eval elt env]) [] e:=by
 intro A env s ρ H G O D g o o' hA F R hDo hDO hg hDb hDA ho hnd hun heo
 refine wpAny_bind (wpAny_mono (he A env s ρ H G O D g o o' hA F R hDo hDO hg hDb ho hnd heo) (fun x s4 h4=>wpAny_bind (wpAny_mono h4 (fun z0 s5 h5=>wpAny_pure ?_) fun z0 z0 x=>x)) fun z0 z0 x=>x)
 obtain⟨g',hob,hnd',hnew,hold,hlive,hsame,hkk⟩:=h5
 have hnf:¬ fr env D:=fun q=>by
  rcases q with rfl | ⟨x,hx⟩
  ·exact F.nol hDO
  ·exact F.noc x D hx hDO
 have S:Shift C (· = D) O (Og O g') s.heap s5.heap:=by
  refine⟨fun b hb=>.inl hb,fun b ob hb e=>⟨hkk b ob hb e,fun hq=>?_⟩,fun b hb=>hb ▸ hDb,fun b ob xs n hb e hd=>hb ▸ hDO,fun b hb=>?_⟩
  ·rcases hq with q | q
   ·exact q
   ·rcases hnew b q with q' | q'
    ·exact(hg b q').1
    ·rw[q']at e;exact nqa e
  ·by_cases hbD:b=D
   ·exact hlive b (.inl hbD)
   ·rcases hb with q | q
    ·obtain⟨ob,e⟩:=R.live b q;exact⟨ob,hkk b ob hbD e⟩
    ·exact hlive b (.inr q)
 exact⟨g',S.wf F (fun b hb=>hb ▸ hnf) (fun b hb=>hb ▸ hDA),S.rel R (fun b hb=>hb ▸ hDo),hob,hnd',hnew,hold,hsame,fun b ob hb z0 e=>hkk b ob hb e⟩
inductive CK (C:Cx) (A:Around) (sc':Sc) (cenv:Env) (ti all:List Nat) (ρ:Rho) (H:AH) (G:Gh) (O:Addr->Prop) (D:Addr) (sB:Shared) (g0 wr:List Addr) (oi:FObj) (t:Shared):Prop
 | mk (ρi:Rho) (g:List Addr) (same:∃ h' tk,t={ sB with heap:=h',toks:=tk }) (kp:∀ b ob,b ∉ wr->b ≠ D->¬ ta sc' cenv all b->sB.heap.get? b=some ob->t.heap.get? b=some ob) (F:WF C A sc' cenv ρi G (Og O g) t.heap) (ag:∀ j,j ∉ ti->ρi j=ρ j)
   (R:Rel C H G (Og O g) t.heap) (ob:ORelF C t.heap (Og O g) G oi D g) (nd:(D :: g).Nodup) (hg:∀ b ∈ g,b ∈ g0\/sB.heap.get? b=none) (old:∀ b ∈ g0,b ∈ g)
theorem ItemR.wide {hB h h':Heap}{O O':Addr->Prop}{G:Gh}{u:AV}{v:Value}(r:ItemR hB O G h h' u v)(hk:∀ b o xs n,hB.get? b=some o->o.data = .seq xs n->¬ O b->h'.get? b=some o/\¬ O' b)(hO:∀ b,O' b->h.get? b ≠ none):VRel h' O' G u v:=by
 rcases r with r | ⟨T,n,x,y,a,b,rfl,rfl,hT,hT',ra,rb⟩
 ·exact r.wide hk
 ·exact⟨T,n,[x,y],rfl,hT',fun q=>hO T q hT,by rw[An];exact(by decide:2<=1048576),.cons (ra.wide hk) (.one (rb.wide hk))⟩
theorem ItemR.mono {hB h h':Heap}{O O':Addr->Prop}{G G':Gh}{u:AV}{v:Value}(r:ItemR hB O G h h' u v)(hk:∀ b o xs n,hB.get? b=some o->o.data = .seq xs n->¬ O b->h'.get? b=some o/\¬ O' b)(hO:∀ b,O' b->h.get? b ≠ none)(hs:u.sto=true):VRel h' O' G' u v:=by
 rcases r with r | ⟨T,n,x,y,a,b,rfl,rfl,hT,hT',ra,rb⟩
 ·exact r.mono hk hs
 ·have h1:AV.stos [a,b]=true:=hs
  simp only [AV.stos,Bool.and_eq_true]at h1
  exact⟨T,n,[x,y],rfl,hT',fun q=>hO T q hT,by rw[An];exact(by decide:2<=1048576),.cons (ra.mono hk h1.1) (.one (rb.mono hk h1.2.1))⟩
structure Wk (C:Cx) (A:Around) (TG:Expr->Prop) (cenv:Env) (sB:Shared) (O:Addr->Prop) (G:Gh) (D:Addr) (vs:List AV) (I:Addr) (fp wr:List Addr) (P:Nat->Value->Heap->Heap->Prop) (St:Nat->Heap->Prop):Prop where
 W:Wlk C.prog C.w A TG I fp wr vs.length P St
 st:St 0 sB.heap
 wl:∀ i h,St i h->∀ b ∈ wr,∃ o vs,h.get? b=some o/\o.data = .fields vs
 item:∀ i x h h',P i x h h'->∃ v,vs[i]? = some v/\ItemR sB.heap O G h h' v x
 wrO:∀ b ∈ wr,¬ O b
 wrf:∀ b ∈ wr,¬ fr cenv b
 wrA:∀ b ∈ wr,¬ frA A b
 wrb:∀ b ∈ wr,C.h0.get? b=none
 fpt:∀ b ∈ fp,¬ fr cenv b/\b ≠ D
theorem Xk {elt:Expr}{gens:List Comprehension}{scope:Scope}{pos:Pos}{target:Expr}{d:Nat}{ifs:List Expr}{p:Pos}{tail:Value->Env->Sem Unit}{tg:Tgt}{is all:List Nat}{c:CF}{e:EF}(tn:Nl (.ListComp elt gens scope pos) d target ifs p tail)(ht:AssignR C sc' target tg)(hc:TestsE C k sc' ifs c)(hT:TailR C k sc' tail is e)(hdj:∀ j ∈ is,j ∉ tg.idx)
  (ha1:∀ b env,ta sc' env tg.idx b->ta sc' env all b) (ha2:∀ b env,ta sc' env is b->ta sc' env all b)
  {A:Around} {cenv:Env} {sB:Shared} {ρ:Rho} {H:AH} {G:Gh} {O:Addr->Prop} {D I:Addr} {g0 fp wr:List Addr} {vs:List AV} {P:Nat->Value->Heap->Heap->Prop} {St:Nat->Heap->Prop} {oi0 o:FObj} {R:Result->Shared->Prop} {TG:Expr->Prop} (hTG:TG target)
  (hA:AOk k A) (K:Wk C A TG cenv sB O G D vs I fp wr P St) (F0:WF C A sc' cenv ρ G O sB.heap) (R0:Rel C H G O sB.heap) (hDO:O D) (hDo:¬ own H G D) (hDb:C.h0.get? D=none) (hDA:¬ frA A D)
  (hg0:∀ b ∈ g0,O b/\¬ own H G b) (ob0:ORelF C sB.heap O G oi0 D g0) (nd0:(D :: g0).Nodup) (hun:∀ j ∈ is,ρ j = .undef) (hgo0:Cf tg c e ρ H oi0 vs=some o)
  (hR:∀ t,CK C A sc' cenv tg.idx all ρ H G O D sB g0 wr o t->R (.ok .next) t):codeAny (model C.prog C.w) A (.compLoop (.ListComp elt gens scope pos) d (.ref I) (.ref D) cenv) R sB:=by
 have eOg:∀ g,(∀ b ∈ g,O b)->Og O g=O:=fun g hg=>by
  funext b;apply propext;exact⟨fun q=>q.elim id (hg b),.inl⟩
 have wns:∀ i h,St i h->∀ b ∈ wr,∀ o,h.get? b=some o->∀ xs n,o.data ≠ .seq xs n:=fun i h st b hb o e xs n q=>by
  obtain⟨o',vs,e',hd⟩:=K.wl i h st b hb
  rw[e']at e;obtain rfl:=Option.some.inj e;rw[hd]at q;cases q
 have wrB:∀ b ∈ wr,sB.heap.get? b ≠ none:=fun b hb q=>by
  obtain⟨o',vs,e',hd⟩:=K.wl 0 _ K.st b hb
  rw[q]at e';exact nqa e'
 have ownB:∀ b,own H G b->sB.heap.get? b ≠ none:=fun b hb q=>by
  obtain⟨ob,e⟩:=R0.live b (R0.sub b hb)
  rw[q]at e;exact nqa e
 have gO:∀ g:List Addr,(∀ b ∈ g,b ∈ g0\/sB.heap.get? b=none)->∀ b ∈ g,b ∉ wr/\¬ own H G b:=fun g hg b hb=>by
  rcases hg b hb with q | q
  ·exact⟨fun z=>K.wrO b z (hg0 b q).1,(hg0 b q).2⟩
  ·exact⟨fun z=>wrB b z q,fun z=>ownB b z q⟩
 have hshift:∀ i (g:List Addr) (t:Shared) h',St i t.heap->(∀ b ∈ g,b ∈ g0\/sB.heap.get? b=none)->Rel C H G (Og O g) t.heap->(∀ b ob,b ∉ wr->t.heap.get? b=some ob->h'.get? b=some ob)->Shift C (· ∈ wr) (Og O g) (Og O g) t.heap h':=by
  intro i g t h' st hg Rt hk
  refine⟨fun z0 x=>x,fun b ob hb e=>⟨hk b ob hb e,fun x=>x⟩,fun b hb=>K.wrb b hb,fun b ob xs n hb e hd=>absurd hd (wns i _ st b hb ob e xs n),fun b hb=>?_⟩
  obtain⟨ob,e⟩:=Rt.live b hb
  exact⟨ob,hk b ob (fun q=>hb.elim (K.wrO b q) fun z=>(gO g hg b z).1 q) e⟩
 have hwrown:∀ b,b ∈ wr->¬ own H G b:=fun b hb q=>K.wrO b hb (R0.sub b q)
 have hwrD:∀ g:List Addr,(∀ b ∈ g,b ∈ g0\/sB.heap.get? b=none)->∀ b,b=D\/b ∈ g->b ∉ wr:=fun g hg b hb q=>hb.elim (fun z=>K.wrO b q (z ▸ hDO)) fun z=>(gO g hg b z).1 q
 refine Nj tn ⟨fun z0 z0 z0 z0 z0=>rfl,fun z0 z0 z0 z0 z0 z0=>rfl⟩ (fun n t=>∃ i oi,n=vs.length - i/\i<=vs.length/\CK C A sc' cenv tg.idx all ρ H G O D sB g0 wr oi t/\St i t.heap/\Cf tg c e ρ H oi (vs.drop i)=some o) (fun n t hI=>?_) vs.length ⟨0,oi0,by simp,by simp,⟨ρ,g0,⟨_,_,rfl⟩,fun b ob z0 z0 z0 e=>e,by rw[eOg g0 fun b hb=>(hg0 b hb).1];exact F0,fun z0 z0=>rfl,by rw[eOg g0 fun b hb=>(hg0 b hb).1];exact R0,by rw[eOg g0 fun b hb=>(hg0 b hb).1];exact ob0,nd0,fun b hb=>.inl hb,fun b hb=>hb⟩,K.st,by simpa using hgo0⟩
 refine Ag fun PP ret=>?_
 obtain⟨i,oi,rfl,hi,⟨ρi,g,⟨h',tk,rfl⟩,hkp,Fi,hag,Ri,hoi,hnd,hg,hold⟩,st,hgo⟩:=hI
 rcases Nat.lt_or_ge i vs.length with hlt | hge
 ·refine ret (K.W.step i _ target _ _ hTG hlt st fun v s1 hgo2=>?_)
  refine hgo2 _ _ fun h5 tk5 hP st5 hk5=>?_
  clear hgo2
  dsimp only at hk5 hP ⊢
  refine Ag fun PP ret=>?_
  have S5:=hshift i g { sB with heap:=h',toks:=tk } h5 st hg Ri hk5
  have F5:=S5.wf Fi K.wrf K.wrA
  have R5:=S5.rel Ri hwrown
  have ho5:=S5.objF hoi (hwrD g hg)
  obtain⟨u,hu,hru⟩:=K.item i v _ _ hP
  have hdrop:vs.drop i=u :: vs.drop (i + 1):=by
   obtain⟨hlt',e⟩:=List.getElem?_eq_some_iff.mp hu
   rw[List.drop_eq_getElem_cons hlt',e]
  rw[hdrop]at hgo
  replace hgo:(match tg.put H u ρ with
   | some ρ'=>match c ρ' H with
    | some true=>match e ρ' H oi with
     | some o'=>Cf tg c e ρ H o' (vs.drop (i + 1))
     | none=>none
    | some false=>Cf tg c e ρ H oi (vs.drop (i + 1))
    | none=>none
   | none=>none)=some o:=hgo
  have ru5:VRel h5 (Og O g) G u v:=hru.wide (fun b o' xs n e hd hb=>by
   have hbw:b ∉ wr:=fun q=>wns 0 _ K.st b q o' e xs n hd
   refine⟨hk5 b o' hbw (hkp b o' hbw (fun q=>hb (q ▸ hDO)) (fun q=>F0.noseq e hd (Bp q)) e),fun q=>q.elim hb fun z=>?_⟩
   rcases hg b z with q | q
   ·exact hb (hg0 b q).1
   ·rw[q]at e;exact nqa e) fun b hb q=>by
    obtain⟨ob,e⟩:=Ri.live b hb
    rw[q]at e;exact nqa e
  refine iZ hgo ?_;clear hgo;intro ρ' hput hgo
  have hput':=Tgt.put_agree (ρ1:=ρi) hag hput
  refine ret (ht k A cenv { sB with heap:=h5,toks:=tk5 } ρi ρ' H G (Og O g) u v _ hA F5 R5 ru5 hput' fun s6 s7 k6 fs7 F7=>?_)
  refine Ag fun PP ret=>?_
  have F6:=F5.keep k6.k
  have R6:=R5.keep k6.k
  have fs7':FS (fr cenv) s6 s7:=fs7.mono fun z0=>Bp
  have R7:=R6.fs F6 fs7'
  have k57:∀ b ob,¬ ta sc' cenv all b->h5.get? b=some ob->s7.heap.get? b=some ob:=fun b ob hb e=>fs7.k b ob (fun q=>hb (ha1 b cenv q)) (k6.k b ob e)
  have noframe:∀ b,b=D\/b ∈ g->¬ fr cenv b:=by
   intro b hb q
   have hO:Og O g b:=hb.elim (fun x=>.inl (x ▸ hDO)) .inr
   rcases q with rfl | ⟨x,hx⟩
   ·exact F6.nol hO
   ·exact F6.noc x b hx hO
  have ho7:ORelF C s7.heap (Og O g) G oi D g:=by
   have hsq:=VRel.frm (env:=cenv) (h:=s6.heap) (h':=s7.heap) (by obtain⟨m,hm,_⟩:=F6.ns;exact Cy hm) (fun z d hz=>let ⟨ov,q⟩:=F6.cli z d hz;Dg q) fs7'.k
   have ho6:ORelF C s6.heap (Og O g) G oi D g:=ho5.mono (fun b ob xs n e z0 hb=>⟨k6.k b ob e,hb⟩) fun b ob z0 e=>k6.k b ob e
   exact ho6.mono (fun b ob xs n e hd hb=>⟨hsq b ob xs n e hd,hb⟩) fun b ob hb e=>fs7'.k b ob (noframe b hb) e
  have st7:St (i + 1) s7.heap:=K.W.frame _ _ _ st5 fun b hb ob e=>k57 b ob (fun q=>(K.fpt b hb).1 (Bp q)) e
  have hkp7:∀ b ob,b ∉ wr->b ≠ D->¬ ta sc' cenv all b->sB.heap.get? b=some ob->s7.heap.get? b=some ob:=fun b ob hb hb2 hb3 e=>k57 b ob hb3 (hk5 b ob hb (hkp b ob hb hb2 hb3 e))
  have same7:∃ h' tk,s7={ sB with heap:=h',toks:=tk }:=Az (Az ⟨h5,tk5,rfl⟩ k6.same) fs7.same
  have hag7:∀ j,j ∉ tg.idx->ρ' j=ρ j:=fun j hj=>Tgt.put_off hput j hj
  set_option tactic.hygienic true in split at hgo
  ·rename_i hcv
   refine ret (wpAny_mono (hc A cenv s7 ρ' H G (Og O g) true hA F7 R7 hcv) (fun okb s8 h8=>?_) fun z0 z0 x=>x)
   obtain⟨rfl,k8⟩:=h8
   refine Oi ?_
   refine Ag fun PP ret=>?_
   refine jA hgo ?_;clear hgo;intro o' heo hgo
   have F8:=F7.keep k8.k
   have R8:=R7.keep k8.k
   have ho8:ORelF C s8.heap (Og O g) G oi D g:=ho7.mono (fun b ob xs n e z0 hb=>⟨k8.k b ob e,hb⟩) fun b ob z0 e=>k8.k b ob e
   refine ret (wpAny_mono (hT A cenv s8 ρ' H G (Og O g) D g oi o' hA F8 R8 hDo (.inl hDO) (fun b hb=>⟨.inr hb,(gO g hg b hb).2⟩) hDb hDA ho8 hnd (fun j hj=>(hag7 j (hdj j hj)).trans (hun j hj)) heo) (fun z0 s10 h10=>?_) fun z0 z0 x=>x)
   refine Ag fun PP ret=>?_
   obtain⟨g',F10,R10,hob,hnd',hnew,hold',hsame,hkk⟩:=h10
   have eO:Og (Og O g) g' = Og O g':=by
    funext b;apply propext
    exact⟨fun q=>q.elim (fun q=>q.elim .inl fun z=>.inr (hold' b z)) .inr,fun q=>q.elim (fun z=>.inl (.inl z)) .inr⟩
   rw[eO]at F10 R10 hob
   refine ret ⟨vs.length - (i + 1),by exact Ar.r193 hlt,i + 1,o',rfl,hlt,⟨ρ',g',Az (Az same7 k8.same) hsame,fun b ob hb hb2 hb3 e=>hkk b ob hb2 (fun q=>hb3 (ha2 b cenv q)) (k8.k b ob (hkp7 b ob hb hb2 hb3 e)),F10,hag7,R10,hob,hnd',fun b hb=>?_,fun b hb=>hold' b (hold b hb)⟩,K.W.frame _ _ _ st7 fun b hb ob e=>hkk b ob (K.fpt b hb).2 (fun q=>(K.fpt b hb).1 (Bp q)) (k8.k b ob e),hgo⟩
   rcases hnew b hb with q | q
   ·exact hg b q
   ·by_cases hw:b ∈ wr
    ·obtain⟨ob,_,e,_⟩:=K.wl _ _ st7 b hw
     rw[k8.k b ob e]at q;exact nqb q
    ·cases e:sB.heap.get? b with
     | none=>exact .inr rfl
     | some ob =>
      exfalso
      by_cases hd:b=D
      ·obtain⟨ob',e'⟩:=R8.live D (.inl hDO)
       rw[hd,e']at q;exact nqb q
      ·by_cases hta:ta sc' cenv all b
       ·obtain⟨ob',e'⟩:=F8.frlive (Bp hta)
        rw[e']at q;exact nqb q
       ·rw[k8.k b ob (hkp7 b ob hw hd hta e)]at q;exact nqb q
  ·rename_i hcv
   refine ret (wpAny_mono (hc A cenv s7 ρ' H G (Og O g) false hA F7 R7 hcv) (fun okb s8 h8=>?_) fun z0 z0 x=>x)
   obtain⟨rfl,k8⟩:=h8
   refine Oj ?_
   exact⟨vs.length - (i + 1),by exact Ar.r193 hlt,i + 1,oi,rfl,hlt,⟨ρ',g,Az same7 k8.same,fun b ob hb hb2 hb3 e=>k8.k b ob (hkp7 b ob hb hb2 hb3 e),F7.keep k8.k,hag7,R7.keep k8.k,ho7.mono (fun b ob xs n e z0 hb=>⟨k8.k b ob e,hb⟩) fun b ob z0 e=>k8.k b ob e,hnd,hg,hold⟩,K.W.frame _ _ _ st7 fun b hb ob e=>k8.k b ob e,hgo⟩
  ·exact nqa hgo
 ·have:i=vs.length:=Nat.le_antisymm hi hge
  rw[this,List.drop_length]at hgo
  rw[this]at st
  rw[Option.some.inj hgo]at hoi
  refine ret (this ▸ K.W.done _ _ _ st fun h5 tk5 hk5=>?_)
  have S5:=hshift _ g { sB with heap:=h',toks:=tk } h5 st hg Ri hk5
  exact hR _ ⟨ρi,g,⟨_,_,rfl⟩,fun b ob hb hb2 hb3 e=>hk5 b ob hb (hkp b ob hb hb2 hb3 e),S5.wf Fi K.wrf K.wrA,hag,S5.rel Ri hwrown,S5.objF hoi (hwrD g hg),hnd,hg,hold⟩
end
end Mine
end
section
namespace Mine
noncomputable def und (is:List Nat) (ρ:Rho):Rho:=fun j=>if j ∈ is then .undef else ρ j
noncomputable def CompR (C:Cx) (k:Nat) (sc:Sc) (E:Expr) (scope:Scope) (iter:Expr) (f:Rho->AH->Option FObj):Prop :=
 ∀ (p2:Pos) (A:Around) (env:Env) (s:Shared) (ρ:Rho) (H:AH) (G:Gh) (O:Addr->Prop) (o:FObj),AOk k A->WF C A sc env ρ G O s.heap->Rel C H G O s.heap->f ρ H=some o->∀ (use:Option (Value->Sem Unit)) (Q:Value->Shared->Prop),
  (∀ D g L m s',Made C O G o s D g s'->s'.heap.Ns L m->s.heap.get? L=none->L ≠ D->L ∉ g->compPost (model C.prog C.w) A (fun z0 z0=>False) use Q (.ref D) L (.ok .next) s') ->
  wpAny (model C.prog C.w) A (comprehension E scope env p2 (newList []) false (eval iter env) use) Q (fun z0 z0=>False) s
section
variable {C:Cx} {k:Nat} {sc sc':Sc}
structure CSet (C:Cx) (A:Around) (TG:Expr->Prop) (sc':Sc) (cenv:Env) (s sB:Shared) (ρ:Rho) (H:AH) (G:Gh) (O:Addr->Prop) (D L I:Addr) (is:List Nat) (vs:List AV) (fp wr cs:List Addr) (P:Nat->Value->Heap->Heap->Prop) (St:Nat->Heap->Prop) (Z:Heap->Addr->Prop) (o0:Obj):Prop where
 K:Wk C A TG cenv sB (fun b=>O b\/b=D) G D vs I fp wr P St
 F:WF C A sc' cenv (und is ρ) G (fun b=>O b\/b=D) sB.heap
 R:Rel C H G (fun b=>O b\/b=D) sB.heap
 k:Kp s sB
 hD:sB.heap.get? D=some o0
 nD:s.heap.get? D=none
 nL:s.heap.get? L=none
 LD:L ≠ D
 lo:cenv.locals=L
 nta:∀ b,ta sc' cenv is b->s.heap.get? b=none
 nwr:∀ b ∈ wr,s.heap.get? b=none
 hDo:¬ own H G D
 hDb:C.h0.get? D=none
 hDA:¬ frA A D
 hDs:(D == sysModules)=false
 cont:∀ b ∈ fp,b ∈ wr\/b ∈ cs
 hcs:∀ b ∈ cs,∃ h2:Heap,(∀ x ob,h2.get? x=some ob->sB.heap.get? x=some ob)/\Z h2 b
theorem Rg {TG:Expr->Prop}{E target iter:Expr}{ifs:List Expr}{gs:List Comprehension}{scope:Scope}{p2:Pos}{newAcc:Sem Value}{o0:Obj}{is:List Nat}{A:Around}{env:Env}{s:Shared}{ρ:Rho}{H:AH}{G:Gh}{O:Addr->Prop}{vs:List AV}{Z:Heap->Addr->Prop}{use:Option (Value->Sem Unit)}{Q:Value->Shared->Prop}(F:WF C A sc env ρ G O s.heap)(R:Rel C H G O s.heap)
  (hit:wpAny (model C.prog C.w) A (eval iter env) (fun x s1=>wpAny (model C.prog C.w) A (pyIter x) (PostI C A TG s O G vs Z) (fun z0 z0=>False) s1) (fun z0 z0=>False) s) (hZ:∀ h b,Z h b->∃ v,Kg h H G O b\/(H b ≠ none/\v=AV.ref b)\/∃ a i,H a ≠ none/\(G a)[i]? = some b/\v=AV.row a i)
  (hsc:CompSc sc scope sc' is) (hsi:∀ env x,foldedSetIterable iter env x=pure x)
  (hcl:clausesOf E=⟨target,iter,ifs,0⟩ :: gs) (hacc:∀ (s:Shared) (Q:Value->Shared->Prop),Q (.ref s.heap.objs.size) { s with heap:=s.heap.push o0 }->wpAny (model C.prog C.w) A newAcc Q (fun z0 z0=>False) s) (hof:o0.isFreed=false)
  (hstart:∀ {s:Shared} {R:Result->Shared->Prop} {it acc:Value} {env:Env},codeAny (model C.prog C.w) A (.compLoop E 0 it acc env) R s->wpAny (model C.prog C.w) A (pyIter it) (fun it' s'=>codeAny (model C.prog C.w) A (.compLoop E 0 it' acc env) R s') (notedBy (model C.prog C.w) A env fun x s'=>R (.error x) s') s->codeAny (model C.prog C.w) A (.compStart E 0 it acc env) R s)
  (h:∀ D L I cenv sB fp wr cs P St,CSet C A TG sc' cenv s sB ρ H G O D L I is vs fp wr cs P St Z o0->codeAny (model C.prog C.w) A (.compLoop E 0 (.ref I) (.ref D) cenv) (compPost (model C.prog C.w) A (fun z0 z0=>False) use Q (.ref D) L) sB) :
  wpAny (model C.prog C.w) A (comprehension E scope env p2 newAcc false (eval iter env) use) Q (fun z0 z0=>False) s:=by
 have hclo:closureFor scope env=pure (Ci env scope.names []):=Nr fun x hx=>by
  obtain⟨h1,i,h2⟩:=hsc.free x hx
  exact F.celof h1 h2
 refine wpAny_comprehension_free (g:=⟨target,iter,ifs,0⟩) (gs:=gs) hcl (hsi env) hclo hsc.kind (fun x hx hl=>by rw[<- hl];exact Fl hsc.nd hx) ?_
 refine wpAny_mono hit (fun xv s1 h1=>?_) fun z0 z0 x=>x
 refine wpAny_mono h1 (fun it s2 h2=>?_) fun z0 z0 x=>x
 obtain⟨k2,hz,I,fp,wr,cs,P,St,rfl,ok,hcs⟩:=h2
 have F2:=F.keep k2.k
 have R2:=R.keep k2.k
 refine hacc _ _ ?_
 generalize hD:s2.heap.objs.size=D
 have hh3:∃ h3:Heap,h3=s2.heap.push o0:=⟨_,rfl⟩
 obtain⟨h3,hh3⟩:=hh3
 rw[<- hh3]
 have hsz3:h3.objs.size=D + 1:=by rw[hh3,Heap.size_push,hD]
 have k3:∀ b ob,s2.heap.get? b=some ob->h3.get? b=some ob:=fun b ob e=>by rw[hh3];exact Heap.get?_push_of_some _ e
 have hD3:h3.get? D=some o0:=by rw[hh3,<- hD];exact Heap.get?_push_size _ hof
 have none2:∀ b,D<=b->s2.heap.get? b=none:=fun b hb=>by
  cases e:s2.heap.get? b with
  | none=>rfl
  | some o'=>exact absurd (Heap.lt_size e) (Nat.not_lt.mpr (hD ▸ hb))
 have none1:∀ b,s2.heap.get? b=none->s.heap.get? b=none:=fun b hb=>by
  cases e:s.heap.get? b with
  | none=>rfl
  | some o'=>rw[k2.k b o' e]at hb;exact nqb hb
 simp only [newFunctionEnv,Option.isSome_some,if_true]
 refine wpAny_bind (wpAny_alloc ?_)
 refine wpAny_bind (wpAny_layCells _ (fun name kind cells=>by cases hkc:kind == NameKind.cell <;> simp[hkc]) _ _ _ _ ?_)
 rw[List.forIn_nil]
 refine wpAny_bind (wpAny_pure (wpAny_pure ?_))
 have okc:=cellsFrom_ok scope.names (h3.push { cls:=.type "dict",data:=.dict #[] }) (h3.objs.size + 1) [] ⟨fun z0 z0 hm=>(nomatch hm),List.Pairwise.nil⟩ (by rw[Heap.size_push];exact Nat.le_refl _)
 rw[Heap.size_push]at okc
 dsimp only
 rw[Heap.size_push]
 generalize hL:h3.objs.size=L at okc ⊢
 have hLD:L=D + 1:=by rw[<- hL];exact hsz3
 generalize hh4:pushCells (h3.push { cls:=.type "dict",data:=.dict #[] }) scope.names=h4 at okc ⊢
 have k4:∀ b ob,h3.get? b=some ob->h4.get? b=some ob:=fun b ob e=>by rw[<- hh4];exact pushCells_keeps _ _ b ob (Heap.get?_push_of_some _ e)
 have k24:∀ b ob,s2.heap.get? b=some ob->h4.get? b=some ob:=fun b ob e=>k4 b ob (k3 b ob e)
 have nsL:h4.Ns L fun z0=>none:=by
  rw[<- hh4,<- hL];exact(Heap.Ns.new h3 (.type "dict")).keeps (pushCells_keeps _ _)
 refine(?_:codeAny _ _ (.compStart _ 0 _ _ (Gz scope env L)) _ _)
 generalize hcenv:Gz scope env L=cenv
 have hcl:cenv.locals=L:=by rw[<- hcenv];rfl
 let O1:Addr->Prop:=fun b=>O b\/b=D
 have hOlt:∀ b,O b->∃ ob,s2.heap.get? b=some ob:=fun b hb=>let ⟨ob,e⟩:=R2.live b hb;⟨ob,e⟩
 have O1n:∀ b ob,s2.heap.get? b=some ob->O1 b->O b:=by
  intro b ob e hb
  rcases hb with q | q
  ·exact q
  ·rw[q,none2 D (Nat.le_refl _)]at e;exact nqa e
 have F4:WF C A sc' cenv (und (is) ρ) G O1 h4:=by
  have F3:WF C A sc env ρ G O1 h3:=F2.keepO (fun x i hx v r=>r.wide fun b o' xs n e hd hb=>⟨k3 b o' e,fun q=>hb (O1n b o' e q)⟩) k3 fun b ob e hb=>O1n b ob e hb
  rw[<- hcenv]
  rw[<- hL]at nsL okc ⊢
  refine eE F3 hsc (fun b hb=>?_) (fun b ob e=>?_) k4 nsL okc
  ·rcases hb with q | q
   ·obtain⟨ob,e⟩:=hOlt b q;exact Heap.lt_size (k3 b ob e)
   ·exact Heap.lt_size (q ▸ hD3)
  ·exact Heap.lt_size (k3 b ob (R2.base b ob e).1)
 have R4:Rel C H G O1 h4:=R2.keepO k24 (fun b hb=>.inl hb) (fun b ob e hb=>O1n b ob e hb) fun b hb=>by
  rcases hb with q | q
  ·obtain⟨ob,e⟩:=hOlt b q;exact⟨ob,k24 b ob e⟩
  ·exact⟨_,k4 _ _ (q ▸ hD3)⟩
 have hfr:∀ b,fr cenv b->s2.heap.get? b=none\/fr env b:=by
  intro b hb
  rcases hb with rfl | ⟨x,hx⟩
  ·left;exact none2 _ (by rw[hcl,hLD];exact Nat.le_succ _)
  ·rw[<- hcenv]at hx
   have hx':(x,b) ∈ cellsFrom (L + 1) scope.names (Ci env scope.names []):=hx
   rw[Ba]at hx'
   rcases List.mem_append.mp hx' with q | q
   ·left;refine none2 _ (Nat.le_trans ?_ (okc.empty x b q).2);rw[hLD];exact Ar.r203
   ·exact .inr (.inr ⟨x,PySem.mem_of_lookup (Bs env _ q).2⟩)
 have hta:∀ b,ta sc' cenv (is) b->s2.heap.get? b=none:=by
  intro b hb
  rcases hb with rfl | ⟨x,i,hx,hi,e⟩
  ·exact none2 _ (by rw[hcl,hLD];exact Nat.le_succ _)
  ·rw[<- hcenv]at e
   have e':(cellsFrom (L + 1) scope.names (Ci env scope.names [])).lookup x=some b:=e
   rw[Ba]at e'
   have hm:=PySem.mem_of_lookup e'
   rcases List.mem_append.mp hm with q | q
   ·refine none2 _ (Nat.le_trans ?_ (okc.empty x b q).2);rw[hLD];exact Ar.r203
   ·exfalso
    have hf:=Fl hsc.nd (Bs env _ q).1
    rcases hsc.vars x i hx with ⟨h1,_⟩ | ⟨_,_,_,h1⟩
    ·rcases h1 with h1 | h1 <;> (rw[hf]at h1;cases h1)
    ·exact h1 hi
 have hwr2:∀ b ∈ wr,s2.heap.get? b ≠ none:=fun b hb q=>by
  obtain⟨ob,e⟩:=(ok.new b hb).2
  rw[q]at e;exact nqa e
 have hfp2:∀ b ∈ fp,s2.heap.get? b ≠ none:=fun b hb q=>by
  rcases ok.cont b hb with h' | h'
  ·exact hwr2 b h' q
  ·obtain⟨ob,e⟩:=ok.csl b h';rw[q]at e;exact nqa e
 have hDo:¬ own H G D:=fun q=>by
  obtain⟨ob,e⟩:=hOlt D (R2.sub D q)
  rw[none2 D (Nat.le_refl _)]at e;exact nqa e
 have hbase:∀ b,s.heap.get? b=none->C.h0.get? b=none:=fun b hb=>by
  cases e:C.h0.get? b with
  | none=>rfl
  | some ob=>rw[(R.base b ob e).1]at hb;exact nqb hb
 have hDA:¬ frA A D:=fun q=>by
  obtain⟨_,o,_,_,e,_⟩:=F.frs.live q
  rw[none1 D (none2 D (Nat.le_refl _))]at e;exact nqa e
 have own':∀ b,own H G b->¬ fr env b:=fun b q z=>by
  have hO:=R2.sub b q
  rcases z with rfl | ⟨x,hx⟩
  ·exact F2.nol hO
  ·exact F2.noc x b hx hO
 have K:Wk C A TG cenv { s2 with heap:=h4 } O1 G D vs I fp wr P St:=by
  refine⟨ok.W,ok.W.frame 0 _ _ ok.st fun b hb ob e=>k24 b ob e,ok.wl,fun i x h h' hP=>?_,fun b hb q=>?_,fun b hb q=>?_,fun b hb q=>?_,fun b hb=>hbase b (ok.new b hb).1,fun b hb=>⟨fun q=>?_,fun q=>hfp2 b hb (q ▸ none2 D (Nat.le_refl _))⟩⟩
  ·obtain⟨v,hv,r⟩:=ok.item i x h h' hP
   have wd:∀ {w:AV} {z:Value},VRel s2.heap O G w z->VRel h4 O1 G w z:=fun r=>r.wide fun b o' xs n e hd hb=>⟨k24 b o' e,fun q=>hb (O1n b o' e q)⟩
   rcases r with r | ⟨T,n,y,z,a,b,e1,e2,hT,hT',ra,rb⟩
   ·exact⟨v,hv,.old (wd r)⟩
   ·exact⟨v,hv,.pair T n y z a b e1 e2 hT hT' (wd ra) (wd rb)⟩
  ·rcases q with q | q
   ·obtain⟨ob,e⟩:=R.live b q;rw[(ok.new b hb).1]at e;exact nqa e
   ·exact hwr2 b hb (q ▸ none2 D (Nat.le_refl _))
  ·rcases hfr b q with h' | h'
   ·exact hwr2 b hb h'
   ·obtain⟨ob,e⟩:=F.frlive h';rw[(ok.new b hb).1]at e;exact nqa e
  ·obtain⟨_,o,_,_,e,_⟩:=F.frs.live q
   rw[(ok.new b hb).1]at e;exact nqa e
  ·rcases hfr b q with h' | h'
   ·exact hfp2 b hb h'
   ·rcases ok.cont b hb with z | z
    ·obtain⟨ob,e⟩:=F.frlive h';rw[(ok.new b z).1]at e;exact nqa e
    ·obtain⟨v,hv⟩:=hZ _ _ (hcs b z)
     rcases hv with (⟨hnO,o1,xs,n,e1,hd⟩ | ⟨a,o1,ha,hl,hba⟩) | ⟨hne,_⟩ | ⟨a,i,hne,hi,_⟩
     ·exact F2.noseq e1 hd h'
     ·exact own' b ⟨a,by rw[ha];exact nofun,hba⟩ h'
     ·exact own' b ⟨b,hne,.inl rfl⟩ h'
     ·exact own' b ⟨a,hne,.inr (List.mem_of_getElem? hi)⟩ h'
 have CS:CSet C A TG sc' cenv s { s2 with heap:=h4 } ρ H G O D L I is vs fp wr cs P St Z o0:=⟨K,F4,R4,k2.trans' ⟨⟨_,_,rfl⟩,k24⟩,k4 _ _ hD3,none1 D (none2 D (Nat.le_refl _)),none1 L (none2 L (by rw[hLD];exact Nat.le_succ _)),by rw[hLD];exact Nat.succ_ne_self D,hcl,fun b hb=>none1 b (hta b hb),fun b hb=>(ok.new b hb).1,hDo,hbase D (none1 D (none2 D (Nat.le_refl _))),hDA,by
  have:=(C.ns.keeps fun b o e=>(R2.base b o e).1).lt
  rw[hD]at this
  simp only [beq_eq_false_iff_ne,ne_eq];intro e
  rw[e]at this
  exact absurd this (by decide),ok.cont,fun b hb=>⟨s2.heap,k24,hcs b hb⟩⟩
 exact hstart (h D L I cenv _ fp wr cs P St CS) (ok.W.self 0 _ _ _ (ok.W.frame 0 _ _ ok.st fun b hb ob e=>k24 b ob e) (h D L I cenv _ fp wr cs P St CS))
theorem CompR.gen {elt target iter:Expr}{ifs:List Expr}{gs:List Comprehension}{scope:Scope}{pos:Pos}{fs:LF}{tg:Tgt}{is2:List Nat}{c:CF}{e:EF}{init:FObj}{tail:Value->Env->Sem Unit}(tn:Nl (.ListComp elt (⟨target,iter,ifs,0⟩ :: gs) scope pos) 0 target ifs iter.pos tail){TG:Expr->Prop}(hTG:TG target)(hit:IterE C k sc iter fs TG)(hsc:CompSc sc scope sc' (tg.idx++is2))(hsi:∀ env x,foldedSetIterable iter env x=pure x)
  (ht:AssignR C sc' target tg) (hc:TestsE C k sc' ifs c) (hT:TailR C k sc' tail is2 e) (hdj:∀ j ∈ is2,j ∉ tg.idx) (hinit:init = .lst false []\/init = .mat false []) :
  CompR C k sc (.ListComp elt (⟨target,iter,ifs,0⟩ :: gs) scope pos) scope iter fun ρ H=>(fs ρ H).bind fun vs=>Cf tg c e (und (tg.idx++is2) ρ) H init vs:=by
 intro p2 A env s ρ H G O o hA F R ho use Q hQ
 obtain⟨vs,hvs,ho⟩:=Option.bind_eq_some_iff.mp ho
 refine Rg F R (hit A env s ρ H G O vs hA F R hvs) (fun h b z=>z) hsc hsi (E:=.ListComp elt (⟨target,iter,ifs,0⟩ :: gs) scope pos) (o0:=Bu [] 0) rfl (fun s Q hq=>wpAny_newObj_type hq) rfl codeAny_compStart_list fun D L I cenv sB fp wr cs P St CS=>?_
 have ob0:ORelF C sB.heap (fun b=>O b\/b=D) G init D []:=by
  rcases hinit with rfl | rfl
  ·exact⟨rfl,rfl,Nat.zero_le _,0,[],CS.hD,.nil⟩
  ·exact⟨⟨0,CS.hD⟩,rfl,Nat.zero_le _,fun i vs b h=>by simp at h⟩
 have tam:∀ (is js:List Nat),(∀ j ∈ is,j ∈ js)->∀ b env,ta sc' env is b->ta sc' env js b:=fun is js h b env q=>q.imp id fun ⟨x,i,hx,hi,e⟩=>⟨x,i,hx,h i hi,e⟩
 refine Xk (p:=iter.pos) (all:=tg.idx++is2) (is:=is2) tn ht hc hT hdj (tam _ _ fun j hj=>List.mem_append_left _ hj) (tam _ _ fun j hj=>List.mem_append_right _ hj) hTG hA CS.K CS.F CS.R (.inr rfl) CS.hDo CS.hDb CS.hDA (fun b hb=>absurd hb List.not_mem_nil) ob0 (by simp) (fun j hj=>if_pos (List.mem_append_right _ hj)) ho fun t ht=>?_
 obtain⟨ρi,g,same,kp,Fi,ag,Ri,ob,nd,hg,old⟩:=ht
 have eO:Og (fun b=>O b\/b=D) g=fun b=>O b\/b=D\/b ∈ g:=by
  funext b;apply propext;exact or_assoc
 have hg2:∀ b ∈ g,s.heap.get? b=none:=fun b hb=>by
  rcases hg b hb with q | q
  ·exact absurd q List.not_mem_nil
  ·cases e:s.heap.get? b with
   | none=>rfl
   | some ob=>rw[CS.k.k b ob e]at q;exact nqb q
 obtain⟨m,hm,_⟩:=Fi.ns
 rw[CS.lo]at hm
 refine hQ D g L m _ ⟨eO ▸ ob,nd,fun b hb=>⟨?_,Ri.live b ?_⟩,⟨Az CS.k.same same,fun b ob e=>kp b ob (fun q=>?_) (fun q=>?_) (fun q=>?_) (CS.k.k b ob e)⟩⟩ hm CS.nL CS.LD ?_
 ·rcases hb with q | q
  ·exact q ▸ CS.nD
  ·exact hg2 b q
 ·exact hb.elim (fun x=>.inl (.inr x)) .inr
 ·rw[CS.nwr b q]at e;exact nqa e
 ·rw[q,CS.nD]at e;exact nqa e
 ·rw[CS.nta b q]at e;exact nqa e
 ·intro q
  have:=Fi.nol
  rw[CS.lo]at this
  exact this (.inr q)
theorem Made.off {O:Addr->Prop}{G:Gh}{o:FObj}{s s':Shared}{D L:Addr}{g:List Addr}{m:Str->Option Value}(M:Made C O G o s D g s')(hm:s'.heap.Ns L m)(hL:s.heap.get? L=none)(hD:L ≠ D)(hg:L ∉ g){h':Heap}(hs:Heap.SameBut L s'.heap h'):Made C O G o s D g { s' with heap:=h' }:=by
 obtain⟨h1,h2,h3,h4⟩:=M
 refine⟨h1.mono (fun b ob xs n e hd hb=>⟨hs.extBut b ob (fun q=>?_) e,hb⟩) fun b ob hb e=>hs.extBut b ob (fun q=>?_) e,h2,fun b hb=>⟨(h3 b hb).1,?_⟩,⟨?_,fun b ob e=>?_⟩⟩
 ·clear h1 h2 h3 h4 hD hL hb hg hs;subst q;exact Cy hm ob e xs n hd
 ·clear e h1 h2 h3 h4 hL hm hs;subst q;rcases hb with q | q
  ·exact hD q
  ·exact hg q
 ·obtain⟨ob,e⟩:=(h3 b hb).2
  refine⟨ob,hs.extBut b ob (fun q=>?_) e⟩
  clear e h1 h2 h3 h4 hL hm hs;subst q;rcases hb with q | q
  ·exact hD q
  ·exact hg q
 ·clear h1 h2 h3 hD hL hg hm hs;obtain⟨⟨h5,t5,rfl⟩,_⟩:=h4;exact⟨_,_,rfl⟩
 ·refine hs.extBut b ob (fun q=>?_) (h4.k b ob e)
  clear h1 h2 h3 h4 hD hg hm hs;subst q;rw[hL]at e;exact nqa e
theorem MakeE.ofCompR {elt target iter:Expr}{ifs:List Expr}{gs:List Comprehension}{scope:Scope}{pos:Pos}{f:Rho->AH->Option FObj}(h:CompR C k sc (.ListComp elt (⟨target,iter,ifs,0⟩ :: gs) scope pos) scope iter f):MakeE C k sc (.ListComp elt (⟨target,iter,ifs,0⟩ :: gs) scope pos) f:=by
 intro A env s ρ H G O o hA F R ho
 rw[eval_ListComp]
 refine h _ A env s ρ H G O o hA F R ho none _ fun D g L m s' M hm hL hLD hLg=>⟨m,hm,fun h' hs=>?_⟩
 have M':=M.off hm hL hLD hLg hs
 exact⟨D,g,rfl,M'.obj,M'.nd,M'.new,M'.kp⟩
theorem CompR.one {elt target iter:Expr}{ifs:List Expr}{scope:Scope}{pos:Pos}{fs:LF}{tg:Tgt}{c:CF}{e:EF}{init:FObj}{TG:Expr->Prop}(hTG:TG target)(hit:IterE C k sc iter fs TG)(hsc:CompSc sc scope sc' tg.idx)(hsi:∀ env x,foldedSetIterable iter env x=pure x)
  (ht:AssignR C sc' target tg) (hc:TestsE C k sc' ifs c) (he:EltR C k sc' elt e) (hinit:init = .lst false []\/init = .mat false []):CompR C k sc (.ListComp elt [⟨target,iter,ifs,0⟩] scope pos) scope iter (Gb fs tg c e init):=by
 intro p2 A env s ρ H G O o hA F R ho
 refine CompR.gen (is2:=[]) (fun it acc env=>rfl) hTG hit (by rw[List.append_nil];exact hsc) hsi ht hc (TailR.elt he) (fun j hj=>absurd hj List.not_mem_nil) hinit p2 A env s ρ H G O o hA F R ?_
 unfold Gb at ho
 cases hvs:fs ρ H with
 | none=>rw[hvs]at ho;exact nqa ho
 | some vs =>
  rw[hvs]at ho
  exact Option.bind_eq_some_iff.mpr ⟨vs,hvs,Fr (fun j hj=>if_neg (by rw[List.append_nil];exact hj)) ho⟩
theorem MakeE.comp {elt target iter:Expr}{ifs:List Expr}{scope:Scope}{pos:Pos}{fs:LF}{tg:Tgt}{c:CF}{e:EF}{init:FObj}{TG:Expr->Prop}(hit:IterE C k sc iter fs TG)(hsc:CompSc sc scope sc' tg.idx)
  (ht:AssignR C sc' target tg) (hc:TestsE C k sc' ifs c) (he:EltR C k sc' elt e) (hinit:init = .lst false []\/init = .mat false []) (hsi:∀ env x,foldedSetIterable iter env x=pure x:=by intro _ _;rfl) (hTG:TG target:=by first | exact True.intro | exact⟨_,_,_,rfl⟩) :
  MakeE C k sc (.ListComp elt [⟨target,iter,ifs,0⟩] scope pos) (Gb fs tg c e init):=.ofCompR (.one hTG hit hsc hsi ht hc he hinit)
end
end Mine
end
section
namespace Mine
section
variable {C:Cx} {k:Nat} {sc:Sc} {env:Env} {ρ:Rho} {H H':AH} {G G':Gh} {s s':Shared} {P:Addr->Prop}
theorem Step.hk (S:Step (fun z0=>False) H G s H' G' s'):∀ b o,s.heap.get? b=some o->(∀ es ep,o.data ≠ .dict es ep)->¬ own H G b->s'.heap.get? b=some o/\¬ own H' G' b:=fun b o e hd hb =>
 ⟨let ⟨o',e',q⟩:=S.keep b o hb (fun x=>x) e;by rw[e',q.eq hd],fun q=>(S.fresh b q).elim hb fun n=>by rw[n]at e;exact nqa e⟩
theorem Step.hk' (S:Step P H G s H' G' s'):∀ b o,s.heap.get? b=some o->¬ own H G b->¬ P b->(∃ o',s'.heap.get? b=some o'/\Slo o o')/\¬ own H' G' b:=fun b o e hb hP =>
 ⟨S.keep b o hb hP e,fun q=>(S.fresh b q).elim hb fun n=>by rw[n]at e;exact nqa e⟩
theorem Step.frs {A:Around}(S:Step (fun z0=>False) H G s H' G' s')(F:FrsA C A (own H G) s.heap):FrsA C A (own H' G') s'.heap :=
 F.mono fun b o es ep e hd hb=>let ⟨⟨o',e',q⟩,h2⟩:=S.hk' b o e hb (fun x=>x);⟨⟨o',es,ep,e',by rw[q.data,hd]⟩,h2⟩
theorem Cr {o:Obj}{xs n}(h:o.data = .seq xs n):∀ es ep,o.data ≠ .dict es ep:=fun es ep q=>by rw[h]at q;cases q
theorem Slo.ns {h h':Heap}{a:Addr}{m:Str->Option Value}(hn:h.Ns a m)(hk:∀ o,h.get? a=some o->∃ o',h'.get? a=some o'/\Slo o o'):h'.Ns a m:=by
 refine Ag fun PP ret=>?_
 obtain⟨o,es,ep,ho,hd,r⟩:=hn
 obtain⟨o',e',q⟩:=hk o ho
 refine ret ?_
 exact⟨o',es,ep,e',by rw[q.data,hd],r⟩
theorem Step.val (S:Step (fun z0=>False) H G s H' G' s'){v:AV}{x:Value}(hs:v.sto=true)(r:VRel s.heap (own H G) G v x):VRel s'.heap (own H' G') G' v x :=
 r.mono (fun b o z0 z0 e hd hb=>S.hk b o e (Cr hd) hb) hs
theorem Step.vals (S:Step (fun z0=>False) H G s H' G' s'){v:List AV}{x:List Value}(hs:AV.stos v=true)(r:VRels s.heap (own H G) G v x):VRels s'.heap (own H' G') G' v x :=
 r.mono (fun b o z0 z0 e hd hb=>S.hk b o e (Cr hd) hb) hs
theorem Step.wf (S:Step (fun z0=>False) H G s H' G' s')(F:WF C A sc env ρ G (own H G) s.heap)(hs:stoR sc ρ):WF C A sc env ρ G' (own H' G') s'.heap where
 kind:=F.kind
 glob:=F.glob
 bui:=F.bui
 ns:=by
  obtain⟨m,hm,hv⟩:=F.ns
  refine⟨m,Slo.ns hm fun o e=>(S.hk' _ o e F.nol (fun x=>x)).1,fun x i hx hl=>(hv x i hx hl).imp id fun ⟨v,e,r⟩=>⟨v,e,S.val (hs x i hx) r⟩⟩
 cells:=fun x i hx hl=>by
  refine Ag fun PP ret=>?_
  obtain⟨k,c,ov,e,⟨o,ho,hd⟩,hv⟩:=F.cells x i hx hl
  refine ret ?_
  exact⟨k,c,ov,e,⟨o,(S.hk _ o ho (fun es ep q=>by rw[hd]at q;cases q) (F.noc x c (PySem.mem_of_lookup e))).1,hd⟩,hv.imp id fun ⟨v,e,r⟩=>⟨v,e,S.val (hs x i hx) r⟩⟩
 celk:=F.celk
 gl:=F.gl
 apart:=F.apart
 cnl:=F.cnl
 cli:=fun x c hx=>let ⟨ov,o,ho,hd⟩:=F.cli x c hx;⟨ov,o,(S.hk _ o ho (fun es ep q=>by rw[hd]at q;cases q) (F.noc x c hx)).1,hd⟩
 nol:=fun x=>by obtain⟨m,⟨o,_,_,ho,_⟩,_⟩:=F.ns;exact(S.hk' _ o ho F.nol (fun x=>x)).2 x
 noc:=fun x c hx y=>by obtain⟨ov,o,ho,_⟩:=F.cli x c hx;exact(S.hk' _ o ho (F.noc x c hx) (fun x=>x)).2 y
 nbs:=F.nbs
 scnd:=F.scnd
 scinj:=F.scinj
 frs:=S.frs F.frs
 top:=F.top
theorem Step.wide {P P':Addr->Prop}(S:Step P H G s H' G' s')(h:∀ b,P b->P' b)(hl:∀ b o,P' b->¬ P b->s.heap.get? b=some o->¬ own H G b):Step P' H G s H' G' s' :=
 ⟨S.same,fun b o h1 h2 e=>S.keep b o h1 (fun q=>h2 (h b q)) e,fun b o p e=>by
  by_cases q:P b
  ·exact S.pl b o q e
  ·exact let ⟨o',e',_⟩:=S.keep b o (hl b o p q e) q e;⟨o',e'⟩,S.fresh,S.lock⟩
theorem Step.frm (S:Step (fun z0=>False) H G s H' G' s')(F:WF C A sc env ρ G (own H G) s.heap):Step (fr env) H G s H' G' s' :=
 S.wide (fun z0 x=>x.elim) fun b o p z0 e=>by
  rcases p with rfl | ⟨x,hx⟩
  ·exact F.nol
  ·exact F.noc x b hx
theorem Step.kp (R:Rel C H G (own H G) s.heap)(k:Kp s s'):Step P H G s H G s':=.ofKp k R.live
theorem Step.fs (F:WF C A sc env ρ G (own H G) s.heap)(R:Rel C H G (own H G) s.heap)(fs:FS (fr env) s s'):Step (fr env) H G s H G s':=by
 refine⟨fs.same,fun b o h1 h2 e=>⟨o,fs.k b o h2 e,.refl o⟩,fun b o z0 e=>fs.l b o e,fun z0 x=>.inl x,fun a o e z0=>⟨e,rfl,fun b hb=>?_⟩⟩
 have hO:own H G b:=⟨a,by rw[e];simp,hb⟩
 have hf:¬ fr env b:=by
  clear R e fs hb z0;rintro(rfl | ⟨x,hx⟩)
  ·exact F.nol hO
  ·exact F.noc x b hx hO
 obtain⟨o',q⟩:=R.live b hO
 rw[q];exact fs.k b o' hf q
theorem Made.step {o:FObj}{D:Addr}{g:List Addr}(R:Rel C H G (own H G) s.heap)(M:Made C (own H G) G o s D g s') :
  H D=none/\Rel C (upd H D (.f o)) (Bx G D g) (own (upd H D (.f o)) (Bx G D g)) s'.heap/\Step (fun z0=>False) H G s (upd H D (.f o)) (Bx G D g) s':=by
 have hn:H D=none:=R.none_of (M.new D (.inl rfl)).1
 refine⟨hn,R.alloc M.kp.k M.new M.nd M.obj,M.kp.same,fun b ob z0 z0 e=>⟨ob,M.kp.k b ob e,.refl ob⟩,fun z0 z0 x=>x.elim,fun b hb=>?_,fun a oa e hl=>?_⟩
 ·rw[Lo hn]at hb
  exact hb.imp id fun q=>(M.new b q).1
 ·have hne:a ≠ D:=fun qq=>by first | (rw[<- qq,hn]at e;exact nqa e) | (rw[qq,hn]at e;exact nqa e)
  refine⟨by rw[Ab hne];exact e,by simp[Bx,hne],fun b hb=>?_⟩
  obtain⟨ob,q⟩:=R.live b ⟨a,by rw[e];simp,hb⟩
  rw[q];exact M.kp.k b ob q
end
section
variable {C:Cx} {k:Nat} {sc:Sc} {f f':PF}
noncomputable def Aq (f:PF):Wp AV:=fun Q ρ H=>∃ v,f ρ H=some v/\v.sto=true/\Q v ρ H
theorem ImpE.ofPure {e:Expr}(h:PureE C k sc e f):ImpE C k sc e (Aq f):=by
 rintro A env s ρ H G Q hA F hs R ⟨v,hv,hsv,hQ⟩
 refine wpAny_mono (h A env s ρ H G _ v hA F R hv) (fun x s1 h1=>?_) fun z0 z0 x=>x
 exact⟨v,ρ,H,G,hQ,h1.1,hsv,F.keep h1.2.k,hs,R.keep h1.2.k,.kp R h1.2⟩
noncomputable def Ch (m:Rho->AH->Option FObj):Wp AV:=fun Q ρ H=>∃ o,m ρ H=some o/\∀ a,H a=none->Q (.ref a) ρ (upd H a (.f o))
theorem ImpE.ofMake {e:Expr}{m:Rho->AH->Option FObj}(h:MakeE C k sc e m):ImpE C k sc e (Ch m):=by
 rintro A env s ρ H G Q hA F hs R ⟨o,ho,hQ⟩
 refine wpAny_mono (h A env s ρ H G _ o hA F R ho) (fun x s1 h1=>?_) fun z0 z0 x=>x
 obtain⟨a,g,rfl,h2,h3,h4,h5⟩:=h1
 obtain⟨hn,R1,S1⟩:=Made.step R ⟨h2,h3,h4,h5⟩
 exact⟨.ref a,ρ,_,_,hQ a hn,by simp[vRr],rfl,S1.wf F hs,hs,R1,S1.frm F⟩
noncomputable def Bg (c:CF):Wp Bool:=fun Q ρ H=>∃ b,c ρ H=some b/\Q b ρ H
theorem ImpC.ofTest {e:Expr}{c:CF}(h:TestE C k sc e c):ImpC C k sc e (Bg c):=by
 rintro A env s ρ H G Q hA F hs R ⟨b,hb,hQ⟩
 refine wpAny_mono (h A env s ρ H G _ b hA F R hb) (fun x s1 h1=>?_) fun z0 z0 x=>x
 clear h hA hb;obtain⟨rfl,k1⟩:=h1
 exact⟨ρ,H,G,hQ,F.keep k1.k,hs,R.keep k1.k,.kp R k1⟩
noncomputable def Ad (T T':Wp AFlow):Wp AFlow:=fun Q=>T fun f ρ H=>match f with
 | .next=>T' Q ρ H
 | f=>Q f ρ H
noncomputable def Ai:Wp AFlow:=fun Q ρ H=>Q .next ρ H
theorem StmtsR.nil:StmtsR C k sc [] Ai:=by
 intro A env s ρ H G Q hA F hs R hT
 exact wpAny_execs_nil ⟨.next,ρ,H,G,hT,trivial,F,hs,R,.refl s⟩
theorem StmtsR.cons {st:Stmt}{rest:List Stmt}{T T':Wp AFlow}(h:StmtR C k sc st T)(h':StmtsR C k sc rest T'):StmtsR C k sc (st :: rest) (Ad T T'):=by
 intro A env s ρ H G Q hA F hs R hT
 refine wpAny_execs_cons (wpAny_mono (h A env s ρ H G _ hA F hs R hT) (fun fl s1 h1=>?_) fun z0 z0 x=>x)
 obtain⟨af,ρ1,H1,G1,hq,hf,F1,hs1,R1,S1⟩:=h1
 cases af with
 | next =>
  cases hf.nextE
  exact wpAny_mono (h' A env s1 ρ1 H1 G1 Q hA F1 hs1 R1 hq) (fun fl s2 h2=>by
   obtain⟨af,ρ2,H2,G2,hq,hf,F2,hs2,R2,S2⟩:=h2
   exact⟨af,ρ2,H2,G2,hq,hf,F2,hs2,R2,S1.trans S2⟩) fun z0 z0 x=>x
 | brk=>cases hf.brkE;exact⟨.brk,ρ1,H1,G1,hq,trivial,F1,hs1,R1,S1⟩
 | cont=>cases hf.contE;exact⟨.cont,ρ1,H1,G1,hq,trivial,F1,hs1,R1,S1⟩
 | ret v=>obtain⟨x,rfl,hf⟩:=hf.retE;exact⟨.ret v,ρ1,H1,G1,hq,hf,F1,hs1,R1,S1⟩
noncomputable def Lg (W:Wp AV):Wp AFlow:=fun Q=>W fun v=>Q (.ret v)
theorem StmtR.ret {e:Expr}{pos:Pos}{W:Wp AV}(h:ImpE C k sc e W):StmtR C k sc (.Return (some e) pos) (Lg W):=by
 intro A env s ρ H G Q hA F hs R hT
 refine wpAny_Return_some (wpAny_mono (h A env s ρ H G _ hA F hs R hT) (fun x s1 h1=>?_) fun z0 z0 x=>x)
 obtain⟨v,ρ1,H1,G1,hq,hv,hsv,F1,hs1,R1,S1⟩:=h1
 exact⟨.ret v,ρ1,H1,G1,hq,⟨hv,hsv⟩,F1,hs1,R1,S1⟩
noncomputable def Bm (W:Wp AV):Wp AFlow:=fun Q=>W fun z0=>Q .next
theorem StmtR.expr {e:Expr}{pos:Pos}{W:Wp AV}(h:ImpE C k sc e W)(hsw:∀ env,swapsWith e none pos.line env=pure false:=by intro _;rfl):StmtR C k sc (.Expr e pos) (Bm W):=by
 intro A env s ρ H G Q hA F hs R hT
 refine wpAny_Expr_any (wpAny_mono (h A env s ρ H G _ hA F hs R hT) (fun x s1 h1=>?_) fun z0 z0 x=>x) (by simp[interactive,F.kind]) (hsw env)
 obtain⟨v,ρ1,H1,G1,hq,hv,hsv,F1,hs1,R1,S1⟩:=h1
 exact⟨.next,ρ1,H1,G1,hq,trivial,F1,hs1,R1,S1⟩
noncomputable def Xm:Wp AFlow:=fun Q ρ H=>Q .brk ρ H
noncomputable def fY:Wp AFlow:=fun Q ρ H=>Q .cont ρ H
theorem StmtR.brk {pos:Pos}:StmtR C k sc (.Break pos) Xm:=by
 intro A env s ρ H G Q hA F hs R hT
 exact wpAny_Break ⟨.brk,ρ,H,G,hT,trivial,F,hs,R,.refl s⟩
theorem StmtR.cont {pos:Pos}:StmtR C k sc (.Continue pos) fY:=by
 intro A env s ρ H G Q hA F hs R hT
 exact wpAny_Continue ⟨.cont,ρ,H,G,hT,trivial,F,hs,R,.refl s⟩
noncomputable def noT:Wp AFlow:=fun z0 z0 z0=>False
theorem StmtsR.no {st:List Stmt}:StmtsR C k sc st noT:=by
 intro A env s ρ H G Q hA F hs R hT;exact hT.elim
noncomputable def ifT (W:Wp Bool) (T T':Wp AFlow):Wp AFlow:=fun Q=>W fun b ρ H=>if b=true then T Q ρ H else T' Q ρ H
theorem StmtR.ite {e:Expr}{b o:List Stmt}{pos:Pos}{W:Wp Bool}{T T':Wp AFlow}(he:ImpC C k sc e W)(hb:StmtsR C k sc b T)(ho:StmtsR C k sc o T'):StmtR C k sc (.If e b o pos) (ifT W T T'):=by
 intro A env s ρ H G Q hA F hs R hT
 refine wpAny_If (wpAny_mono (he A env s ρ H G _ hA F hs R hT) (fun c s1 h1=>?_) fun z0 z0 x=>x)
 obtain⟨ρ1,H1,G1,hq,F1,hs1,R1,S1⟩:=h1
 cases c with
 | true =>
  simp only [if_true]at hq ⊢
  exact wpAny_mono (hb A env s1 ρ1 H1 G1 Q hA F1 hs1 R1 hq) (fun fl s2 h2=>by
   obtain⟨af,ρ2,H2,G2,hq,hf,F2,hs2,R2,S2⟩:=h2
   exact⟨af,ρ2,H2,G2,hq,hf,F2,hs2,R2,S1.trans S2⟩) fun z0 z0 x=>x
 | false =>
  simp only [Bool.false_eq_true,if_false]at hq ⊢
  exact wpAny_mono (ho A env s1 ρ1 H1 G1 Q hA F1 hs1 R1 hq) (fun fl s2 h2=>by
   obtain⟨af,ρ2,H2,G2,hq,hf,F2,hs2,R2,S2⟩:=h2
   exact⟨af,ρ2,H2,G2,hq,hf,F2,hs2,R2,S1.trans S2⟩) fun z0 z0 x=>x
theorem stoR.set {ρ:Rho}(hs:stoR sc ρ){i:Nat}{v:AV}(hv:v.sto=true):stoR sc (ρ.set i v):=by
 intro x j hx
 by_cases e:j=i
 ·subst e;simpa using hv
 ·rw[Rho.set_ne e];exact hs x j hx
noncomputable def Bh (i:Nat) (W:Wp AV):Wp AFlow:=fun Q=>W fun v ρ H=>Q .next (ρ.set i v) H
theorem StmtR.let {x:Str}{i:Nat}{e:Expr}{p pos:Pos}{W:Wp AV}(hx:(x,i) ∈ sc.vars)(h:ImpE C k sc e W)(hsw:∀ env,swapsWith e (some (.Name x p)) pos.line env=pure false:=by intro _;rfl):StmtR C k sc (.Assign [.Name x p] e pos) (Bh i W):=by
 intro A env s ρ H G Q hA F hs R hT
 refine wpAny_Assign_Name (wpAny_mono (h A env s ρ H G _ hA F hs R hT) (fun y s1 h1=>?_) fun z0 z0 x=>x) (hsw env)
 obtain⟨v,ρ1,H1,G1,hq,hv,hsv,F1,hs1,R1,S1⟩:=h1
 refine Bz F1 hx hv fun s2 F2 fs hv2=>?_
 have fs':=fs.mono fun z0=>Bp
 exact⟨.next,_,H1,G1,hq,trivial,F2,hs1.set hsv,R1.fs F1 fs',S1.trans (.fs F1 R1 fs')⟩
theorem StmtR.letCompR {x:Str}{i:Nat}{p pos spos:Pos}{elt target iter:Expr}{ifs:List Expr}{gs:List Comprehension}{scope:Scope}{f:Rho->AH->Option FObj}(hx:(x,i) ∈ sc.vars)(h:CompR C k sc (.ListComp elt (⟨target,iter,ifs,0⟩ :: gs) scope pos) scope iter f) :
  StmtR C k sc (.Assign [.Name x p] (.ListComp elt (⟨target,iter,ifs,0⟩ :: gs) scope pos) spos) (Bh i (Ch f)):=by
 intro A env s ρ H G Q hA F hs R hT
 cases hb:(env.blockKind == .function && env.kindOf x == some .local && p.line == (Expr.ListComp elt (⟨target,iter,ifs,0⟩ :: gs) scope pos).pos.line && !(scope.names.any fun (n,k)=>n == x && (k == .local || k == .cell))) with
 | false =>
  have hsw:swapsWith (.ListComp elt (⟨target,iter,ifs,0⟩ :: gs) scope pos) (some (.Name x p)) spos.line env=pure false:=by
   rw[<- hb];rfl
  refine wpAny_Assign_Name (wpAny_mono (ImpE.ofMake (MakeE.ofCompR h) A env s ρ H G _ hA F hs R hT) (fun y s1 h1=>?_) fun z0 z0 x=>x) hsw
  obtain⟨v,ρ1,H1,G1,hq,hv,hsv,F1,hs1,R1,S1⟩:=h1
  refine Bz F1 hx hv fun s2 F2 fs hv2=>?_
  have fs':=fs.mono fun z0=>Bp
  exact⟨.next,_,H1,G1,hq,trivial,F2,hs1.set hsv,R1.fs F1 fs',S1.trans (.fs F1 R1 fs')⟩
 | true =>
  have hsw:swapsWith (.ListComp elt (⟨target,iter,ifs,0⟩ :: gs) scope pos) (some (.Name x p)) spos.line env=pure true:=by
   rw[<- hb];rfl
  obtain⟨o,ho,hQ⟩:=hT
  rw[exec_Assign_Name_used _ _ _ _ hsw]
  refine wpAny_bind (wpAny_standAt (wpAny_bind ?_))
  refine(?_:wpAny _ A (do let _ <- comprehension (.ListComp elt (⟨target,iter,ifs,0⟩ :: gs) scope pos) scope env _ (newList []) false (eval iter env) (some (assign (.Name x p) env))) _ _ s)
  refine wpAny_bind (wpAny_mono (h _ A env s ρ H G _ o hA F R ho (some (assign (.Name x p) env)) (fun z0 s'=>PostS C A sc env s H G Q .next s') fun D g L m s1 M hm hL hLD hLg=>?_) (fun z0 s' hq=>wpAny_pure (wpAny_pure hq)) fun z0 z0 e=>e)
  refine(?_:wpAny _ A (assign (.Name x p) env (.ref D)) _ _ _)
  obtain⟨hn,R1,S1⟩:=Made.step R M
  have F1:=S1.wf F hs
  refine wpAny_assign_Name (Bz F1 hx (v:=.ref D) (by simp[vRr]) fun s2 F2 fs hv2=>?_)
  have hLf:¬ fr env L:=by
   clear F1 F2 M R R1 S1 fs hA hLD hLg hQ hb hm hn ho hs hsw hv2 hx;rintro(rfl | ⟨z,hz⟩)
   ·obtain⟨m',⟨o',_,_,e,_⟩,_⟩:=F.ns;rw[hL]at e;exact nqa e
   ·obtain⟨ov,o',e,_⟩:=F.cli z L hz;rw[hL]at e;exact nqa e
  have fs':=fs.mono fun z0=>Bp
  have hm2:s2.heap.Ns L m:=hm.at' fun o' e=>fs'.k _ _ hLf e
  refine⟨m,hm2,fun h' hs'=>?_⟩
  have R2:=R1.fs F1 fs'
  have hLo:¬ own (upd H D (.f o)) (Bx G D g) L:=by
   rw[Lo hn]
   rintro(q | q | q)
   ·obtain⟨o',e⟩:=R.live L q;rw[hL]at e;exact nqa e
   ·exact hLD q
   ·exact hLg q
  have Sh:Shift C (· = L) (own (upd H D (.f o)) (Bx G D g)) (own (upd H D (.f o)) (Bx G D g)) s2.heap h':=by
   refine⟨fun z0 x=>x,fun b ob hb e=>⟨hs'.extBut b ob hb e,fun x=>x⟩,fun b hb=>?_,fun b ob xs n hb e hd=>?_,fun b hb=>?_⟩
   ·clear F F1 F2 M R1 R2 S1 fs fs' hA hLD hLf hLg hLo hQ hm hm2 hn ho hs hs' hsw hv2 hx;subst hb
    cases e:C.h0.get? b with
    | none=>rfl
    | some ob=>rw[(R.base b ob e).1]at hL;exact nqb hL
   ·clear F F1 F2 M R R1 R2 S1 fs fs' hA hL hLD hLf hLg hLo hQ hm hn ho hs hs' hsw hv2 hx;subst hb;exact absurd hd (Cy hm2 ob e xs n)
   ·obtain⟨ob,e⟩:=R2.live b hb
    exact⟨ob,hs'.extBut b ob (fun q=>hLo (q ▸ hb)) e⟩
  refine⟨.next,_,_,_,hQ D hn,trivial,Sh.wf F2 (fun b hb q=>hLf (hb ▸ q)) (fun b hb q=>by
   clear F1 F2 M R R1 S1 fs fs' hA hLD hLf hLg hQ hm hm2 hn ho hs' hsw hv2 hx;subst hb
   obtain⟨_,o',_,_,e,_⟩:=F.frs.live q
   rw[hL]at e;exact nqa e),hs.set rfl,Sh.rel R2 (fun b hb q=>hLo (hb ▸ q)),?_⟩
  have S2:=(S1.frm F).trans (.fs F1 R1 fs')
  refine⟨?_,fun b ob h1 h2 e=>?_,fun b ob p e=>?_,S2.fresh,fun a oa e hl=>?_⟩
  ·clear F F1 F2 M R R1 R2 S1 Sh fs fs' hA hL hLD hLf hLg hLo hQ hb hm hm2 hn ho hs hs' hsw hv2 hx;obtain⟨h2,t2,rfl⟩:=S2.same;exact⟨_,_,rfl⟩
  ·obtain⟨o',e',q'⟩:=S2.keep b ob h1 h2 e
   refine⟨o',hs'.extBut b o' (fun q=>?_) e',q'⟩
   clear F F1 F2 M R R1 R2 S1 S2 Sh e' fs fs' h1 h2 hA hLD hLf hLg hLo hQ hb hm hm2 hn ho hs hs' hsw hv2 hx q';subst q;rw[hL]at e;exact nqa e
  ·obtain⟨o',e'⟩:=S2.pl b ob p e
   exact⟨o',hs'.extBut b o' (fun q=>hLf (q ▸ p)) e'⟩
  ·obtain⟨q1,q2,q3⟩:=S2.lock a oa e hl
   refine⟨q1,q2,fun b hb=>?_⟩
   have hO:own H G b:=⟨a,by rw[e];simp,hb⟩
   obtain⟨ob,eb⟩:=R.live b hO
   have hbL:b ≠ L:=fun qq=>by first | (rw[<- qq,hL]at eb;exact nqa eb) | (rw[qq,hL]at eb;exact nqa eb)
   rw[<- q3 b hb]
   exact(hs'.2 b hbL)
theorem StmtR.letComp {TG:Expr->Prop}{sc':Sc}{x:Str}{i:Nat}{p pos spos:Pos}{elt target iter:Expr}{ifs:List Expr}{scope:Scope}{fs:LF}{tg:Tgt}{c:CF}{e:EF}{init:FObj}(hx:(x,i) ∈ sc.vars)(hit:IterE C k sc iter fs TG)(hsc:CompSc sc scope sc' tg.idx)
  (ht:AssignR C sc' target tg) (hc:TestsE C k sc' ifs c) (he:EltR C k sc' elt e) (hinit:init = .lst false []\/init = .mat false []) (hsi:∀ env x,foldedSetIterable iter env x=pure x:=by intro _ _;rfl) (hTG:TG target:=by first | exact True.intro | exact⟨_,_,_,rfl⟩) :
  StmtR C k sc (.Assign [.Name x p] (.ListComp elt [⟨target,iter,ifs,0⟩] scope pos) spos) (Bh i (Ch (Gb fs tg c e init))):=.letCompR hx (.one hTG hit hsc hsi ht hc he hinit)
noncomputable def Fd (W:Wp Bool) (T T':Wp AFlow):Wp AFlow:=fun Q ρ H=>∃ (I:Nat->Rho->AH->Prop) (n:Nat),I n ρ H/\∀ n ρ H,I n ρ H->W (fun b ρ1 H1=>if b=true then T (fun f ρ2 H2=>match f with
  | .next=>∃ m,m < n/\I m ρ2 H2
  | .cont=>∃ m,m < n/\I m ρ2 H2
  | .brk=>Q .next ρ2 H2
  | .ret v=>Q (.ret v) ρ2 H2) ρ1 H1 else T' Q ρ1 H1) ρ H
theorem StmtR.while {e:Expr}{b o:List Stmt}{pos:Pos}{W:Wp Bool}{T T':Wp AFlow}(he:ImpC C k sc e W)(hb:StmtsR C k sc b T)(ho:StmtsR C k sc o T'):StmtR C k sc (.While e b o pos) (Fd W T T'):=by
 rintro A env s ρ H G Q hA F hs R ⟨I,n,hI,hturn⟩
 refine wpAny_While (codeAny_whileLoop (fun n t=>PostC C A sc env s H G (fun z0=>I n) true t) (fun n t ht=>?_) n ⟨ρ,H,G,hI,F,hs,R,.refl s⟩)
 obtain⟨ρ1,H1,G1,hI1,F1,hs1,R1,S1⟩:=ht
 refine wpAny_mono (he A env t ρ1 H1 G1 _ hA F1 hs1 R1 (hturn n ρ1 H1 hI1)) (fun c s2 h2=>?_) fun z0 z0 x=>x.elim
 obtain⟨ρ2,H2,G2,hq,F2,hs2,R2,S2⟩:=h2
 cases c with
 | true =>
  simp only [if_true]at hq ⊢
  refine wpAny_mono (hb A env s2 ρ2 H2 G2 _ hA F2 hs2 R2 hq) (fun fl s3 h3=>?_) fun z0 z0 x=>x.elim
  obtain⟨af,ρ3,H3,G3,hq3,hf,F3,hs3,R3,S3⟩:=h3
  have S:=(S1.trans S2).trans S3
  cases af with
  | next=>cases hf.nextE;obtain⟨m,hm,hI3⟩:=hq3;exact⟨m,hm,ρ3,H3,G3,hI3,F3,hs3,R3,S⟩
  | cont=>cases hf.contE;obtain⟨m,hm,hI3⟩:=hq3;exact⟨m,hm,ρ3,H3,G3,hI3,F3,hs3,R3,S⟩
  | brk=>cases hf.brkE;exact⟨.next,ρ3,H3,G3,hq3,trivial,F3,hs3,R3,S⟩
  | ret v=>obtain⟨x,rfl,hf⟩:=hf.retE;exact⟨.ret v,ρ3,H3,G3,hq3,hf,F3,hs3,R3,S⟩
 | false =>
  simp only [Bool.false_eq_true,if_false]at hq ⊢
  refine wpAny_mono (ho A env s2 ρ2 H2 G2 _ hA F2 hs2 R2 hq) (fun fl s3 h3=>?_) fun z0 z0 x=>x.elim
  obtain⟨af,ρ3,H3,G3,hq3,hf,F3,hs3,R3,S3⟩:=h3
  exact⟨af,ρ3,H3,G3,hq3,hf,F3,hs3,R3,(S1.trans S2).trans S3⟩
end
end Mine
end
section
namespace Mine
theorem Rb {prog:Program}{w:World}{A:Around}{s:Shared}{R:Result->Shared->Prop}{target:Expr}{it:Value}{body:List Stmt}{env:Env}(I:Nat->Shared->Prop)
  (turn:∀ n s,I n s->wpAny (model prog w) A (pyNext it) (fun r s₁=>match r with
   | none=>R (.ok .next) s₁
   | some v=>wpAny (model prog w) A (letOwnedTupleGo target it v) (fun z0 s₁'=>wpAny (model prog w) A (assign target env v) (fun z0 s₂=>wpAny (model prog w) A (execs body env) (fun f s₃=>match f with
     | .next | .cont=>∃ m,m < n/\I m s₃
     | .brk=>R (.ok .next) s₃
     | .ret v=>R (.ok (.ret v)) s₃) (fun z0 z0=>False) s₂) (fun z0 z0=>False) s₁') (fun z0 z0=>False) s₁) (fun z0 z0=>False) s)
  (n:Nat) (h:I n s):codeAny (model prog w) A (.forLoop target it body [] env) R s:=by
 refine codeAny_loop' rfl I (fun n s hI=>?_) n h
 refine(?_:wpAny _ _ ((forTurn target it body [] env).onRaise (fun x=>do noteFrame x env;theTreesLotGoes x)) _ _ s)
 refine wpAny_noted ?_
 simp only [forTurn]
 refine wpAny_bind (wpAny_standAt (wpAny_bind (wpAny_onRaise (wpAny_mono (turn n s hI) (fun r s₁ h₁=>?_) fun z0 z0 h'=>h'.elim))))
 cases r with
 | none=>exact wpAny_pure (.inr ⟨rfl,codeAny_block (wpAny_execs_nil h₁)⟩)
 | some v =>
  refine wpAny_bind (wpAny_mono h₁ (fun z0 s₁' h₁'=>?_) fun z0 z0 h'=>h'.elim)
  refine wpAny_bind (wpAny_mono h₁' (fun z0 s₂ h₂=>wpAny_bind (wpAny_mono h₂ (fun f s₃ h₃=>?_) fun z0 z0 h'=>h'.elim)) fun z0 z0 h'=>h'.elim)
  cases f with
  | next=>exact wpAny_pure (.inl ⟨rfl,h₃⟩)
  | cont=>exact wpAny_pure (.inl ⟨rfl,h₃⟩)
  | brk=>exact wpAny_pure h₃
  | ret v=>exact wpAny_pure h₃
noncomputable def Dz (tg:Tgt) (T:Wp AFlow) (Q:AFlow->Rho->AH->Prop):List AV->Rho->AH->Prop
 | [],ρ,H=>Q .next ρ H
 | v :: r,ρ,H=>∃ ρ',tg.put H v ρ=some ρ'/\T (fun f ρ2 H2=>match f with
  | .next=>Dz tg T Q r ρ2 H2
  | .cont=>Dz tg T Q r ρ2 H2
  | .brk=>Q .next ρ2 H2
  | .ret v=>Q (.ret v) ρ2 H2) ρ' H
noncomputable def Ja (fs:LF) (tg:Tgt) (T:Wp AFlow):Wp AFlow:=fun Q ρ H=>∃ vs,fs ρ H=some vs/\AV.stos vs=true/\Dz tg T Q vs ρ H
section
variable {C:Cx} {k:Nat} {sc:Sc} {env:Env} {ρ:Rho} {H H':AH} {G G':Gh} {s s':Shared}
theorem Xr (R:Rel C H G (own H G) s.heap){v:AV}{vs:List AV}(hs:v.sto=true)(h:gG H v=some vs):AV.stos vs=true:=by
 cases v with
 | tup ws=>obtain rfl:=Option.some.inj h;simpa [AV.sto]using hs
 | fl ws=>obtain rfl:=Option.some.inj h;simpa [AV.sto]using hs
 | ref a =>
  refine aF h ?_;clear h;intro lk ws hH h
  obtain rfl:=Option.some.inj h
  exact(R.obj a _ hH).2.1
 | row a i=>simp[AV.sto]at hs
 | _=>exact nqa h
theorem stoR.setMany:∀ (is:List Nat) (vs:List AV) {ρ:Rho},stoR sc ρ->AV.stos vs=true->stoR sc (setMany ρ is vs)
 | [],vs,ρ,h,_=>by cases vs <;> exact h
 | i :: is,[],ρ,h,_=>h
 | i :: is,v :: vs,ρ,h,hv=>by
  simp only [AV.stos,Bool.and_eq_true]at hv
  exact stoR.setMany is vs (h.set hv.1) hv.2
theorem Tgt.put_sto (R:Rel C H G (own H G) s.heap){tg:Tgt}{v:AV}{ρ':Rho}(hs:stoR sc ρ)(hv:v.sto=true)(hp:tg.put H v ρ=some ρ'):stoR sc ρ':=by
 cases tg with
 | one i=>simp only [Tgt.put,Option.some.injEq]at hp;subst hp;exact hs.set hv
 | many is =>
  simp only [Tgt.put]at hp
  set_option tactic.hygienic true in split at hp
  ·rename_i vs hu
   refine Bj hp ?_;clear hp;intro q1 hp
   obtain rfl:=Option.some.inj hp;exact hs.setMany is vs (Xr R hv hu)
  ·exact nqa hp
inductive FJ (C:Cx) (A:Around) (sc:Sc) (env:Env) (H:AH) (G:Gh) (s2:Shared) (PP:Addr->Prop) (St:Nat->Heap->Prop) (i:Nat) (ρ':Rho) (H':AH) (G':Gh) (t:Shared):Prop
 | mk (F:WF C A sc env ρ' G' (own H' G') t.heap) (hs:stoR sc ρ') (R:Rel C H' G' (own H' G') t.heap) (S:Step PP H G s2 H' G' t) (st:St i t.heap) (lk:∀ a o,H a=some (.f o)->o.lk=true->H' a=some (.f o)/\G' a=G a)
theorem Ra {TG:Expr->Prop}{target:Expr}(hTG:TG target){body:List Stmt}{tg:Tgt}{T:Wp AFlow}(ht:AssignR C sc target tg)(hb:StmtsR C k sc body T){A:Around}{env:Env}{s:Shared}{ρ:Rho}{H:AH}{G:Gh}{Q:AFlow->Rho->AH->Prop}{vs:List AV}{it:Value}{s2:Shared}{PQ:Flow->Shared->Prop}
  (hA:AOk k A) (F:WF C A sc env ρ G (own H G) s.heap) (hs:stoR sc ρ) (R:Rel C H G (own H G) s.heap) (hst:AV.stos vs=true) (hgo:Dz tg T Q vs ρ H) (h2:PostI C A TG s (own H G) G vs (fun h b=>Kg h H G (own H G) b) it s2) (hPQ:∀ f t,PostS C A sc env s H G Q f t->PQ f t) :
  codeAny (model C.prog C.w) A (.forLoop target it body [] env) (fun r s'=>match r with | .ok f=>PQ f s' | .error e=>cameBackBy (model C.prog C.w) A env (fun z0 z0=>False) e s') s2:=by
 obtain⟨k2,hz,I,fp,wr,cs,P,St,rfl,ok,hcs⟩:=h2
 refine Ag fun PZ ret=>?_
 have F2:=F.keep k2.k
 have R2:=R.keep k2.k
 have hwr2:∀ b ∈ wr,s2.heap.get? b ≠ none:=fun b hb q=>by
  obtain⟨ob,e⟩:=(ok.new b hb).2
  rw[q]at e;exact nqa e
 have hwrO:∀ b ∈ wr,¬ own H G b:=fun b hb q=>by
  obtain⟨ob,e⟩:=R.live b q
  rw[(ok.new b hb).1]at e;exact nqa e
 have hwrF:∀ b ∈ wr,¬ fr env b:=fun b hb q=>by
  obtain⟨ob,e⟩:=F.frlive q
  rw[(ok.new b hb).1]at e;exact nqa e
 have hwrA:∀ b ∈ wr,¬ frA A b:=fun b hb q=>by
  obtain⟨_,o,_,_,e,_⟩:=F.frs.live q
  rw[(ok.new b hb).1]at e;exact nqa e
 have hbase:∀ b ∈ wr,C.h0.get? b=none:=fun b hb=>by
  cases e:C.h0.get? b with
  | none=>rfl
  | some ob=>have:=(R.base b ob e).1;rw[(ok.new b hb).1]at this;exact nqa this
 let PP:Addr->Prop:=fun b=>fr env b\/b ∈ wr
 let J:Nat->Rho->AH->Gh->Shared->Prop:=FJ C A sc env H G s2 PP St
 have hown:∀ H' G' t,Step PP H G s2 H' G' t->∀ b ∈ wr,¬ own H' G' b:=fun H' G' t S b hb q=>(S.fresh b q).elim (hwrO b hb) (hwr2 b hb)
 have hcsk:∀ H' G' t,Step PP H G s2 H' G' t->(∀ a o,H a=some (.f o)->o.lk=true->H' a=some (.f o)/\G' a=G a)->∀ j,St j t.heap->∀ H2 G2 t2,Step (fr env) H' G' t H2 G2 t2->∀ b ∈ fp,∀ o,t.heap.get? b=some o->t2.heap.get? b=some o:=by
  intro H' G' t S hlk j stj H2 G2 t2 S2 b hb o e
  rcases ok.cont b hb with h' | h'
  ·obtain⟨o2,e2,q2⟩:=S2.keep b o (hown H' G' t S b h') (hwrF b h') e
   obtain⟨ow,vw,ew,dw⟩:=ok.wl j _ stj b h'
   rw[e]at ew;obtain rfl:=Option.some.inj ew
   rw[e2,q2.eq fun es ep q=>by rw[dw]at q;cases q]
  ·rcases hcs b h' with ⟨hO,o',xs,n,e',hd⟩ | ⟨a,oa,ha,hl,hba⟩
   ·have hbw:b ∉ wr:=fun q=>ok.wns 0 _ ok.st b q o' e' xs n hd
    obtain⟨o1,e1,q1⟩:=S.keep b o' hO (fun q=>q.elim (F2.noseq e' hd) hbw) e'
    rw[q1.eq (Cr hd),e]at e1;obtain rfl:=Option.some.inj e1
    obtain⟨o2,e2,q2⟩:=S2.keep b o (fun q=>(S.fresh b q).elim hO fun n'=>by rw[n']at e';exact nqa e') (F2.noseq e' hd) e
    rw[e2,q2.eq (Cr hd)]
   ·obtain⟨q1,q2⟩:=hlk a oa ha hl
    have:=(S2.lock a oa q1 hl).2.2 b (by rw[q2];exact hba)
    rw[this];exact e
 have hlkt:∀ H' G' H2 G2 t t2,(∀ a o,H a=some (.f o)->o.lk=true->H' a=some (.f o)/\G' a=G a)->Step (fr env) H' G' t H2 G2 t2->∀ a o,H a=some (.f o)->o.lk=true->H2 a=some (.f o)/\G2 a=G a:=by
  intro H' G' H2 G2 t t2 hlk S2 a o ha hl
  obtain⟨q1,q2⟩:=hlk a o ha hl
  obtain⟨q3,q4,_⟩:=S2.lock a o q1 hl
  exact⟨q3,q4.trans q2⟩
 have hPP:∀ H' G' t H2 G2 t2,Step PP H G s2 H' G' t->Step (fr env) H' G' t H2 G2 t2->Step PP H G s2 H2 G2 t2:=by
  intro H' G' t H2 G2 t2 S S2
  refine S.trans (S2.wide (fun b hb=>.inl hb) fun b o p q e=>?_)
  rcases p with p | p
  ·exact absurd p q
  ·exact hown H' G' t S b p
 have fin:∀ H' G' t,Step PP H G s2 H' G' t->Step (fr env) H G s H' G' t:=by
  intro H' G' t S
  refine⟨?_,fun b o h1 h2 e=>S.keep b o h1 (fun q=>q.elim h2 fun q=>by rw[(ok.new b q).1]at e;exact nqa e) (k2.k b o e),fun b o p e=>S.pl b o (.inl p) (k2.k b o e),fun b hb=>?_,fun a o e l=>?_⟩
  ·exact Az k2.same S.same
  ·refine(S.fresh b hb).imp id fun q=>?_
   cases e:s.heap.get? b with
   | none=>rfl
   | some o=>rw[k2.k b o e]at q;exact nqb q
  ·obtain⟨q1,q2,q3⟩:=S.lock a o e l
   refine⟨q1,q2,fun b hb=>(q3 b hb).trans ?_⟩
   obtain⟨ob,eb⟩:=R.live b ⟨a,by rw[e];simp,hb⟩
   rw[eb];exact k2.k b ob eb
 -- the iterator's own step
 have shiftW:∀ i H' G' (t:Shared) h',St i t.heap->Step PP H G s2 H' G' t->Rel C H' G' (own H' G') t.heap->(∀ b ob,b ∉ wr->t.heap.get? b=some ob->h'.get? b=some ob)->Shift C (· ∈ wr) (own H' G') (own H' G') t.heap h':=by
  intro i H' G' t h' st S Rt hk
  refine⟨fun z0 x=>x,fun b ob hb e=>⟨hk b ob hb e,fun x=>x⟩,fun b hb=>hbase b hb,fun b ob xs n hb e hd=>absurd hd (ok.wns i _ st b hb ob e xs n),fun b hb=>?_⟩
  obtain⟨ob,e⟩:=Rt.live b hb
  exact⟨ob,hk b ob (fun q=>hown H' G' t S b q hb) e⟩
 have stepW:∀ H' G' (t:Shared) h' tk,Step PP H G s2 H' G' t->Rel C H' G' (own H' G') t.heap->(∀ b ob,b ∉ wr->t.heap.get? b=some ob->h'.get? b=some ob)->(∀ b ∈ wr,∃ o,h'.get? b=some o)->(∀ a o,H a=some (.f o)->o.lk=true->H' a=some (.f o)/\G' a=G a)->Step PP H G s2 H' G' { t with heap:=h',toks:=tk }:=by
  intro H' G' t h' tk S Rt hk hl hlk
  refine⟨?_,fun b o h1 h2 e=>(let ⟨o',e',q⟩:=S.keep b o h1 h2 e;⟨o',hk b o' (fun q=>h2 (.inr q)) e',q⟩),fun b o p e=>?_,S.fresh,fun a o e l=>?_⟩
  ·exact Az S.same ⟨_,_,rfl⟩
  ·by_cases q:b ∈ wr
   ·exact hl b q
   ·obtain⟨o',e'⟩:=S.pl b o p e;exact⟨o',hk b o' q e'⟩
  ·obtain⟨q1,q2,q3⟩:=S.lock a o e l
   refine⟨q1,q2,fun b hb=>?_⟩
   rw[<- q3 b hb]
   obtain⟨ob,eb⟩:=Rt.live b ⟨a,by rw[q1];simp,by rw[q2];exact hb⟩
   have hbw:b ∉ wr:=fun q=>hown H' G' t S b q ⟨a,by rw[q1];simp,by rw[q2];exact hb⟩
   refine(?_:h'.get? b=_)
   rw[eb];exact hk b ob hbw eb
 refine ret (Rb (fun n t=>∃ i ρ' H' G',n=vs.length - i/\i<=vs.length/\J i ρ' H' G' t/\Dz tg T Q (vs.drop i) ρ' H') (fun n t hI=>?_) vs.length ⟨0,ρ,H,G,by simp,by simp,⟨F2,hs,R2,.refl s2,ok.st,fun a o ha z0=>⟨ha,rfl⟩⟩,by simpa using hgo⟩)
 refine Ag fun PZ ret=>?_
 obtain⟨i,ρ1,H1,G1,rfl,hi,⟨F1,hs1,R1,S1,st1,hlk1⟩,hgo1⟩:=hI
 rcases Nat.lt_or_ge i vs.length with hlt | hge
 ·refine ret (ok.W.step i t target _ _ hTG hlt st1 fun v s1 hgo2=>?_)
  refine hgo2 _ _ fun h5 tk5 hP st5 hk5=>?_
  clear hgo2
  have S5:=shiftW i H1 G1 t h5 st1 S1 R1 hk5
  have F5:=S5.wf F1 hwrF hwrA
  have R5:=S5.rel R1 (hown H1 G1 t S1)
  have T5:=stepW H1 G1 t h5 tk5 S1 R1 hk5 (fun b hb=>let ⟨o,_,e,_⟩:=ok.wl _ _ st5 b hb;⟨o,e⟩) hlk1
  obtain⟨u,hu,hru⟩:=ok.item i v _ _ hP
  have hdrop:vs.drop i=u :: vs.drop (i + 1):=by
   obtain⟨hlt',e⟩:=List.getElem?_eq_some_iff.mp hu
   rw[List.drop_eq_getElem_cons hlt',e]
  have hsu:u.sto=true:=Bk hst (List.mem_of_getElem? hu)
  rw[hdrop]at hgo1
  obtain⟨ρ',hput,hT⟩:=hgo1
  have ru5:VRel h5 (own H1 G1) G1 u v:=hru.mono (fun b o' xs n e hd hb=>by
   have hbw:b ∉ wr:=fun q=>ok.wns 0 _ ok.st b q o' e xs n hd
   have hbP:¬ PP b:=fun q=>q.elim (F2.noseq e hd) hbw
   obtain⟨o1,e1,q1⟩:=S1.keep b o' hb hbP e
   rw[q1.eq (Cr hd)]at e1
   exact⟨hk5 b o' hbw e1,fun q=>(S1.fresh b q).elim hb fun n'=>by rw[n']at e;exact nqa e⟩) (fun b hb q=>by
    obtain⟨ob,e⟩:=R1.live b hb
    rw[q]at e;exact nqa e) hsu
  refine ht k A env { t with heap:=h5,toks:=tk5 } ρ1 ρ' H1 G1 _ u v _ hA F5 R5 ru5 hput fun s6 s7 k6 fs7 F7=>?_
  have F6:=F5.keep k6.k
  have R6:=R5.keep k6.k
  have fs7':FS (fr env) s6 s7:=fs7.mono fun z0=>Bp
  have R7:=R6.fs F6 fs7'
  have S67:Step (fr env) H1 G1 { t with heap:=h5,toks:=tk5 } H1 G1 s7:=(Step.kp R5 k6).trans (Step.fs F6 R6 fs7')
  have S7:=hPP H1 G1 _ H1 G1 s7 T5 S67
  have st7:St (i + 1) s7.heap:=ok.W.frame _ _ _ st5 fun b hb o e=>hcsk H1 G1 _ T5 hlk1 _ st5 H1 G1 s7 S67 b hb o e
  have hs7:stoR sc ρ':=Tgt.put_sto (s:={ t with heap:=h5,toks:=tk5 }) R5 hs1 hsu hput
  refine wpAny_mono (hb A env s7 ρ' H1 G1 _ hA F7 hs7 R7 hT) (fun fl s8 h8=>?_) fun z0 z0 x=>x
  obtain⟨af,ρ3,H3,G3,hq3,hf,F3,hs3,R3,S3⟩:=h8
  have S8:=hPP H1 G1 s7 H3 G3 s8 S7 S3
  have st8:St (i + 1) s8.heap:=ok.W.frame _ _ _ st7 fun b hb o e=>hcsk H1 G1 s7 S7 hlk1 _ st7 H3 G3 s8 S3 b hb o e
  have hlk8:=hlkt H1 G1 H3 G3 s7 s8 hlk1 S3
  cases af with
  | next=>cases hf.nextE;exact⟨vs.length - (i + 1),by exact Ar.r193 hlt,i + 1,ρ3,H3,G3,rfl,hlt,⟨F3,hs3,R3,S8,st8,hlk8⟩,hq3⟩
  | cont=>cases hf.contE;exact⟨vs.length - (i + 1),by exact Ar.r193 hlt,i + 1,ρ3,H3,G3,rfl,hlt,⟨F3,hs3,R3,S8,st8,hlk8⟩,hq3⟩
  | brk=>cases hf.brkE;exact hPQ _ _ ⟨.next,ρ3,H3,G3,hq3,trivial,F3,hs3,R3,fin _ _ _ S8⟩
  | ret v=>obtain⟨x,rfl,hf⟩:=hf.retE;exact hPQ _ _ ⟨.ret v,ρ3,H3,G3,hq3,hf,F3,hs3,R3,fin _ _ _ S8⟩
 ·have:i=vs.length:=Nat.le_antisymm hi hge
  rw[this,List.drop_length]at hgo1
  rw[this]at st1
  refine ret (this ▸ ok.W.done _ _ _ st1 fun h5 tk5 hk5=>?_)
  have S5:=shiftW _ H1 G1 t h5 st1 S1 R1 hk5
  have F5:=S5.wf F1 hwrF hwrA
  have R5:=S5.rel R1 (hown H1 G1 t S1)
  refine hPQ _ _ ⟨.next,ρ1,H1,G1,hgo1,trivial,F5,hs1,R5,?_⟩
  have Sf:=fin _ _ _ S1
  refine⟨?_,fun b o h1 h2 e=>?_,fun b o p e=>?_,Sf.fresh,fun a o e l=>?_⟩
  ·exact Az Sf.same ⟨_,_,rfl⟩
  ·obtain⟨o',e',q'⟩:=Sf.keep b o h1 h2 e
   exact⟨o',hk5 b o' (fun q=>by rw[(ok.new b q).1]at e;exact nqa e) e',q'⟩
  ·obtain⟨o',e'⟩:=Sf.pl b o p e;exact⟨o',hk5 b o' (fun q=>hwrF b q p) e'⟩
  ·obtain⟨q1,q2,q3⟩:=Sf.lock a o e l
   refine⟨q1,q2,fun b hb=>?_⟩
   rw[<- q3 b hb]
   have hO:own H1 G1 b:=⟨a,by rw[q1];simp,by rw[q2];exact hb⟩
   obtain⟨ob,eb⟩:=R1.live b hO
   have hbw:b ∉ wr:=fun q=>hown H1 G1 t S1 b q hO
   refine(?_:h5.get? b=_)
   rw[eb];exact hk5 b ob hbw eb
theorem StmtR.for {TG:Expr->Prop}{target iter:Expr}{body:List Stmt}{pos:Pos}{fs:LF}{tg:Tgt}{T:Wp AFlow}(hit:IterS C k sc iter fs TG)(ht:AssignR C sc target tg)(hb:StmtsR C k sc body T)(hsi:∀ env x,foldedSetIterable iter env x=pure x:=by intro _ _;rfl)(hTG:TG target:=by first | exact True.intro | exact⟨_,_,_,rfl⟩) :
  StmtR C k sc (.For target iter body [] pos) (Ja fs tg T):=by
 rintro A env s ρ H G Q hA F hs R ⟨vs,hvs,hst,hgo⟩
 exact wpAny_For (wpAny_mono (hit A env s ρ H G _ vs hA F R hvs) (fun x s1 h1=>wpAny_mono h1 (fun it s2 h2=>Ra hTG ht hb hA F hs R hst hgo h2 fun z0 z0 h=>h) fun z0 z0 x=>x) fun z0 z0 x=>x) (hsi env)
noncomputable def FObj.hold:FObj->FObj
 | .lst _ vs=>.lst true vs
 | .mat _ M=>.mat true M
 | .dic _ es=>.dic true es
 | o=>o
theorem ORelF.hold {h:Heap}{O:Addr->Prop}{o:FObj}{a:Addr}{g:List Addr}:ORelF C h O G o.hold a g <-> ORelF C h O G o a g:=by cases o <;> exact Iff.rfl
theorem Rel.relabel {h:Heap}{a:Addr}{o o':AObj}(R:Rel C H G (own H G) h)(ha:H a=some o)(ho:ORel C h (own H G) G o' a (G a)):Rel C (upd H a o') G (own (upd H a o') G) h :=
 R.change ha (fun z0 z0 z0 z0 e=>e) ho fun b hb=>R.live b ⟨a,by rw[ha];simp,hb⟩
noncomputable def Mq (T:Wp AFlow):Wp AFlow:=fun Q ρ H=>∃ a o,H a=some (.f o)/\o.hold.lk=true/\T (fun fl ρ' H'=>Q fl ρ' (upd H' a (.f o))) ρ (upd H a (.f o.hold))
theorem PostS.unhold {A:Around}{env:Env}{s s1:Shared}{H:AH}{G:Gh}{Q:AFlow->Rho->AH->Prop}{a:Addr}{o:FObj}{fl:Flow}(ha:H a=some (.f o))(hlk:o.hold.lk=true)(h1:PostS C A sc env s (upd H a (.f o.hold)) G (fun fl ρ' H'=>Q fl ρ' (upd H' a (.f o))) fl s1):PostS C A sc env s H G Q fl s1:=by
 have hne:H a ≠ none:=by rw[ha];simp
 have oe:own (upd H a (.f o.hold)) G=own H G:=Gv hne
 obtain⟨af,ρ3,H3,G3,hq3,hf,F3,hs3,R3,S3⟩:=h1
 have hH3:H3 a=some (.f o.hold):=(S3.lock a o.hold (by simp) hlk).1
 have hne3:H3 a ≠ none:=by rw[hH3];simp
 have oe3:own (upd H3 a (.f o)) G3=own H3 G3:=Gv hne3
 refine⟨af,ρ3,upd H3 a (.f o),G3,hq3,by rw[oe3];exact hf,by rw[oe3];exact F3,hs3,R3.relabel hH3 (ORelF.hold.mp (R3.obj a _ hH3)),S3.same,fun b ob h1 h2 e=>S3.keep b ob (by rw[oe];exact h1) h2 e,S3.pl,fun b hb=>?_,fun x ox e hl=>?_⟩
 ·have:=S3.fresh b (by rw[oe3]at hb;exact hb)
  rwa [oe]at this
 ·by_cases q:x=a
  ·clear F3 R3 hH3 hf hl hne hne3 hq3 hs3 oe oe3;subst q
   rw[ha]at e
   have e':o=ox:=by injection e with e;injection e
   subst e'
   obtain⟨q1,q2,q3⟩:=S3.lock x o.hold (by simp) hlk
   exact⟨by simp,q2,q3⟩
  ·obtain⟨q1,q2,q3⟩:=S3.lock x ox (by rw[Ab q];exact e) hl
   exact⟨by rw[Ab q];exact q1,q2,q3⟩
theorem StmtR.hold {st:Stmt}{T:Wp AFlow}(h:StmtR C k sc st T):StmtR C k sc st (Mq T):=by
 rintro A env s ρ H G Q hA F hs R ⟨a,o,ha,hlk,hT⟩
 have oe:own (upd H a (.f o.hold)) G=own H G:=Gv (by rw[ha];simp)
 exact wpAny_mono (h A env s ρ (upd H a (.f o.hold)) G _ hA (by rw[oe];exact F) hs (R.relabel ha (ORelF.hold.mpr (R.obj a _ ha))) hT) (fun fl s1 h1=>h1.unhold ha hlk) fun z0 z0 x=>x
end
end Mine
end
section
namespace Mine
theorem Ly {prog:Program}{w:World}{A:Around}{E:Value->Shared->Prop}{s:Shared}{l:Addr}{items:List Value}{n:Nat}{i:Int}{t:Tok}{v:Value}{Q:Unit->Shared->Prop}(hl:s.heap.get? l=some (Bu items n))
  (h0:0<=i) (hn:i < items.length) (hz:items.length<=lim)
  (hQ:∀ h' n',h'.get? l=some (Bu (items.set i.toNat v) n')->Heap.SameBut l s.heap h'->Q () { s with heap:=h' }) :
  wpAny (model prog w) A (setItem (.ref l) (.int i t) v) Q E s:=by
 have hli:=Am hl
 rw[An]at hz
 have hQ':Q () { s with heap:=s.heap.update l (Obj.mapSeq (·.setIfInBounds i.toNat v)) }:=by
  refine hQ _ n ?_ (Heap.SameBut.update ..)
  rw[Heap.get?_update_self _ hl (Obj.isFreed_of_seq (o:=(Bu items n).mapSeq (·.setIfInBounds i.toNat v)) rfl)]
  simp[Bu,Obj.mapSeq]
 have hfit:i < 2 ^ 63:=by omega
 unfold setItem
 try with_reducible refine wpAny_holding ?_
 first | refine wpAny_bind (wpAny_pure ?_) | skip
 refine wpAny_bind (wpAny_sequenceKey hli.typeIs (by decide) ?_)
 refine wpAny_bind (wpAny_callSpecial?_slot (name:=Str.ofString "__setitem__") hli.typeIs slot_list_setitem
  (wpAny_call_entry slot_list_setitem hli.typeIs entry_list_setitem ?_ (args_list_setitem _ _ _)))
 refine(?_:wpAny _ _ (Builtin.List.listSubscript? (.int i t) >>= _) _ _ s)
 refine wpAny_bind (wpAny_listSubscript_int (fitsIndex_of h0 hfit) ?_)
 clear hfit
 obtain⟨j,rfl⟩:=Int.eq_ofNat_of_zero_le h0
 have hj:j < items.toArray.size:=by simp;omega
 have hx':items.toArray[j]? = some items.toArray[j]:=Array.getElem?_eq_getElem hj
 refine(?_:wpAny _ _ ((seqItemAt l j >>= fun r=>pure (r.map (j,·))) >>= _) _ _ s)
 refine wpAny_bind (wpAny_bind (wpAny_seqItemAt hl rfl (wpAny_pure ?_)))
 rw[hx']
 refine(?_:wpAny _ _ (setSeqItemAt l j v >>= _) _ _ s)
 refine wpAny_bind (wpAny_setSeqItemAt hl rfl ?_)
 first
  | exact wpAny_bind (wpAny_pure (wpAny_pure ⟨.none,rfl,wpAny_pure hQ'⟩))
  | exact wpAny_pure ⟨.none,rfl,wpAny_pure hQ'⟩
section
variable {C:Cx} {k:Nat} {sc:Sc} {env:Env} {ρ:Rho} {H H':AH} {G G':Gh} {s s':Shared} {f f':PF}
theorem Ny {α:Type}:∀ {l:List α} {i:Nat} {b:α},l.Nodup->b ∉ l->(l.set i b).Nodup
 | [],_,_,_,_=>by simp
 | x :: l,0,b,h,hb=>by
  rw[List.set_cons_zero,List.nodup_cons]
  exact⟨fun q=>hb (List.mem_cons_of_mem _ q),(List.nodup_cons.mp h).2⟩
 | x :: l,i + 1,b,h,hb=>by
  rw[List.nodup_cons]at h
  rw[List.set_cons_succ,List.nodup_cons]
  refine⟨fun q=>?_,Ny h.2 fun q=>hb (List.mem_cons_of_mem _ q)⟩
  rcases List.mem_or_eq_of_mem_set q with q | q
  ·exact h.1 q
  ·exact hb (q ▸ List.mem_cons_self)
theorem Step.turn {a:Addr}{o o':FObj}{h':Heap}{tk:Nat}(R:Rel C H G (own H G) s.heap)(ha:H a=some (.f o))(hl:o.lk=false)(hk:∀ b ob,b ≠ a->b ∉ G a->s.heap.get? b=some ob->h'.get? b=some ob) :
  Step (fun z0=>False) H G s (upd H a (.f o')) G { s with heap:=h',toks:=tk }:=by
 have hne:H a ≠ none:=by rw[ha];simp
 refine⟨⟨h',tk,rfl⟩,fun b ob h1 z0 e=>⟨ob,hk b ob (fun q=>h1 (q ▸ ⟨a,hne,.inl rfl⟩)) (fun q=>h1 ⟨a,hne,.inr q⟩) e,.refl ob⟩,fun z0 z0 x=>x.elim,fun b hb=>.inl (by rwa [Gv hne]at hb),fun x ox e l=>?_⟩
 have hxa:x ≠ a:=fun qq=>by first | (rw[<- qq,ha]at e;obtain rfl:=fI e;rw[hl]at l;exact nqd l) | (rw[qq,ha]at e;obtain rfl:=fI e;rw[hl]at l;exact nqd l)
 refine⟨by rw[Ab hxa];exact e,rfl,fun b hb=>?_⟩
 have hx:H x ≠ none:=by rw[e];simp
 obtain⟨ob,eb⟩:=R.live b ⟨x,hx,hb⟩
 refine(?_:h'.get? b=_)
 rw[eb]
 exact hk b ob (fun q=>R.dj x a b hx hne hxa hb (.inl q)) (fun q=>R.dj x a b hx hne hxa hb (.inr q)) eb
theorem Jk {a:Addr}{lk:Bool}{vs ws:List AV}{items:List Value}{h':Heap}{n tk:Nat}(R:Rel C H G (own H G) s.heap)(ha:H a=some (.f (.lst false vs)))(hs:AV.stos ws=true)(hz:ws.length<=lim)
  (hg:h'.get? a=some (Bu items n)) (hk:∀ b ob,b ≠ a->s.heap.get? b=some ob->h'.get? b=some ob) (hr:VRels s.heap (own H G) G ws items) :
  Rel C (upd H a (.f (.lst false ws))) G (own (upd H a (.f (.lst false ws))) G) h'/\Step (fun z0=>False) H G s (upd H a (.f (.lst false ws))) G { s with heap:=h',toks:=tk }:=by
 have hO:own H G a:=⟨a,by rw[ha];simp,.inl rfl⟩
 obtain⟨hG,_⟩:=R.obj a _ ha
 refine⟨R.change ha (fun b ob h1 z0 e=>hk b ob h1 e) ⟨hG,hs,hz,n,items,hg,hr.wide fun b ob xs n e z0 hb=>⟨hk b ob (fun q=>hb (q ▸ hO)) e,hb⟩⟩ (fun b hb=>?_),.turn R ha rfl fun b ob h1 z0 e=>hk b ob h1 e⟩
 rw[hG]at hb;simp at hb;clear R hG hO ha hk hr hs hz right;subst hb;exact⟨_,hg⟩
theorem Px {a b:Addr}{i:Nat}{M:List (List AV)}{ws:List AV}{items:List Value}{h':Heap}{n tk:Nat}(R:Rel C H G (own H G) s.heap)(ha:H a=some (.f (.mat false M)))(hi:i < M.length)(hb:(G a)[i]? = some b)(hs:AV.stos ws=true)(hz:ws.length<=lim)
  (hg:h'.get? b=some (Bu items n)) (hk:∀ c ob,c ≠ b->s.heap.get? c=some ob->h'.get? c=some ob) (hr:VRels s.heap (own H G) G ws items) :
  Rel C (upd H a (.f (.mat false (M.set i ws)))) G (own (upd H a (.f (.mat false (M.set i ws)))) G) h'/\Step (fun z0=>False) H G s (upd H a (.f (.mat false (M.set i ws)))) G { s with heap:=h',toks:=tk }:=by
 have hne:H a ≠ none:=by rw[ha];simp
 refine Ag fun PP ret=>?_
 have hbm:=List.mem_of_getElem? hb
 have hO:own H G b:=⟨a,hne,.inr hbm⟩
 obtain⟨⟨n0,h0⟩,h1,h2,h3⟩:=R.obj a _ ha
 have hnd:=R.nd a hne
 have hab:a ≠ b:=fun q=>(List.nodup_cons.mp hnd).1 (q ▸ hbm)
 have wd:∀ {us:List AV} {ys:List Value},VRels s.heap (own H G) G us ys->VRels h' (own H G) G us ys:=fun r=>r.wide fun c ob xs n e z0 hc=>⟨hk c ob (fun q=>hc (q ▸ hO)) e,hc⟩
 refine ret ?_
 refine⟨R.change ha (fun c ob h1 h2 e=>hk c ob (fun q=>h2 (q ▸ hbm)) e) ⟨⟨n0,hk a _ hab h0⟩,by simp[h1],by simpa using h2,fun j us c hj hc=>?_⟩ (fun c hc=>?_),.turn R ha rfl fun c ob h1 h2 e=>hk c ob (fun q=>h2 (q ▸ hbm)) e⟩
 ·by_cases q:j=i
  ·refine Ag fun PP ret=>?_
   clear R h0 h1 h2 h3 hO ha hab hbm hk hnd hne;subst q
   rw[hb]at hc;obtain rfl:=Option.some.inj hc
   simp[hi]at hj;subst hj
   refine ret ?_
   exact⟨hs,hz,n,items,hg,wd hr⟩
  ·refine Ag fun PP ret=>?_
   rw[List.getElem?_set_ne (Ne.symm q)]at hj
   obtain⟨q1,q2,n',it',q3,q4⟩:=h3 j us c hj hc
   have hcb:c ≠ b:=by
    clear R h0 h1 h2 h3 hO ha hab hbm hg hi hj hk hne hr hs hz q1 q2 q3 q4 ret wd;rintro rfl
    apply q
    have hl1:=(List.getElem?_eq_some_iff.mp hc).1
    have hl2:=(List.getElem?_eq_some_iff.mp hb).1
    exact(List.getElem_inj (List.nodup_cons.mp hnd).2).mp ((List.getElem?_eq_some_iff.mp hc).2.trans (List.getElem?_eq_some_iff.mp hb).2.symm)
   refine ret ?_
   exact⟨q1,q2,n',it',hk c _ hcb q3,wd q4⟩
 ·by_cases q:c=b
  ·clear R h0 h1 h2 h3 hO ha hab hb hbm hc hi hk hnd hne hr hs hz ret wd;subst q;exact⟨_,hg⟩
  ·obtain⟨ob,e⟩:=R.live c ⟨a,hne,hc⟩;exact⟨ob,hk c ob q e⟩
theorem Vu {a b:Addr}{gs:List Addr}{M M':List (List AV)}{ws:List AV}{h':Heap}{n tk:Nat}(R:Rel C H G (own H G) s.heap)(ha:H a=some (.f (.mat false M)))(hb:H b=some (.f (.lst false ws)))(hab:a ≠ b)(hm:∀ z,z ∈ gs->z ∈ G a\/z=b)(hn2:(G a).Nodup->b ∉ G a->gs.Nodup)(hl2:gs.length=M'.length)(hz2:M'.length<=lim)(hr2:∀ (j:Nat) (us:List AV) (c:Addr),M'[j]? = some us->gs[j]? = some c->(us=ws/\c=b)\/∃ i:Nat,M[i]? = some us/\(G a)[i]? = some c)
  (hg:h'.get? a=some (Bu (gs.map Value.ref) n)) (hk:∀ c ob,c ≠ a->s.heap.get? c=some ob->h'.get? c=some ob) :
  Rel C (upd (del H b) a (.f (.mat false M'))) (Bx G a gs) (own (upd (del H b) a (.f (.mat false M'))) (Bx G a gs)) h' /\
   Step (fun z0=>False) H G s (upd (del H b) a (.f (.mat false M'))) (Bx G a gs) { s with heap:=h',toks:=tk }:=by
 have hne:H a ≠ none:=by rw[ha];simp
 have hnb:H b ≠ none:=by rw[hb];simp
 obtain⟨⟨n0,h0⟩,h1,h2,h3⟩:=R.obj a _ ha
 obtain⟨hGb,hsb,hzb,nb,ib,h4,h5⟩:=R.obj b _ hb
 have hnd:=R.nd a hne
 have hba:¬ (b=a\/b ∈ G a):=R.dj b a b hnb hne (Ne.symm hab) (.inl rfl)
 have ga:Bx G a gs a=gs:=by simp[Bx]
 have gx:∀ x,x ≠ a->Bx G a gs x=G x:=fun x e=>by simp[Bx,e]
 have hx:∀ x,upd (del H b) a (.f (.mat false M')) x ≠ none->x ≠ a->H x ≠ none/\x ≠ b:=fun x hx e=>by
  rw[Ab e]at hx
  unfold del at hx
  set_option tactic.hygienic true in split at hx
  ·exact absurd rfl hx
  ·rename_i q;exact⟨hx,q⟩
 have sub:∀ c,own (upd (del H b) a (.f (.mat false M'))) (Bx G a gs) c->own H G c:=by
  rintro c ⟨x,hx',hc⟩
  by_cases e:x=a
  ·clear R gx h0 h1 h2 h3 h4 h5 hGb ha hab hb hba hg hk hl2 hn2 hnd hr2 hsb hx hx' hz2 hzb;subst e;rw[ga]at hc
   rcases hc with rfl | hc
   ·exact⟨c,hne,.inl rfl⟩
   ·rcases hm _ hc with q | q
    ·exact⟨x,hne,.inr q⟩
    ·subst q;exact⟨c,hnb,.inl rfl⟩
  ·rw[gx x e]at hc;exact⟨x,(hx x hx' e).1,hc⟩
 have hO:own H G a:=⟨a,hne,.inl rfl⟩
 have mn:∀ c ob xs n,s.heap.get? c=some ob->ob.data = .seq xs n->¬ own H G c->h'.get? c=some ob/\¬ own (upd (del H b) a (.f (.mat false M'))) (Bx G a gs) c:=fun c ob xs n e z0 hc=>⟨hk c ob (fun q=>hc (q ▸ hO)) e,fun q=>hc (sub c q)⟩
 refine⟨⟨fun z0 x=>x,fun x o hxo=>?_,fun x hxn=>?_,fun x y z hxn hyn hxy hz=>?_,fun c o e=>?_,fun c hc=>?_⟩,⟨h',tk,rfl⟩,fun c ob hc z0 e=>⟨ob,hk c ob (fun q=>hc (q ▸ hO)) e,.refl ob⟩,fun z0 z0 x=>x.elim,fun c hc=>.inl (sub c hc),fun x ox e l=>?_⟩
 ·by_cases e:x=a
  ·clear R gx h0 h1 h2 hGb hO ha hb hba hm hn2 hnb hne hx sub;subst e
   rw[Af]at hxo;obtain rfl:=Option.some.inj hxo
   rw[ga]
   refine⟨⟨n,hg⟩,hl2,hz2,fun j us c hj hc=>?_⟩
   rcases hr2 j us c hj hc with ⟨rfl,rfl⟩ | ⟨i,hj,hc⟩
   ·exact⟨hsb,hzb,nb,ib,hk _ _ (Ne.symm hab) h4,h5.mono mn hsb⟩
   ·obtain⟨q1,q2,n',it',q3,q4⟩:=h3 i us c hj hc
    exact⟨q1,q2,n',it',hk c _ (fun q=>(List.nodup_cons.mp hnd).1 (by have hcm:=List.mem_of_getElem? hc;rw[q]at hcm;exact hcm)) q3,q4.mono mn q1⟩
  ·have hxn:=hx x (by rw[hxo];simp) e
   rw[Ab e]at hxo
   have hxo':H x=some o:=by simpa [del,hxn.2]using hxo
   rw[gx x e]
   exact(R.obj x o hxo').mono mn fun c ob hc e'=>hk c ob (fun q=>R.dj x a c hxn.1 hne e hc (.inl q)) e'
 ·by_cases e:x=a
  ·clear R gx h0 h1 h2 h3 h4 h5 hGb hO ha hb hg hk hl2 hnb hne hr2 hsb hx hxn hz2 hzb mn sub;subst e;rw[ga,List.nodup_cons]
   rw[List.nodup_cons]at hnd
   refine⟨fun q=>?_,?_⟩
   ·rcases hm _ q with q | q
    ·exact hnd.1 q
    ·exact hab q
   ·exact hn2 hnd.2 fun q=>hba (.inr q)
  ·rw[gx x e];exact R.nd x (hx x hxn e).1
 ·have hGs:∀ z,(z=a\/z ∈ gs)->(z=a\/z ∈ G a)\/z=b:=fun z hz=>by
   rcases hz with q | q
   ·exact .inl (.inl q)
   ·rcases hm _ q with q | q
    ·exact .inl (.inr q)
    ·exact .inr q
  by_cases e:x=a
  ·clear h0 h1 h2 h3 h4 h5 hGb hO ha hab hb hba hg hk hl2 hm hn2 hnd hr2 hsb hxn hz2 hzb mn sub;subst e
   rw[ga]at hz
   have ey:=Ne.symm hxy
   rw[gx y ey]
   have hy:=hx y hyn ey
   rcases hGs z hz with q | q
   ·exact R.dj x y z hne hy.1 hxy q
   ·subst q;exact R.dj z y z hnb hy.1 (Ne.symm hy.2) (.inl rfl)
  ·rw[gx x e]at hz
   have hx':=hx x hxn e
   by_cases ey:y=a
   ·clear gx h0 h1 h2 h3 h4 h5 hGb hO ha hab hb hba hg hk hl2 hm hn2 hnd hr2 hsb hx hxn hxy hyn hz2 hzb mn sub;subst ey;rw[ga]
    intro q
    rcases hGs z q with q | q
    ·exact R.dj x y z hx'.1 hne e hz q
    ·subst q;exact R.dj x z z hx'.1 hnb hx'.2 hz (.inl rfl)
   ·rw[gx y ey];exact R.dj x y z hx'.1 (hx y hyn ey).1 hxy hz
 ·have:=R.base c o e
  exact⟨hk c o (fun q=>this.2 (q ▸ hO)) this.1,fun q=>this.2 (sub c q)⟩
 ·by_cases q:c=a
  ·clear R ga gx h0 h1 h2 h3 h4 h5 hGb hO ha hab hb hba hc hk hl2 hm hn2 hnb hnd hne hr2 hsb hx hz2 hzb mn sub;subst q;exact⟨_,hg⟩
  ·obtain⟨ob,e⟩:=R.live c (sub c hc);exact⟨ob,hk c ob q e⟩
 ·have hxa:x ≠ a:=fun qq=>by first | (rw[<- qq,ha]at e;obtain rfl:=fI e;exact nqd l) | (rw[qq,ha]at e;clear ga h0 h1 h2 h3 h4 h5 hGb hO ha hab hba hg hl2 hm hn2 hnb hnd hr2 hsb hx hz2 hzb mn sub;obtain rfl:=fI e;exact nqd l)
  have hxb:x ≠ b:=fun qq=>by first | (rw[<- qq,hb]at e;obtain rfl:=fI e;exact nqd l) | (rw[qq,hb]at e;clear ga h0 h1 h2 h3 h4 h5 hGb hO ha hab hb hba hg hl2 hm hn2 hnb hnd hr2 hsb hx hz2 hzb mn qq sub;obtain rfl:=fI e;exact nqd l)
  refine⟨by rw[Ab hxa];simpa [del,hxb]using e,gx x hxa,fun c hc=>?_⟩
  have hxn:H x ≠ none:=by rw[e];simp
  obtain⟨ob,eb⟩:=R.live c ⟨x,hxn,hc⟩
  refine(?_:h'.get? c=_)
  rw[eb];exact hk c ob (fun q=>R.dj x a c hxn hne hxa hc (.inl q)) eb
theorem Xv {a b:Addr}{i:Nat}{M:List (List AV)}{lk:Bool}{ws:List AV}{h':Heap}{n tk:Nat}(R:Rel C H G (own H G) s.heap)(ha:H a=some (.f (.mat false M)))(hb:H b=some (.f (.lst false ws)))(hab:a ≠ b)(hi:i < M.length)
  (hg:h'.get? a=some (Bu (((G a).map Value.ref).set i (.ref b)) n)) (hk:∀ c ob,c ≠ a->s.heap.get? c=some ob->h'.get? c=some ob) :
  Rel C (upd (del H b) a (.f (.mat false (M.set i ws)))) (Bx G a ((G a).set i b)) (own (upd (del H b) a (.f (.mat false (M.set i ws)))) (Bx G a ((G a).set i b))) h' /\
   Step (fun z0=>False) H G s (upd (del H b) a (.f (.mat false (M.set i ws)))) (Bx G a ((G a).set i b)) { s with heap:=h',toks:=tk }:=by
 obtain⟨_,h1,h2,_⟩:=R.obj a _ ha
 refine Vu R ha hb hab (fun z hz=>List.mem_or_eq_of_mem_set hz) (fun q1 q2=>Ny q1 q2) (by rw[List.length_set,List.length_set,h1]) (by rw[List.length_set];exact h2) (fun j us c hj hc=>?_) (by rw[hg,List.map_set]) hk
 by_cases q:i=j
 ·subst q
  rw[List.getElem?_set_self hi]at hj;obtain rfl:=Option.some.inj hj
  rw[List.getElem?_set_self (h1 ▸ hi)]at hc;obtain rfl:=Option.some.inj hc
  exact .inl ⟨rfl,rfl⟩
 ·rw[List.getElem?_set_ne q]at hj hc
  exact .inr ⟨j,hj,hc⟩
noncomputable def Ym (vs:List AV) (i:Int) (v:AV):Option (List AV):=if 0<=i/\i < vs.length/\v.sto=true then some (vs.set i.toNat v) else none
noncomputable def Sd (H:AH) (ov iv v:AV):Option AH:=match iv with
 | .int i=>match ov with
  | .ref a=>match H a with
   | some (.f (.lst false vs))=>(Ym vs i v).map fun ws=>upd H a (.f (.lst false ws))
   | some (.f (.mat false M))=>match v with
    | .ref b=>match H b with
     | some (.f (.lst false ws))=>if 0<=i/\i < M.length/\a ≠ b then some (upd (del H b) a (.f (.mat false (M.set i.toNat ws)))) else none
     | _=>none
    | _=>none
   | _=>none
  | .row a j=>match H a with
   | some (.f (.mat false M))=>match M[j]? with
    | some row=>(Ym row i v).map fun ws=>upd H a (.f (.mat false (M.set j ws)))
    | none=>none
   | _=>none
  | _=>none
 | _=>none
theorem Nv {vs ws:List AV}{i:Int}{v:AV}(h:Ym vs i v=some ws):0<=i/\i < vs.length/\v.sto=true/\ws=vs.set i.toNat v:=by
 unfold Ym at h
 refine Bj h ?_;clear h;intro q h
 obtain rfl:=Option.some.inj h;exact⟨q.1,q.2.1,q.2.2,rfl⟩
theorem Qa {vs:List AV}{v:AV}(h:AV.stos vs=true)(hv:v.sto=true)(i:Nat):AV.stos (vs.set i v)=true:=by
 rw[stos_iff]at h ⊢
 intro u hu
 rcases List.mem_or_eq_of_mem_set hu with q | q
 ·exact h u q
 ·clear h hu;subst q;exact hv
theorem Se {A:Around}{ov iv v:AV}{x y z:Value}{Q:Unit->Shared->Prop}(R:Rel C H G (own H G) s.heap)(hx:VRel s.heap (own H G) G ov x)(hy:VRel s.heap (own H G) G iv y)(hz:VRel s.heap (own H G) G v z)(e:Sd H ov iv v=some H')
  (hQ:∀ s' G',Rel C H' G' (own H' G') s'.heap->Step (fun z0=>False) H G s H' G' s'->Q () s'):wpAny (model C.prog C.w) A (setItem x y z) Q (fun z0 z0=>False) s:=by
 unfold Sd at e
 refine lO e ?_;clear e;rintro i rfl e
 simp only [vRi]at hy
 obtain⟨t,rfl⟩:=hy
 set_option tactic.hygienic true in cases ov <;> first | exact nqa e | skip
 ·rename_i a
  simp only [vRr]at hx;subst hx
  dsimp only at e
  generalize ha:H a=o at e
  cases o with
  | none=>exact nqa e
  | some o=>cases o with
   | srt=>exact nqa e
   | f o =>
    set_option tactic.hygienic true in cases o <;> first | exact nqa e | (rename_i lk _;cases lk <;> first | exact nqa e | skip)
    ·rename_i vs
     refine Ag fun PP ret=>?_
     obtain⟨ws,hws,rfl⟩:=Option.map_eq_some_iff.mp e
     obtain⟨h0,h1,h2,rfl⟩:=Nv hws
     obtain⟨_,hst,hlim,n,items,hg,hr⟩:=R.obj a _ ha
     have hlen:=hr.length
     refine ret ?_
     refine Ly hg h0 (by exact Ar.r244 h1 hlen) (by exact Ar.r96 hlim hlen) fun h' n' hg' hs'=>?_
     obtain⟨R',S'⟩:=Jk (lk:=false) (tk:=s.toks) R ha (Qa hst h2 i.toNat) (by simpa using hlim) hg' (fun b ob hb e=>hs'.extBut b ob hb e) (hr.set hz)
     exact hQ _ G R' S'
    ·rename_i M
     refine Sy e ?_;clear e;rintro b rfl e
     refine eY e ?_;clear e;intro ws hb e
     refine Bj e ?_;clear e;intro hc e
     obtain rfl:=Option.some.inj e
     refine Ag fun PP ret=>?_
     simp only [vRr]at hz;subst hz
     obtain⟨⟨n0,h0⟩,h1,h2,h3⟩:=R.obj a _ ha
     refine ret ?_
     refine Ly h0 hc.1 (by simp;lia) (by simp;exact Ar.r32 h1 h2) fun h' n' hg' hs'=>?_
     obtain⟨R',S'⟩:=Xv (lk:=false) (tk:=s.toks) R ha hb hc.2.2 (by lia) hg' (fun b ob hb e=>hs'.extBut b ob hb e)
     exact hQ _ _ R' S'
 ·rename_i a j
  refine eX e ?_;clear e;intro M ha e
  refine Pk e ?_;clear e;intro row hrow e
  refine Ag fun PP ret=>?_
  obtain⟨ws,hws,rfl⟩:=Option.map_eq_some_iff.mp e
  obtain⟨h0,h1,h2,rfl⟩:=Nv hws
  simp only [vRw]at hx
  obtain⟨b,hb,rfl⟩:=hx
  obtain⟨_,_,_,hrows⟩:=R.obj a _ ha
  obtain⟨q1,q2,n,items,hg,hr⟩:=hrows j row b hrow hb
  have hlen:=hr.length
  refine ret ?_
  refine Ly hg h0 (by exact Ar.r244 h1 hlen) (by exact Ar.r96 q2 hlen) fun h' n' hg' hs'=>?_
  obtain⟨R',S'⟩:=Px (tk:=s.toks) R ha (List.getElem?_eq_some_iff.mp hrow).1 hb (Qa q1 h2 i.toNat) (by simpa using q2) hg' (fun b ob hb e=>hs'.extBut b ob hb e) (hr.set hz)
  exact hQ _ G R' S'
noncomputable def Vx (W:Wp AV) (fo fi:PF):Wp AFlow:=fun Q=>W fun v ρ H=>∃ ov iv H',fo ρ H=some ov/\fi ρ H=some iv/\Sd H ov iv v=some H'/\Q .next ρ H'
theorem StmtR.set {o i e:Expr}{p pos:Pos}{W:Wp AV}(he:ImpE C k sc e W)(ho:PureE C k sc o f)(hi:PureE C k sc i f')(hsw:∀ env,swapsWith e (some (.Subscript o i p)) pos.line env=pure false:=by intro _;rfl) :
  StmtR C k sc (.Assign [.Subscript o i p] e pos) (Vx W f f'):=by
 intro A env s ρ H G Q hA F hs R hT
 refine wpAny_Assign_Subscript (wpAny_mono (he A env s ρ H G _ hA F hs R hT) (fun z s1 h1=>?_) fun z0 z0 x=>x) (hsw env)
 refine Ag fun PP ret=>?_
 obtain⟨v,ρ1,H1,G1,⟨ov,iv,H2,hov,hiv,hset,hq⟩,hv,hsv,F1,hs1,R1,S1⟩:=h1
 refine ret ?_
 refine PureE.two ho hi hA F1 R1 hov hiv fun x y s2 hx hy k2=>?_
 have R2:=R1.keep k2.k
 have F2:=F1.keep k2.k
 refine Se R2 hx hy (hv.keep k2.k) hset fun s3 G3 R3 S3=>?_
 exact⟨.next,ρ1,H2,G3,hq,trivial,S3.wf F2 hs1,hs1,R3,(S1.trans (.kp R1 k2)).trans (S3.frm F2)⟩
noncomputable def Xw (tg:Tgt) (W:Wp AV):Wp AFlow:=fun Q=>W fun v ρ H=>∃ ρ',tg.put H v ρ=some ρ'/\Q .next ρ' H
theorem StmtR.unpack {elts:List Expr}{e:Expr}{j:Nat}{p pos:Pos}{W:Wp AV}{tg:Tgt}(ht:AssignR C sc (.Tuple elts j p) tg)(he:ImpE C k sc e W)(hsw:∀ env,swapsWith e (some (.Tuple elts j p)) pos.line env=pure false:=by intro _;rfl)
  (hss:∀ env,swappedStores [.Tuple elts j p] e env=pure none:=by intro _;rfl):StmtR C k sc (.Assign [.Tuple elts j p] e pos) (Xw tg W):=by
 intro A env s ρ H G Q hA F hs R hT
 refine wpAny_Assign_stores (wpAny_mono (he A env s ρ H G _ hA F hs R hT) (fun z s1 h1=>?_) fun z0 z0 x=>x) (hsw env) (hss env)
 refine Ag fun PP ret=>?_
 obtain⟨v,ρ1,H1,G1,⟨ρ',hput,hq⟩,hv,hsv,F1,hs1,R1,S1⟩:=h1
 refine ret ?_
 refine(?_:wpAny _ _ (assign (.Tuple elts j p) env z) _ _ _)
 refine ht k A env s1 ρ1 ρ' H1 G1 _ v z _ hA F1 R1 hv hput fun s2 s3 k2 fs F3=>?_
 have fs':=fs.mono fun z0=>Bp
 have F2:=F1.keep k2.k
 have R2:=R1.keep k2.k
 exact⟨.next,ρ',H1,G1,hq,trivial,F3,Tgt.put_sto R1 hs1 hsv hput,R2.fs F2 fs',(S1.trans (.kp R1 k2)).trans (.fs F2 R2 fs')⟩
noncomputable def Hy (f:PF):CF:=fun ρ H=>match f ρ H with
 | some v=>Xz H v
 | none=>none
theorem TestE.val {e:Expr}(h:PureE C k sc e f)(ht:∀ (env:Env) (whole:Sem Value),isTrue e env whole=(do let v <- whole;standAt e.pos;holding [v] (truthy v)):=by intros;rfl):TestE C k sc e (Hy f):=by
 intro A env s ρ H G O b hA F R hb
 unfold Hy at hb
 refine Fo hb ?_;clear hb;intro v hv hb
 rw[ht]
 refine wpAny_bind (wpAny_mono (h A env s ρ H G O v hA F R hv) (fun x s1 h1=>?_) fun z0 z0 x=>x)
 obtain⟨hx,k1⟩:=h1
 exact wpAny_bind (wpAny_standAt (wpAny_holding (Xx hA (R.keep k1.k) hx hb fun tk=>⟨rfl,k1.trans' .tok⟩)))
end
end Mine
end
section
namespace Mine
section
variable {C:Cx} {k:Nat} {sc:Sc} {f f':PF}
theorem cK {A:Around}{s:Shared}{H:AH}{G:Gh}{O:Addr->Prop}{v:AV}{x:Value}{vs:List AV}{Q:List Value->Shared->Prop}(R:Rel C H G O s.heap)(hv:VRel s.heap O G v x)(hi:itV H v=some vs)
  (hQ:∀ xs s',VRels s'.heap O G vs xs->Kp s s'->Q xs s'):StarOf (model C.prog C.w) A (fun z0 z0=>False) x Q s:=by
 have lst:∀ (a:Addr) (n:Nat) (items:List Value),s.heap.get? a=some (Bu items n)->VRels s.heap O G vs items->vs.length<=lim->x = .ref a->StarOf (model C.prog C.w) A (fun z0 z0=>False) x Q s:=by
  intro a n items hg hr hz hx
  clear R hi hv;subst hx
  have hl:=hr.length
  unfold StarOf notIterableAtAll
  refine wpAny_bind (wpAny_specialOf (T:="list") ⟨_,hg,rfl⟩ PySem.F.slot_list_iter.lookup (wpAny_pure ⟨rfl,?_⟩))
  refine wpAny_collect_seq a (.inl rfl) hg rfl rfl (fun h' hk=>hQ _ _ (by simpa using hr.keep hk) ⟨⟨h',s.toks,rfl⟩,hk⟩) (by have:=Bv;simp;exact Ar.r95 hz hl this)
 cases v with
 | tup ws =>
  refine Ag fun PP ret=>?_
  clear R lst;obtain rfl:=Option.some.inj hi
  simp only [vRp]at hv
  obtain⟨a,n,items,rfl,hg,hO,hz,hr⟩:=hv
  have hl:=hr.length
  refine ret ?_
  unfold StarOf notIterableAtAll
  refine wpAny_bind (wpAny_specialOf (T:="tuple") ⟨_,hg,rfl⟩ PySem.F.slot_tuple_iter.lookup (wpAny_pure ⟨rfl,?_⟩))
  refine wpAny_collect_seq a (.inr rfl) hg rfl rfl (fun h' hk=>hQ _ _ (by simpa using hr.keep hk) ⟨⟨h',s.toks,rfl⟩,hk⟩) (by have:=Bv;simp;exact Ar.r95 hz hl this)
 | fl ws =>
  refine Ag fun PP ret=>?_
  clear hQ;obtain⟨a,n,items,rfl,hg,hr,hz⟩:=Ao R hv hi
  refine ret ?_
  exact lst a n items hg hr hz rfl
 | ref a =>
  refine Ag fun PP ret=>?_
  clear hQ;obtain⟨a,n,items,rfl,hg,hr,hz⟩:=Ao R hv hi
  refine ret ?_
  exact lst a n items hg hr hz rfl
 | row a i =>
  refine Ag fun PP ret=>?_
  clear hQ;obtain⟨a,n,items,rfl,hg,hr,hz⟩:=Ao R hv hi
  refine ret ?_
  exact lst a n items hg hr hz rfl
 | _=>exact nqa hi
theorem ArgsE.star {e:Expr}{p:Pos}{rest:List Expr}{fs:LF}(he:PureE C k sc e f)(hr:ArgsE C k sc rest fs)(hs:∀ env,starEach (.Starred e p :: rest) env=(true,eval e env) :: starEach rest env:=by intro _;rfl):ArgsE C k sc (.Starred e p :: rest) (Rj (itP f) fs):=by
 intro pos A env s ρ H G O vs hA F R h
 refine Ag fun PP ret=>?_
 obtain⟨xs,ys,hxs,hys,rfl⟩:=Op h
 obtain⟨v,hv,hi⟩:=Zv hxs
 refine ret ?_
 refine items_star (wpAny_mono (he A env s ρ H G O v hA F R hv) (fun x s1 h1=>?_) fun z0 z0 x=>x) (hs env)
 obtain⟨r1,k1⟩:=h1
 refine cK (R.keep k1.k) r1 hi fun zs s2 r2 k2=>?_
 have k12:=k1.trans' k2
 refine wpAny_mono (hr pos A env s2 ρ H G O ys hA (F.keep k12.k) (R.keep k12.k) hys) (fun ws s3 h3=>?_) fun z0 z0 x=>x
 obtain⟨r3,k3⟩:=h3
 exact⟨(r2.keep k3.k).append r3,k12.trans' k3⟩
noncomputable def ArgsF (C:Cx) (k:Nat) (sc:Sc) (args:List Expr) (fs:LF):Prop :=
 ∀ (g:Value) (pos:Pos) (A:Around) (env:Env) (s:Shared) (ρ:Rho) (H:AH) (G:Gh) (O:Addr->Prop) (vs:List AV),AOk k A->WF C A sc env ρ G O s.heap->Rel C H G O s.heap->fs ρ H=some vs ->
  wpAny (model C.prog C.w) A (evalArgs g true (backTo pos (starEach args env)) []) (fun a s'=>∃ xs,a=⟨xs,[]⟩/\VRels s'.heap O G vs xs/\Kp s s') (fun z0 z0=>False) s
theorem ArgsF.none:ArgsF C k sc [] Ak:=by
 intro g pos A env s ρ H G O vs hA F R h;obtain rfl:=Option.some.inj h
 exact PySem.evalArgs_none ⟨[],rfl,.nil,.refl' s⟩
theorem ArgsF.some {e:Expr}{rest:List Expr}{fs:LF}(h:ArgsE C k sc (e :: rest) fs)(hs:∀ env,starEach (e :: rest) env=(false,eval e env) :: starEach rest env:=by intro _;rfl):ArgsF C k sc (e :: rest) fs:=by
 intro g pos A env s ρ H G O vs hA F R hv
 refine Db (hs env) (wpAny_mono (h pos A env s ρ H G O vs hA F R hv) (fun xs s1 h1=>⟨xs,rfl,h1.1,h1.2⟩) fun z0 z0 x=>x)
theorem CallR.wp {g:Value}{W:FW}(h:CallR C k g W)(A:Around)(s:Shared)(H:AH)(G:Gh)(vs:List AV)(xs:List Value)(Q:AV->AH->Prop)(hA:AOk k A)(hF:FrsA C A (own H G) s.heap)(R:Rel C H G (own H G) s.heap)(hr:VRels s.heap (own H G) G vs xs)(hst:AV.stos vs=true)(hW:W vs Q H) :
  wpAny (model C.prog C.w) A (call g xs) (PostV C s H G Q) (fun z0 z0=>False) s:=by
 refine wpAny_call (codeAny_mono (h A s H G vs xs Q hA hF R hr hst hW) fun r s' hr=>?_)
 rcases r with e | (v | _ | _ | _) <;> first | exact hr | exact hr.elim
noncomputable def Hm (fs:LF) (W:FW):Wp AV:=fun Q ρ H=>∃ vs,fs ρ H=some vs/\AV.stos vs=true/\W vs (fun v H'=>Q v ρ H') H
theorem ImpE.call {x:Str}{p pos:Pos}{args:List Expr}{fs:LF}{a:Addr}{W:FW}{o:Obj}{fd:FuncData}(hx:x ∈ sc.globs)(hm:C.mg x=some (.ref a))(ho:C.h0.get? a=some o)(hd:o.data = .func fd)(hargs:ArgsF C k sc args fs)(hf:CallR C k (.ref a) W)
  (hdb:(x == ("__debug__":Str))=false:=by decide):ImpE C k sc (.Call (.Name x p) args [] pos) (Hm fs W):=by
 rintro A env s ρ H G Q hA F hs R ⟨vs,hvs,hst,hW⟩
 refine wpAny_Call_NameR (wpAny_Name (Co F R hx (.inl hm) ?_) hdb)
 refine Calls.callWith_function (o:=o) (fd:=fd) (wpAny_mono (hargs (.ref a) pos A env s ρ H G _ vs hA F R hvs) (fun a' s1 h1=>?_) fun z0 z0 x=>x)
 obtain⟨xs,rfl,r1,k1⟩:=h1
 have R1:=R.keep k1.k
 refine⟨⟨(R1.base a o ho).1,hd⟩,?_⟩
 refine wpAny_mono (hf.wp A s1 H G vs xs _ hA (F.keep k1.k).frs R1 r1 hst hW) (fun y s2 h2=>?_) fun z0 z0 x=>x
 obtain⟨v,H2,G2,hq,hv,hsv,R2,S2⟩:=h2
 have F1:=F.keep k1.k
 exact⟨v,ρ,H2,G2,hq,hv,hsv,S2.wf F1 hs,hs,R2,(Step.kp R k1).trans (S2.frm F1)⟩
end
theorem Rl {kd:Str->Option NameKind}:∀ (binds:List (Str × Value)) (m:Str->Option Value) {x:Str} {v:Value},(binds.map (·.1)).Nodup->(x,v) ∈ binds->kd x=some .local->bindL kd binds m x=some v
 | [],_,_,_,_,h,_=>by simp at h
 | (n,u) :: r,m,x,v,hnd,h,hk=>by
  simp only [List.map_cons,List.nodup_cons]at hnd
  unfold bindL
  rcases List.mem_cons.mp h with e | h
  ·clear h;cases e
   rw[if_pos hk]
   have:∀ (r:List (Str × Value)) (m:Str->Option Value),n ∉ r.map (·.1)->bindL kd r m n=m n:=by
    intro r
    induction r with
    | nil=>intro m _;rfl
    | cons p r ih =>
     obtain⟨n',u'⟩:=p
     intro m hn
     simp only [List.map_cons,List.mem_cons,not_or]at hn
     unfold bindL
     rw[ih _ hn.2]
     set_option tactic.hygienic true in split
     ·simp[hn.1]
     ·rfl
   rw[this r _ hnd.1];simp
  ·exact Rl r _ hnd.2 h hk
theorem Rm {kd:Str->Option NameKind}:∀ (binds:List (Str × Value)) (m:Str->Option Value) {x:Str} {v:Value},(binds.map (·.1)).Nodup->(x,v) ∈ binds->kd x ≠ some .local->bindC kd binds m x=some v
 | [],_,_,_,_,h,_=>by simp at h
 | (n,u) :: r,m,x,v,hnd,h,hk=>by
  simp only [List.map_cons,List.nodup_cons]at hnd
  unfold bindC
  rcases List.mem_cons.mp h with e | h
  ·clear h;cases e
   rw[if_neg hk]
   have:∀ (r:List (Str × Value)) (m:Str->Option Value),n ∉ r.map (·.1)->bindC kd r m n=m n:=by
    intro r
    induction r with
    | nil=>intro m _;rfl
    | cons p r ih =>
     obtain⟨n',u'⟩:=p
     intro m hn
     simp only [List.map_cons,List.mem_cons,not_or]at hn
     unfold bindC
     rw[ih _ hn.2]
     set_option tactic.hygienic true in split
     ·rfl
     ·simp[hn.1]
   rw[this r _ hnd.1];simp
  ·exact Rm r _ hnd.2 h hk
structure FnSc (scope:Scope) (sc:Sc) (params:List Str):Prop where
 kind:scope.kind = .function
 nd:(scope.names.map (·.1)).Nodup
 vars:∀ x i,(x,i) ∈ sc.vars->(scope.names.lookup x=some .local\/scope.names.lookup x=some .cell)/\(i < params.length->params[i]? = some x)
 cel:∀ x,x ∈ sc.cel->scope.names.lookup x=some .cell
 gl:∀ x,x ∈ sc.globs->scope.names.lookup x=some .globalImplicit
 par:∀ x,x ∈ params->scope.names.lookup x=some .local\/scope.names.lookup x=some .cell
 pnd:params.Nodup
 scnd:∀ x i j,(x,i) ∈ sc.vars->(x,j) ∈ sc.vars->i=j
 scinj:∀ x y i,(x,i) ∈ sc.vars->(y,i) ∈ sc.vars->x=y
noncomputable def dL (o:Option NameKind):Bool:=o == some .local || o == some .cell
theorem Qr {o:Option NameKind}(h:dL o=true):o=some .local\/o=some .cell:=by
 simpa [dL]using h
noncomputable def Vc (scope:Scope) (sc:Sc) (params:List Str):Bool :=
 Fk (scope.names.map (·.1)) && (sc.vars.all fun p=>dL (scope.names.lookup p.1) && (params.length<=p.2 || params[p.2]? == some p.1)) && (sc.cel.all fun x=>scope.names.lookup x == some .cell) && (sc.globs.all fun x=>scope.names.lookup x == some .globalImplicit) && (params.all fun x=>dL (scope.names.lookup x)) && Fk params && scB sc
theorem FnSc.of {scope:Scope}{sc:Sc}{params:List Str}(hk:scope.kind = .function)(h:Vc scope sc params=true):FnSc scope sc params:=by
 refine Ag fun PP ret=>?_
 simp only [Vc,Bool.and_eq_true,List.all_eq_true,Bool.or_eq_true,decide_eq_true_eq,beq_iff_eq]at h
 obtain⟨⟨⟨⟨⟨⟨h1,h2⟩,h3⟩,h4⟩,h5⟩,h6⟩,h7⟩:=h
 refine ret ?_
 refine⟨hk,Dr h1,fun x i hx=>⟨Qr (h2 (x,i) hx).1,fun hi=>?_⟩,fun x hx=>?_,fun x hx=>?_,fun x hx=>Qr (h5 x hx),Dr h6,(Pa h7).1,(Pa h7).2⟩
 ·rcases(h2 (x,i) hx).2 with q | q
  ·exact absurd hi (Nat.not_lt.mpr q)
  ·exact q
 ·exact h3 x hx
 ·exact h4 x hx
noncomputable def BindR (C:Cx) (fd:FuncData) (params:List Str) (b:List AV->Option (List AV)):Prop :=
 ∀ (A:Around) (s:Shared) (H:AH) (G:Gh) (vs ws:List AV) (xs:List Value),Rel C H G (own H G) s.heap->VRels s.heap (own H G) G vs xs->AV.stos vs=true->b vs=some ws ->
  wpAny (model C.prog C.w) A (bindArgs fd ⟨xs,[]⟩) (fun binds s'=>∃ ys,binds=params.zip ys/\ws.length=params.length/\VRels s'.heap (own H G) G ws ys/\AV.stos ws=true/\Kp s s') (fun z0 z0=>False) s
noncomputable def Cc (b:List AV->Option (List AV)) (T:Wp AFlow):FW:=fun vs Q H=>∃ ws,b vs=some ws/\T (fun fl z0 H'=>match fl with
 | .ret v=>Q v H'
 | .next=>Q .none H'
 | _=>False) (fun i=>ws.getD i .undef) H
theorem Vn {C:Cx}{A:Around}{sc:Sc}{fd:FuncData}{params:List Str}{s s':Shared}{H:AH}{G:Gh}{O:Addr->Prop}{a:Addr}{ws:List AV}{ys:List Value}(hsc:FnSc fd.scope sc params)(hg:fd.globals=mainGlobals)(hb:fd.builtins=builtinsNs)(hF:FrsA C A O s.heap)(R:Rel C H G O s.heap)(hr:VRels s.heap O G ws ys)(hlen:ws.length=params.length)
  (X:InCallC s (callEnvC fd s.heap.objs.size a).locals (bindL (callEnvC fd s.heap.objs.size a).kindOf (params.zip ys) fun z0=>none) (callEnvC fd s.heap.objs.size a).cells (bindC (callEnvC fd s.heap.objs.size a).kindOf (params.zip ys) fun z0=>none) s') :
  WF C (A.deeper (callEnvC fd s.heap.objs.size a)) sc (callEnvC fd s.heap.objs.size a) (fun i=>ws.getD i .undef) G O s'.heap:=by
 have hko:∀ x,(callEnvC fd s.heap.objs.size a).kindOf x=fd.scope.names.lookup x:=fun z0=>rfl
 have hL:(callEnvC fd s.heap.objs.size a).locals=s.heap.objs.size:=rfl
 have hyl:=hr.length
 have hzn:((params.zip ys).map (·.1)).Nodup:=by
  rw[List.map_fst_zip (by exact Ar.r29 hlen hyl)];exact hsc.pnd
 have hbind:∀ x i,(x,i) ∈ sc.vars->i < params.length->∃ y v,(x,y) ∈ params.zip ys/\ws[i]? = some v/\VRel s.heap O G v y:=by
  intro x i hx hi
  have h1:=(hsc.vars x i hx).2 hi
  have hw:i < ws.length:=by exact Ar.r38 hlen hi
  obtain⟨y,hy,hv⟩:=hr.get (List.getElem?_eq_getElem hw)
  refine⟨y,ws[i],?_,List.getElem?_eq_getElem hw,hv⟩
  apply List.mem_of_getElem? (i:=i)
  rw[List.getElem?_zip_eq_some];exact⟨h1,hy⟩
 have hkk:=X.toInCall.keep
 have hlo:∀ b,O b->b < s.heap.objs.size:=fun b hb=>R.lt hb
 have hcc:∀ x c,(x,c) ∈ (callEnvC fd s.heap.objs.size a).cells->∃ ov,s'.heap.IsCell c ov:=by
  intro x c hx
  obtain⟨c',hc'⟩:=Bo hx
  have hm':=PySem.mem_of_lookup hc'
  have:c=c':=by
   have hn:((callEnvC fd s.heap.objs.size a).cells.map (·.1)).Nodup:=by
    have:∀ (names:List (Str × NameKind)) (n:Nat),(names.map (·.1)).Nodup->((cellsFrom n names []).map (·.1)).Nodup:=by
     intro names
     induction names with
     | nil=>intro n _;simp[cellsFrom]
     | cons p r ih =>
      obtain⟨y,kd⟩:=p
      intro n hn
      simp only [List.map_cons,List.nodup_cons]at hn
      unfold cellsFrom
      set_option tactic.hygienic true in split
      ·rw[Ba,List.map_append,List.nodup_append]
       refine⟨ih _ hn.2,by simp,?_⟩
       intro u hu v hv
       simp at hv;clear R X hF hL hb hbind hc' hg hkk hko hlen hlo hm' hr hsc hx hyl hzn ih;subst hv
       rintro rfl
       obtain⟨⟨q1,q2⟩,hq,rfl⟩:=List.mem_map.mp hu
       exact hn.1 (List.mem_map.mpr ⟨_,Dc _ _ hq,rfl⟩)
      ·exact ih _ hn.2
    exact this _ _ hsc.nd
   exact Qj hn hx hm'
  clear R hF hL hb hbind hg hkk hko hlen hlo hm' hr hsc hx hyl hzn;subst this
  exact⟨_,X.cell x c hc'⟩
 refine⟨hsc.kind,hg,hb,⟨_,X.toInCall.ns,fun x i hx hl=>?_⟩,fun x i hx hl=>?_,fun x hx=>?_,fun x hx=>?_,X.apart,fun x c hx=>?_,hcc,fun q=>Nat.lt_irrefl _ (hlo _ q),fun x c hx q=>?_,fun b hb'=>?_,hsc.scnd,hsc.scinj,?_,fun z0=>⟨rfl,hF.imp fun l h=>Around.frames_deeper h.1⟩⟩
 rotate_right
 ·refine Ag fun PP ret=>?_
  obtain⟨l,e,f1,f2⟩:=hF.keep hkk
  have hn:C.h0.get? s.heap.objs.size=none:=by
   clear X f1 f2 hF hL hb hbind hcc hg hkk hko hlen hlo hr hsc hyl hzn ret;cases e:C.h0.get? s.heap.objs.size with
   | none=>rfl
   | some o=>exact absurd (Heap.lt_size (R.base _ o e).1) (Nat.lt_irrefl _)
  refine ret ?_
  refine⟨_,Around.frames_deeper e,Heap.FunFrames.cons (L:=s.heap.objs.size) (by rw[show (callEnvC fd s.heap.objs.size a).scope.kind=_ from hsc.kind];decide) rfl X.toInCall.ns hn f1,fun b hb=>?_⟩
  rw[List.filterMap_cons]at hb
  rcases List.mem_cons.mp hb with q | q
  ·refine Ag fun PP ret=>?_
   clear R e f1 f2 hF hL hb hbind hcc hg hkk hko hlen hn hr hsc hyl hzn;subst q
   obtain⟨o,es,ep,ho,hd,_⟩:=X.toInCall.ns
   refine ret ?_
   exact⟨fun q=>Nat.lt_irrefl _ (hlo _ q),o,es,ep,ho,hd⟩
  ·exact f2 b q
 ·by_cases hi:i < params.length
  ·refine Ag fun PP ret=>?_
   obtain⟨y,v,hm,hv,hr'⟩:=hbind x i hx hi
   refine ret ?_
   right
   refine⟨y,Rl _ _ hzn hm hl,?_⟩
   have:(ws.getD i .undef)=v:=by simp[List.getD,hv]
   rw[this];exact hr'.keep hkk
  ·left
   have:ws[i]? = none:=List.getElem?_eq_none (by exact Ar.r34 hlen hi)
   simp[List.getD,this]
 ·have hcell:fd.scope.names.lookup x=some .cell:=by
   rcases(hsc.vars x i hx).1 with q | q
   ·exact absurd (by rw[hko];exact q) hl
   ·exact q
  obtain⟨c,hcm⟩:=Cv fd.scope.names (s.heap.objs.size + 1) (PySem.mem_of_lookup hcell)
  obtain⟨c',hc'⟩:=Bo hcm
  refine⟨.inl (by rw[hko];exact hcell),c',_,hc',X.cell x c' hc',?_⟩
  by_cases hi:i < params.length
  ·refine Ag fun PP ret=>?_
   obtain⟨y,v,hm,hv,hr'⟩:=hbind x i hx hi
   refine ret ?_
   right
   refine⟨y,Rm _ _ hzn hm hl,?_⟩
   have:(ws.getD i .undef)=v:=by simp[List.getD,hv]
   rw[this];exact hr'.keep hkk
  ·left
   have:ws[i]? = none:=List.getElem?_eq_none (by exact Ar.r34 hlen hi)
   simp[List.getD,this]
 ·rw[hko,hsc.cel x hx];simp
 ·rw[hko];exact hsc.gl x hx
 ·have:=X.above x c hx
  intro e;rw[e]at this;exact Nat.lt_irrefl _ this
 ·have h1:=X.above x c hx
  have h2:=hlo c q
  rw[hL]at h1
  exact Nat.lt_irrefl _ (Nat.lt_trans h1 h2)
 ·clear hF hb hbind hcc hg hkk hko hlen hlo hr hsc hyl hzn;cases e:C.h0.get? b with
  | none=>rfl
  | some o =>
   exfalso
   have hlt:=Heap.lt_size (R.base b o e).1
   rcases hb' with rfl | ⟨x,hx⟩
   ·exact Nat.lt_irrefl _ hlt
   ·have h1:=X.above x b hx
    rw[hL]at h1
    exact Nat.lt_irrefl _ (Nat.lt_trans h1 hlt)
theorem CallR.fn {C:Cx}{k:Nat}{sc:Sc}{a:Addr}{o:Obj}{fd:FuncData}{body:List Stmt}{params:List Str}{b:List AV->Option (List AV)}{T:Wp AFlow}(ho:C.h0.get? a=some o)(hd:o.data = .func fd)(hcd:C.h0.CodeRec fd.code fd.qualname)(hbody:fd.body = .stmts body)(hclo:fd.closure=[])(hg:fd.globals=mainGlobals)(hb:fd.builtins=builtinsNs)
  (hsc:FnSc fd.scope sc params) (hbind:BindR C fd params b) (hT:StmtsR C k sc body T) (hco:fd.scope.isCoroutine=false:=by rfl) (hgen:fd.scope.isGenerator=false:=by rfl):CallR C (k + 1) (.ref a) (Cc b T):=by
 rintro A s H G vs xs Q hA hF R hr hst ⟨ws,hws,hT'⟩
 obtain⟨hA1,hA2,hA3⟩:=hA
 refine codeAny_call_function (by unfold recursionLimit;exact Ar.r51 hA2) (R.base a o ho).1 hd hco hgen hbody (hcd.keeps fun b o e=>(R.base b o e).1) ?_
 refine wpAny_mono (hbind A.in1 s H G vs ws xs R hr hst hws) (fun binds s1 h1=>?_) fun z0 z0 x=>x.elim
 obtain⟨ys,rfl,hlen,hr1,hst1,k1⟩:=h1
 have R1:=R.keep k1.k
 rw[hclo]
 have hyl:=hr1.length
 refine wpAny_newFunctionEnv_cells hsc.kind (fun x hx=>?_) fun env he s2 X=>?_
 ·have hm:x.1 ∈ params:=by
   obtain⟨x1,x2⟩:=x
   exact(List.of_mem_zip hx).1
  rcases hsc.par x.1 hm with q | q
  ·exact .inl q
  ·right
   refine⟨q,?_⟩
   obtain⟨c,hcm⟩:=Cv fd.scope.names (s1.heap.objs.size + 1) (PySem.mem_of_lookup q)
   obtain⟨c',hc'⟩:=Bo hcm
   rw[hc'];rfl
 ·have he':env=callEnvC fd s1.heap.objs.size a:=he
  subst he'
  have F2:=Vn hsc hg hb (hF.keep k1.k) R1 hr1 hlen X
  have k2:Kp s1 s2:=⟨let ⟨h,tk,e⟩:=X.toInCall.same;⟨h,tk,e⟩,X.toInCall.keep⟩
  have k12:=k1.trans' k2
  have R2:=R.keep k12.k
  refine⟨C.lim.keeps fun b o e=>(R2.base b o e).1,codeAny_func ?_⟩
  have hA':AOk k (A.deeper (callEnvC fd s1.heap.objs.size a)):=⟨hA1,by refine(?_:A.depth + 1 + k + 20<=900);exact Ar.r50 hA2,by rw[Around.deeper_units];exact Ar.r65 hA3⟩
  have hsto:stoR sc (fun i=>ws.getD i .undef):=fun x i z0=>by
   refine(?_:(ws.getD i .undef).sto=true)
   rw[List.getD_eq_getElem?_getD]
   cases q:ws[i]? with
   | none=>rfl
   | some v=>exact Bk hst1 (List.mem_of_getElem? q)
  refine wpAny_mono (hT _ _ s2 _ H G _ hA' F2 hsto R2 hT') (fun fl s3 h3=>?_) fun z0 z0 x=>x.elim
  obtain⟨af,ρ3,H3,G3,hq3,hf,F3,hs3,R3,S3⟩:=h3
  have hfr:∀ b,fr (callEnvC fd s1.heap.objs.size a) b->s.heap.get? b=none:=by
   intro b hb'
   have hge:s1.heap.objs.size<=b:=by
    rcases hb' with rfl | ⟨x,hx⟩
    ·exact Nat.le_refl _
    ·exact Nat.le_of_lt (X.above x b hx)
   cases e:s.heap.get? b with
   | none=>rfl
   | some o=>exact absurd (Heap.lt_size (k1.k b o e)) (Nat.not_lt.mpr hge)
  have S:Step (fun z0=>False) H G s H3 G3 s3:=by
   refine⟨?_,fun b o h1 z0 e=>S3.keep b o h1 (fun q=>by rw[hfr b q]at e;exact nqa e) (k12.k b o e),fun z0 z0 x=>x.elim,fun b hb'=>(S3.fresh b hb').imp id fun q=>?_,fun x o e l=>?_⟩
   ·obtain⟨⟨h1,t1,rfl⟩,_⟩:=k12;obtain⟨h2,t2,rfl⟩:=S3.same;exact⟨_,_,rfl⟩
   ·cases e:s.heap.get? b with
    | none=>rfl
    | some o=>rw[k12.k b o e]at q;exact nqb q
   ·obtain⟨q1,q2,q3⟩:=S3.lock x o e l
    refine⟨q1,q2,fun b hb'=>(q3 b hb').trans ?_⟩
    obtain⟨ob,eb⟩:=R.live b ⟨x,by rw[e];simp,hb'⟩
    rw[eb];exact k12.k b ob eb
  cases af with
  | next=>cases hf.nextE;exact⟨.none,H3,G3,hq3,by simp[vRn],rfl,R3,S⟩
  | ret v=>obtain⟨x,rfl,hf⟩:=hf.retE;exact⟨v,H3,G3,hq3,hf.1,hf.2,R3,S⟩
  | brk=>exact hq3.elim
  | cont=>exact hq3.elim
noncomputable def Eb (n:Nat) (vs:List AV):Option (List AV):=if vs.length=n then some vs else none
theorem BindR.plain {C:Cx}{fd:FuncData}{params:List Str}(h:∀ xs:List Value,xs.length=params.length->bindArgs fd ⟨xs,[]⟩=pure (params.zip xs)):BindR C fd params (Eb params.length):=by
 intro A s H G vs ws xs R hr hst hb
 unfold Eb at hb
 refine Bj hb ?_;clear hb;intro hl hb
 obtain rfl:=Option.some.inj hb
 rw[h xs (by rw[hr.length,hl])]
 exact wpAny_pure ⟨xs,rfl,hl,hr,hst,.refl' s⟩
end Mine
end
section
namespace Mine
noncomputable def BCallR (C:Cx) (k:Nat) (f:Value) (g:AH->List AV->Option AV):Prop :=
 ∀ (A:Around) (s:Shared) (H:AH) (G:Gh) (O:Addr->Prop) (vs:List AV) (xs:List Value) (r:AV),AOk k A->Rel C H G O s.heap->VRels s.heap O G vs xs->g H vs=some r ->
  wpAny (model C.prog C.w) A (call f xs) (fun z s'=>VRel s'.heap O G r z/\Kp s s') (fun z0 z0=>False) s
noncomputable def bP' (g:AH->List AV->Option AV) (fs:LF):PF:=fun ρ H=>match fs ρ H with
 | some vs=>g H vs
 | none=>none
theorem bP'_some {g:AH->List AV->Option AV}{fs:LF}{ρ:Rho}{H:AH}{r:AV}(h:bP' g fs ρ H=some r):∃ vs,fs ρ H=some vs/\g H vs=some r:=by
 unfold bP' at h
 refine Pk h ?_;clear h;intro z1 q1 h
 exact⟨_,by assumption,h⟩
section
variable {C:Cx} {k:Nat} {sc:Sc} {f f':PF}
theorem PureE.bcall {x:Str}{p pos:Pos}{args:List Expr}{id:String}{fs:LF}{g:AH->List AV->Option AV}(hx:x ∈ sc.globs)(hm:C.mg x=Option.none)(hb:C.mb x=some (.builtin id))(ha:ArgsF C k sc args fs)(hg:BCallR C k (.builtin id) g)
  (hns:Gr args:=by intro _;rfl) (hd:(x == ("__debug__":Str))=false:=by decide):PureE C k sc (.Call (.Name x p) args [] pos) (bP' g fs):=by
 intro A env s ρ H G O r hA F R hr
 obtain⟨vs,hvs,hg'⟩:=bP'_some hr
 refine wpAny_Call_NameR (wpAny_Name (Co F R hx (.inr ⟨hm,hb⟩) ?_) hd)
 refine Calls.callWith_builtin (Cn hns pos env) (wpAny_mono (ha (.builtin id) pos A env s ρ H G O vs hA F R hvs) (fun a s1 h1=>?_) fun z0 z0 x=>x)
 obtain⟨xs,rfl,r1,k1⟩:=h1
 exact wpAny_mono (hg A s1 H G O vs xs r hA (R.keep k1.k) r1 hg') (fun z s2 h2=>⟨h2.1,k1.trans' h2.2⟩) fun z0 z0 x=>x
theorem PureE.tcall {x:Str}{p pos:Pos}{args:List Expr}{T:String}{fs:LF}{g:AH->List AV->Option AV}(hx:x ∈ sc.globs)(hm:C.mg x=Option.none)(hb:C.mb x=some (.type T))(ha:ArgsF C k sc args fs)(hg:BCallR C k (.type T) g)
  (hns:Gr args:=by intro _;rfl) (hd:(x == ("__debug__":Str))=false:=by decide):PureE C k sc (.Call (.Name x p) args [] pos) (bP' g fs):=by
 intro A env s ρ H G O r hA F R hr
 obtain⟨vs,hvs,hg'⟩:=bP'_some hr
 refine wpAny_Call_NameR (wpAny_Name (Co F R hx (.inr ⟨hm,hb⟩) ?_) hd)
 refine PySem.callWith_type (Cn hns pos env) (wpAny_mono (ha (.type T) pos A env s ρ H G O vs hA F R hvs) (fun a s1 h1=>?_) fun z0 z0 x=>x)
 obtain⟨xs,rfl,r1,k1⟩:=h1
 exact wpAny_mono (hg A s1 H G O vs xs r hA (R.keep k1.k) r1 hg') (fun z s2 h2=>⟨h2.1,k1.trans' h2.2⟩) fun z0 z0 x=>x
noncomputable def iU (H:AH):AV->Option Nat
 | .tup vs=>some vs.length
 | .fl vs=>some vs.length
 | .ref a=>match H a with
  | some (.f (.lst _ vs))=>some vs.length
  | some (.f (.mat _ M))=>some M.length
  | _=>none
 | .row a i=>match H a with
  | some (.f (.mat _ M))=>(M[i]?).map (·.length)
  | _=>none
 | _=>none
theorem eS {H:AH}{a:Addr}:iU H (.ref a)=match H a with | some (.f (.lst _ vs))=>some vs.length | some (.f (.mat _ M))=>some M.length | _=>none:=rfl
noncomputable def Er (H:AH):List AV->Option AV
 | [v]=>(iU H v).map fun (n:Nat)=>AV.int (n:Int)
 | _=>none
theorem eT {H:AH}{v:AV}:Er H [v]=(iU H v).map fun (n:Nat)=>AV.int (n:Int):=rfl
theorem BCallR.len:BCallR C k (.builtin "len") Er:=by
 intro A s H G O vs xs r hA R hr e
 unfold Er at e
 refine jC e ?_;clear e;intro v q1 e;subst q1
 obtain⟨n,hn,rfl⟩:=Option.map_eq_some_iff.mp e
 simp only [vSn,vSc]at hr
 obtain⟨x,_,rfl,hv,rfl⟩:=hr
 have lst:∀ (a:Addr) (m:Nat) (items:List Value),s.heap.get? a=some (Bu items m)->items.length=n->n<=lim->x = .ref a->wpAny (model C.prog C.w) A (call (.builtin "len") [x]) (fun z s'=>VRel s'.heap O G (.int n) z/\Kp s s') (fun z0 z0=>False) s:=by
  intro a m items hg hl hz hx
  subst hx
  refine Calls.call_len_list (Am hg) (by rw[List.size_toArray,hl];rw[An]at hz;lia) ?_
  rw[List.size_toArray,hl]
  exact⟨by simp[vRi],.tok⟩
 cases v with
 | tup ws =>
  obtain rfl:=Option.some.inj hn
  simp only [vRp]at hv
  obtain⟨a,m,items,rfl,hg,_,hz,hr⟩:=hv
  have hl:=hr.length
  rw[An]at hz
  refine P.len_tuple hg (by rw[List.size_toArray,hl];lia) ?_
  rw[List.size_toArray,hl]
  exact⟨by simp[vRi],.tok⟩
 | fl ws =>
  obtain rfl:=Option.some.inj hn
  simp only [vRf]at hv
  obtain⟨a,m,items,rfl,hg,_,hz,hr⟩:=hv
  exact lst a m items hg hr.length hz rfl
 | ref a =>
  simp only [vRr]at hv;subst hv
  replace hn:(match H a with | some (.f (.lst _ vs))=>some vs.length | some (.f (.mat _ M))=>some M.length | _=>none)=some n:=hn
  generalize hH:H a=o at hn
  cases o with
  | none=>exact nqa hn
  | some o=>cases o with
   | srt=>exact nqa hn
   | f o=>cases o with
    | lst lk ws =>
     obtain rfl:=Option.some.inj hn
     obtain⟨_,_,hz,m,items,hg,hr⟩:=R.obj a _ hH
     exact lst a m items hg hr.length hz rfl
    | mat lk M =>
     obtain rfl:=Option.some.inj hn
     obtain⟨⟨m,hg⟩,hl,hz,_⟩:=R.obj a _ hH
     exact lst a m _ hg (by simpa using hl) hz rfl
    | _=>exact nqa hn
 | row a i =>
  refine kL hn ?_;clear hn;intro lk M hH hn
  obtain⟨ws,hws,rfl⟩:=Option.map_eq_some_iff.mp hn
  obtain⟨b,m,items,rfl,hg,hr,hz⟩:=Ao R hv ((Ud hH).trans hws)
  exact lst b m items hg hr.length hz rfl
 | _=>exact nqa hn
noncomputable def Mo:List AV->Option (List Int)
 | []=>some []
 | .int i :: r=>(Mo r).map (i :: ·)
 | _=>none
theorem Oh:∀ {vs:List AV} {l:List Int},Mo vs=some l->vs=l.map .int
 | [],l,h=>Option.some.inj h ▸ rfl
 | .int i :: r,l,h=>by
  obtain⟨l',h',rfl⟩:=Option.map_eq_some_iff.mp h
  simp[Oh h']
 | .undef :: _,_,h=>nqa h
 | .none :: _,_,h=>nqa h
 | .bool _ :: _,_,h=>nqa h
 | .str _ :: _,_,h=>nqa h
 | .tup _ :: _,_,h=>nqa h
 | .fl _ :: _,_,h=>nqa h
 | .ref _ :: _,_,h=>nqa h
 | .row _ _ :: _,_,h=>nqa h
 | .bi _ :: _,_,h=>nqa h
 | .ty _ :: _,_,h=>nqa h
noncomputable def Mf (H:AH) (v:AV):Option (List Int):=(itV H v).bind Mo
theorem dG {A:Around}{s:Shared}{H:AH}{G:Gh}{O:Addr->Prop}{v:AV}{x:Value}{vs:List AV}{Q:Value->Shared->Prop}(hh:A.handled=none)(R:Rel C H G O s.heap)(hv:VRel s.heap O G v x)(hi:itV H v=some vs)
  (hQ:∀ s2 I fp wr a P St,Kp s s2->vs.length<=lim->ItOK C A s s2 O G vs I fp wr [a] P St->Q (.ref I) s2):wpAny (model C.prog C.w) A (pyIter x) Q (fun z0 z0=>False) s:=by
 cases v with
 | tup ws =>
  obtain rfl:=Option.some.inj hi
  simp only [vRp]at hv
  obtain⟨a,n,items,rfl,hg,hO,hz,hr⟩:=hv
  exact Mk hh (.refl' s) hg hr fun s2 I fp wr P St z0 k2 ok=>hQ s2 I fp wr a P St k2 hz ok
 | fl ws =>
  obtain⟨a,n,items,rfl,hg,hr,hz⟩:=Ao R hv hi
  exact Eh hh (.refl' s) hg hr fun s2 I fp wr P St z0 k2 ok=>hQ s2 I fp wr a P St k2 hz ok
 | ref a =>
  obtain⟨a,n,items,rfl,hg,hr,hz⟩:=Ao R hv hi
  exact Eh hh (.refl' s) hg hr fun s2 I fp wr P St z0 k2 ok=>hQ s2 I fp wr a P St k2 hz ok
 | row a i =>
  obtain⟨a,n,items,rfl,hg,hr,hz⟩:=Ao R hv hi
  exact Eh hh (.refl' s) hg hr fun s2 I fp wr P St z0 k2 ok=>hQ s2 I fp wr a P St k2 hz ok
 | _=>exact nqa hi
theorem ItOK.fplt {A:Around}{s s2:Shared}{O:Addr->Prop}{G:Gh}{vs:List AV}{I:Addr}{fp wr cs:List Addr}{P:Nat->Value->Prop}{St:Nat->Heap->Prop}(ok:ItOK C A s s2 O G vs I fp wr cs P St):∀ b ∈ fp,b < s2.heap.objs.size:=fun b hb=>by
 rcases ok.cont b hb with h | h
 ·obtain⟨o,e⟩:=(ok.new b h).2;exact Heap.lt_size e
 ·obtain⟨o,e⟩:=ok.csl b h;exact Heap.lt_size e
theorem ItOK.ints {A:Around}{s s2:Shared}{O:Addr->Prop}{G:Gh}{l:List Int}{I:Addr}{fp wr cs:List Addr}{P:Nat->Value->Prop}{St:Nat->Heap->Prop}(ok:ItOK C A s s2 O G (l.map .int) I fp wr cs P St) :
  ∀ i v,P i v->∃ t,v = .int (l.getD i 0) t:=fun i v hP=>by
 obtain⟨u,hu,hr⟩:=ok.item i v hP
 simp only [List.getElem?_map]at hu
 obtain⟨z,hz,rfl⟩:=Option.map_eq_some_iff.mp hu
 simp only [vRi]at hr
 simpa [List.getD,hz]using hr
noncomputable def Ow (H:AH):List AV->Option AV
 | [v]=>(Mf H v).map fun l=>.int l.sum
 | _=>none
theorem Kl (l:List Int):∀ n,n<=l.length->preSum (fun i=>l.getD i 0) n=(l.take n).sum
 | 0,_=>by simp[preSum]
 | n + 1,h=>by
  rw[preSum,Kl l n (by exact Ar.r59 h),List.take_add_one,List.sum_append]
  have:n < l.length:=by exact Ar.r60 h
  simp[List.getD,this]
theorem BCallR.sum:BCallR C k (.builtin "sum") Ow:=by
 intro A s H G O vs xs r hA R hr e
 unfold Ow at e
 refine jC e ?_;clear e;intro v q1 e;subst q1
 obtain⟨l,hl,rfl⟩:=Option.map_eq_some_iff.mp e
 obtain⟨ws,hws,hl⟩:=Option.bind_eq_some_iff.mp hl
 have:=Oh hl
 clear hl;subst this
 simp only [vSn,vSc]at hr
 clear hl;obtain⟨x,_,rfl,hv,rfl⟩:=hr
 refine call_sum_walkAnyS (dG hA.1 R hv hws fun s2 I fp wr a P St k2 hz ok=>?_)
 refine⟨I,fp,wr,_,_,P,_,fun i=>l.getD i 0,rfl,ok.W.toS,ok.st,ok.fplt,ok.ints,fun s' t' hm=>?_⟩
 have e1:preSum (fun i=>l.getD i 0) (l.map AV.int).length=l.sum:=by
  rw[List.length_map,Kl l _ (Nat.le_refl _),List.take_length]
 rw[e1]
 refine⟨by simp[vRi],?_,fun b o e=>?_⟩
 ·clear R e e1 hA hv hws hz ok;obtain⟨⟨h2,t2,rfl⟩,_⟩:=k2
  obtain⟨h3,g3,d3,t3,o3⟩:=s'
  have q1:=hm.gens;have q2:=hm.drawn;have q3:=hm.os
  simp only at q1 q2 q3
  subst q1 q2 q3
  exact⟨_,_,rfl⟩
 ·exact hm.heap b o (fun q=>by rw[(ok.new b q).1]at e;exact nqa e) (k2.k b o e)
noncomputable def jL (_:AH):List AV->Option AV
 | [.int a]=>some (.int a.natAbs)
 | _=>none
theorem BCallR.abs:BCallR C k (.builtin "abs") jL:=by
 intro A s H G O vs xs r hA R hr e
 unfold jL at e
 refine kJ e ?_;clear e;intro a q1 e;subst q1
 obtain rfl:=Option.some.inj e
 simp only [vSn,vSc,vRi]at hr
 obtain⟨x,_,rfl,⟨t,rfl⟩,rfl⟩:=hr
 refine call_abs_int fun u tk=>⟨?_,.tok⟩
 simp only [vRi]
 exact⟨u,by congr 1;set_option tactic.hygienic true in split <;> omega⟩
end
end Mine
end
section
namespace Mine
section
variable {C:Cx} {k:Nat} {sc:Sc} {f f':PF}
noncomputable def Ou (H:AH):List AV->Option AV
 | [v]=>(Av H v).map .tup
 | _=>none
theorem cI {H:AH}{v:AV}:Ou H [v]=(Av H v).map .tup:=rfl
theorem BCallR.tuple:BCallR C k (.type "tuple") Ou:=by
 intro A s H G O vs xs r hA R hr e
 unfold Ou at e
 refine jC e ?_;clear e;intro v q1 e;subst q1
 refine Ag fun PP ret=>?_
 obtain⟨ws,hws,rfl⟩:=Option.map_eq_some_iff.mp e
 simp only [vSn,vSc]at hr
 obtain⟨x,_,rfl,hv,rfl⟩:=hr
 obtain⟨a,n,items,rfl,hg,hr,hz⟩:=Ao R hv hws
 have hl:=hr.length
 refine ret ?_
 refine call_tuple_list (Am hg) (fun h' hk=>?_) (by have:=Bv;simp;exact Ar.r95 hz hl this)
 have kp:Kp s { s with heap:=h'.push { cls:=.type "tuple",data:=.seq items.toArray } }:=⟨⟨_,s.toks,rfl⟩,fun b o e=>Heap.get?_push_of_some _ (hk b o e)⟩
 refine⟨?_,kp⟩
 simp only [vRp]
 refine⟨h'.objs.size,0,items,rfl,Heap.get?_push_size _ rfl,fun q=>?_,hz,hr.keep kp.k⟩
 obtain⟨o,e⟩:=R.live _ q
 exact absurd (Heap.lt_size (hk _ _ e)) (Nat.lt_irrefl _)
theorem Dv {h h':Heap}{l:Addr}{items ys:List Value}{n:Nat}{g:Array Value->Array Value}(hl:h.get? l=some (Bu items n))(hg:g items.toArray=ys.toArray):∃ n',(h.update l (Obj.mapSeq g)).get? l=some (Bu ys n'):=by
 have:=IsL.update (h:=h) (l:=l) (items:=items.toArray) (n:=n) hl g
 rw[hg]at this
 exact⟨_,this⟩
theorem Ck {h:Heap}{l:Addr}{g:Obj->Obj}:∀ b ob,b ≠ l->h.get? b=some ob->(h.update l g).get? b=some ob:=fun b ob hb e=>(Heap.SameBut.update (h:=h) (a:=l) (f:=g)).extBut b ob hb e
theorem Dy {o:Expr}{name:Str}{apos pos:Pos}{args:List Expr}{id:String}{A:Around}{env:Env}{s:Shared}{Q:Value->Shared->Prop}
  (slot:Slot "list" name id) (hty:typeOf (.builtin id)=pure (.type "method_descriptor")) (hbase:attributeBase o name env (eval o env)=eval o env)
  (hfew:((backTo pos (starEach args env)).all (fun x=>!x.1) && (backToKw pos (keywordEach [] env)).all (fun x=>x.1.isSome) && decide (args.length + ([]:List Keyword).length + (if ([]:List Keyword).isEmpty then 0 else 1) < 30))=true)
  (hline:(apos.endLine == pos.line)=true)
  (h:wpAny (model C.prog C.w) A (eval o env) (fun ov s₁=>∃ a items n,ov = .ref a/\s₁.heap.get? a=some (Bu items n)/\wpAny (model C.prog C.w) A (callWith pos (.builtin id) [.ref a] (backTo pos (starEach args env)) []) Q (fun z0 z0=>False) s₁) (fun z0 z0=>False) s) :
  wpAny (model C.prog C.w) A (eval (.Call (.Attribute o name apos) args [] pos) env) Q (fun z0 z0=>False) s:=by
 refine wpAny_Call_method hbase hfew hline PySem.F.plainAttrs_list slot hty (wpAny_mono h (fun ov s1 h1=>?_) fun z0 z0 x=>x)
 obtain⟨a,items,n,rfl,hg,hc⟩:=h1
 exact⟨⟨_,hg,rfl⟩,fun b hb=>by cases hb;exact⟨_,hg,rfl⟩,hc⟩
noncomputable def Ih (H:AH) (v:AV) (ws:List AV):Option AH:=match v with
 | .ref a=>match H a with
  | some (.f (.lst false _))=>if ws.length<=lim/\AV.stos ws=true then some (upd H a (.f (.lst false ws))) else none
  | _=>none
 | .row a i=>match H a with
  | some (.f (.mat false M))=>if i < M.length/\ws.length<=lim/\AV.stos ws=true then some (upd H a (.f (.mat false (M.set i ws)))) else none
  | _=>none
 | _=>none
theorem Ig {s s':Shared}{H H':AH}{G:Gh}{v:AV}{a:Addr}{vs ws:List AV}{ys:List Value}{n n':Nat}{items:List Value}(R:Rel C H G (own H G) s.heap)(hv:VRel s.heap (own H G) G v (.ref a))(hp:Ih H v ws=some H'){h':Heap}{tk:Nat}
  (hk:∀ b ob,b ≠ a->s.heap.get? b=some ob->h'.get? b=some ob) (hg:h'.get? a=some (Bu ys n')) (hr:VRels s.heap (own H G) G ws ys) :
  Rel C H' G (own H' G) h'/\Step (fun z0=>False) H G s H' G { s with heap:=h',toks:=tk }:=by
 unfold Ih at hp
 set_option tactic.hygienic true in cases v <;> first | exact nqa hp | skip
 ·rename_i b
  simp only [vRr]at hv;cases hv
  refine eY hp ?_;clear hp;intro us ha hp
  refine Bj hp ?_;clear hp;intro hc hp
  obtain rfl:=Option.some.inj hp
  exact Jk (lk:=false) R ha hc.2 hc.1 hg hk hr
 ·rename_i b i
  refine eX hp ?_;clear hp;intro M ha hp
  refine Bj hp ?_;clear hp;intro hc hp
  obtain rfl:=Option.some.inj hp
  refine Ag fun PP ret=>?_
  simp only [vRw]at hv
  obtain⟨c,hc',e⟩:=hv
  cases e
  refine ret ?_
  exact Px R ha hc.1 hc' hc.2.2 hc.2.1 hg hk hr
noncomputable def Kd (f fe:PF):Wp AV:=fun Q ρ H=>∃ v vs x H',f ρ H=some v/\Av H v=some vs/\fe ρ H=some x/\Ih H v (vs++[x])=some H'/\Q .none ρ H'
theorem ImpE.append {o e:Expr} {apos pos:Pos} {fe:PF} (ho:PureE C k sc o f) (he:PureE C k sc e fe) (hbase:∀ env,attributeBase o "append" env (eval o env)=eval o env:=by intro _;rfl)
  (hfew:∀ env,((backTo pos (starEach [e] env)).all (fun x=>!x.1) && (backToKw pos (keywordEach [] env)).all (fun x=>x.1.isSome) && decide (([e]:List Expr).length + ([]:List Keyword).length + (if ([]:List Keyword).isEmpty then 0 else 1) < 30))=true:=by intro _;rfl)
  (hline:(apos.endLine == pos.line)=true:=by rfl) (htr:∀ env,starEach [e] env=[(false,eval e env)]:=by intro _;rfl):ImpE C k sc (.Call (.Attribute o "append" apos) [e] [] pos) (Kd f fe):=by
 rintro A env s ρ H G Q hA F hs R ⟨v,vs,x,H',hv,hvs,hx,hp,hq⟩
 refine Dy PySem.F.slot_list_append PySem.F.type_list_append (hbase env) (hfew env) hline (wpAny_mono (ho A env s ρ H G _ v hA F R hv) (fun ov s1 h1=>?_) fun z0 z0 x=>x)
 refine Ag fun PP ret=>?_
 obtain⟨rv,k1⟩:=h1
 have R1:=R.keep k1.k
 obtain⟨a,n,items,rfl,hg,hr,hz⟩:=Ao R1 rv hvs
 refine ret ?_
 refine⟨a,items,n,rfl,hg,?_⟩
 rw[htr env]
 refine P.append_list (wpAny_mono (he A env s1 ρ H G _ x hA (F.keep k1.k) R1 hx) (fun y s2 h2=>?_) fun z0 z0 x=>x)
 obtain⟨ry,k2⟩:=h2
 have k12:=k1.trans' k2
 have R2:=R.keep k12.k
 have hg2:=k2.k _ _ hg
 have hl:=hr.length
 refine⟨items.toArray,n,by have:=Bv;simp;exact Ar.r95 hz hl this,hg2,?_⟩
 obtain⟨n',hg'⟩:=Dv (h':=s2.heap) (ys:=items++[y]) (g:=fun xs=>xs.push y) hg2 (by simp)
 obtain⟨R3,S3⟩:=Ig (s':=s2) (tk:=s2.toks) (vs:=vs) (n:=n) (items:=items) R2 (rv.keep k2.k) hp Ck hg' ((hr.keep k2.k).append (.one ry))
 have F2:=F.keep k12.k
 exact⟨.none,ρ,H',G,hq,by simp[vRn],rfl,S3.wf F2 hs,hs,R3,(Step.kp R k12).trans (S3.frm F2)⟩
noncomputable def Pp (f:PF):Wp AV:=fun Q ρ H=>∃ v vs H',f ρ H=some v/\Av H v=some vs/\Ih H v []=some H'/\Q .none ρ H'
theorem ImpE.clear {o:Expr} {apos pos:Pos} (ho:PureE C k sc o f) (hbase:∀ env,attributeBase o "clear" env (eval o env)=eval o env:=by intro _;rfl)
  (hline:(apos.endLine == pos.line)=true:=by rfl):ImpE C k sc (.Call (.Attribute o "clear" apos) [] [] pos) (Pp f):=by
 rintro A env s ρ H G Q hA F hs R ⟨v,vs,H',hv,hvs,hp,hq⟩
 refine Dy PySem.F.slot_list_clear PySem.F.type_list_clear (hbase env) (by rfl) hline (wpAny_mono (ho A env s ρ H G _ v hA F R hv) (fun ov s1 h1=>?_) fun z0 z0 x=>x)
 refine Ag fun PP ret=>?_
 obtain⟨rv,k1⟩:=h1
 have R1:=R.keep k1.k
 obtain⟨a,n,items,rfl,hg,hr,hz⟩:=Ao R1 rv hvs
 refine ret ?_
 refine⟨a,items,n,rfl,hg,?_⟩
 have hl:=hr.length
 refine P.clear_list (items:=items.toArray) (n:=n) hg ?_ (by have:=Bv;simp;exact Ar.r95 hz hl this)
 obtain⟨n',hg'⟩:=Dv (h':=s1.heap) (ys:=[]) (g:=fun z0=>#[]) hg rfl
 obtain⟨R3,S3⟩:=Ig (s':=s1) (tk:=s1.toks) (vs:=vs) (n:=n) (items:=items) R1 rv hp Ck hg' .nil
 have F1:=F.keep k1.k
 exact⟨.none,ρ,H',G,hq,by simp[vRn],rfl,S3.wf F1 hs,hs,R3,(Step.kp R k1).trans (S3.frm F1)⟩
end
end Mine
end
section
namespace Mine
theorem Gw {h:Heap}{d:Addr}{m:Str->Option Value}(hn:h.Ns d m):∃ od,h.get? d=some od/\∀ name,lookIn name od=some (m name):=by
 refine Ag fun PP ret=>?_
 obtain⟨o,es,ep,ho,hd,hk,hm⟩:=hn
 refine ret ?_
 refine⟨o,ho,fun name=>?_⟩
 have hr:es.toList.any (·.refKey)=false:=by
  rw[List.any_eq_false];intro e he
  obtain⟨n,t,h⟩:=hk e (Array.mem_toList_iff.mp he);simp[DictEntry.refKey,h]
 unfold lookIn
 rw[hd]
 dsimp only
 have:=hm name
 simp only [nsFind,findBy]at this
 rw[<- Array.find?_toList]at this
 rw[<- this]
 cases es.toList.find? (·.key.isStr name) with
 | none=>simp[hr]
 | some e=>simp
noncomputable def jJ (K:Frag) (c:Addr) (name:Str):Bool:=plainGet K c name && hasDictIn K c && (match findIn K (.ref c) name with
 | some attr=>noGet K attr
 | none=>false)
noncomputable def jI (K:Frag) (c:Addr) (name:Str):Option (Addr × Nat):=if plainGet K c name && isClsIn K c then match findIn K (.ref c) name with
  | some (some (.ref p))=>if specialIn K (.ref p) "__get__" == some (some (.builtin "member_descriptor.__get__")) && takesIn K (.ref p) == some true then (slotIn K p c).map (p,·) else none
  | _=>none
 else none
noncomputable def Uy:AV->Bool
 | .bi _=>false
 | _=>true
theorem Ux {h:Heap}{O:Addr->Prop}{G:Gh}{v:AV}{y:Value}(hv:VRel h O G v y)(hh:Uy v=true):handedIn y=true:=by
 set_option tactic.hygienic true in cases v <;> simp only [vRu,vRn,vRb,vRi,vRs,vRr,vRk,vRt,vRw,vRp,vRf]at hv <;> first
  | (subst hv;rfl) | (obtain⟨_,rfl⟩:=hv;rfl) | (obtain⟨_,_,rfl⟩:=hv;rfl) | (obtain⟨_,_,_,rfl,_⟩:=hv;rfl) | exact nqd hh | exact hv.elim
section
variable {C:Cx} {k:Nat} {sc:Sc} {f f':PF} {K:Frag}
noncomputable def attrD (C:Cx) (name:Str) (H:AH):AV->Option AV
 | .ref a=>match H a with
  | some (.f (.inst c attrs))=>if c=C.tsC then match attrs.lookup name with
    | some v=>if Uy v=true then some v else none
    | none=>none
   else none
  | _=>none
 | _=>none
noncomputable def attrS (C:Cx) (i:Nat) (H:AH):AV->Option AV
 | .ref a=>match H a with
  | some (.f (.slots c vs))=>if c=C.niC then match vs[i]? with
    | some (some v)=>if Uy v=true then some v else none
    | _=>none
   else none
  | _=>none
 | _=>none
noncomputable def Au (g:AH->AV->Option AV) (f:PF):PF:=fun ρ H=>match f ρ H with
 | some v=>g H v
 | none=>none
theorem Xe {g:AH->AV->Option AV}{ρ:Rho}{H:AH}{r:AV}(h:Au g f ρ H=some r):∃ v,f ρ H=some v/\g H v=some r:=by
 unfold Au at h
 refine Fo h ?_;clear h;intro z1 q1 h
 exact⟨_,by assumption,h⟩
theorem bU {A:Around}{s:Shared}{H:AH}{G:Gh}{O:Addr->Prop}{name:Str}{v r:AV}{x:Value}{ex:Bool}{Q:Value->Shared->Prop}(hK:K.In C.h0)(hc:jJ K C.tsC name=true)(R:Rel C H G O s.heap)(hv:VRel s.heap O G v x)(e:attrD C name H v=some r)
  (hQ:∀ y,VRel s.heap O G r y->Q y { s with toks:=s.toks + 1 }):wpAny (model C.prog C.w) A (getAttr x name ex) Q (fun z0 z0=>False) s:=by
 unfold attrD at e
 refine Sy e ?_;clear e;intro a q1 e;subst q1
 simp only [vRr]at hv;subst hv
 refine eZ e ?_;clear e;intro c attrs hH e
 refine Bj e ?_;clear e;intro hcc e
 subst hcc
 refine Fo e ?_;clear e;intro v hlk e
 refine Bj e ?_;clear e;intro hh e
 obtain rfl:=Option.some.inj e
 refine Ag fun PP ret=>?_
 obtain⟨d,m,hg,hst,_,hx,hn,hm⟩:=R.obj a _ hH
 obtain⟨od,hod,hlook⟩:=Gw hn.ns
 obtain⟨y,hy,hry⟩:=(hm name).2 _ hlk
 have X:K.In s.heap:=hK.keeps fun b o e=>(R.base b o e).1
 have I:InstAt s.heap a { cls:=.ref C.tsC,dict:=some d,data:=.plain,slots:=#[] } C.tsC (some od):=⟨hx,rfl,rfl,hod⟩
 simp only [jJ,Bool.and_eq_true]at hc
 obtain⟨⟨h1,h2⟩,h3⟩:=hc
 refine ret ?_
 set_option tactic.hygienic true in split at h3
 rotate_left
 ·exact nqd h3
 rename_i attr ha
 exact get_value X I (plainGet_of h1).1 (findObj_own h2 ha h3 (by rw[hlook,hy])) (Ux hry hh) (hQ y hry)
theorem bT {A:Around}{s:Shared}{H:AH}{G:Gh}{O:Addr->Prop}{name:Str}{p:Addr}{i:Nat}{v r:AV}{x:Value}{ex:Bool}{Q:Value->Shared->Prop}(hK:K.In C.h0)(hc:jI K C.niC name=some (p,i))(R:Rel C H G O s.heap)(hv:VRel s.heap O G v x)(e:attrS C i H v=some r)
  (hQ:∀ y,VRel s.heap O G r y->Q y { s with toks:=s.toks + 1 }):wpAny (model C.prog C.w) A (getAttr x name ex) Q (fun z0 z0=>False) s:=by
 unfold attrS at e
 refine Sy e ?_;clear e;intro a q1 e;subst q1
 simp only [vRr]at hv;subst hv
 refine jB e ?_;clear e;intro c vs hH e
 refine Bj e ?_;clear e;intro hcc e
 subst hcc
 refine iSS e ?_;clear e;intro v hlk e
 refine Bj e ?_;clear e;intro hh e
 obtain rfl:=Option.some.inj e
 refine Ag fun PP ret=>?_
 obtain⟨d,ys,hg,hst,hx,hn,hsz,hm⟩:=R.obj a _ hH
 obtain⟨od,hod,hlook⟩:=Gw hn
 obtain⟨y,hy,hry⟩:=(hm i).1 _ hlk
 have X:K.In s.heap:=hK.keeps fun b o e=>(R.base b o e).1
 have I:InstAt s.heap a { cls:=.ref C.niC,dict:=some d,data:=.plain,slots:=ys } C.niC (some od):=⟨hx,rfl,rfl,hod⟩
 refine ret ?_
 unfold jI at hc
 refine Bj hc ?_;clear hc;intro hb hc
 simp only [Bool.and_eq_true]at hb
 refine Sx hc ?_;clear hc;intro p' hp' hc
 refine Bj hc ?_;clear hc;intro hb2 hc
 refine Ag fun PP ret=>?_
 simp only [Bool.and_eq_true,beq_iff_eq]at hb2
 obtain⟨j,hj,e2⟩:=Option.map_eq_some_iff.mp hc
 clear R e hH hK hc hg hlk hlook hm hn hod hst hsz hx;cases e2
 refine ret ?_
 have hv:(ys[i]?).join=some y:=by rw[hy];rfl
 exact get_bind X I (plainGet_of hb.1).1 (findObj_data hb.2 hp' hb2.1 hb2.2) (plainGet_of hb.1).2 (wpAny_call (slot_get (s:={ s with toks:=s.toks + 1 }) X I hj hv (handed_on (Ux hry hh) (hQ y hry))))
end
end Mine
end
section
namespace Mine
noncomputable def Yi (K:Frag) (c:Addr) (name:Str):Bool:=findIn K (.ref c) "__setattr__" == some (some (.builtin "object.__setattr__")) && plainOver K c && takerIn K c name == some none && (clsIn K c).any (·.hasDict)
section
variable {prog:Program} {w:World} {A:Around} {K:Frag} {c x dx:Addr} {s:Shared} {R:Result->Shared->Prop}
theorem Qm {α:Type}[DecidableEq α]:∀ {l l':List α},l.Nodup->(∀ x ∈ l,x ∈ l')->l.length<=l'.length
 | [],_,_,_=>Nat.zero_le _
 | x :: l,l',h,hs=>by
  rw[List.nodup_cons]at h
  have hx:=hs x (by simp)
  have:=Qm (l:=l) (l':=l'.erase x) h.2 fun y hy=>by
   have hne:y ≠ x:=fun q=>h.1 (q ▸ hy)
   exact(List.mem_erase_of_ne hne).mpr (hs y (by simp[hy]))
  rw[List.length_erase_of_mem hx]at this
  have hpos:0 < l'.length:=List.length_pos_of_mem hx
  simp only [List.length_cons];exact Ar.r94 this hpos
noncomputable def jP:Value->Str
 | .str s _=>s
 | _=>""
theorem Zf {h:Heap}{d:Addr}{m:Str->Option Value}(hn:h.Ns1 d m){names:List Str}(hs:∀ x,x ∉ names->m x=none):∃ o es ep,h.get? d=some o/\o.data = .dict es ep/\es.size<=names.length:=by
 refine Ag fun PP ret=>?_
 obtain⟨o,es,ep,ho,hd,hk,hu,hm⟩:=hn
 refine ret ?_
 refine⟨o,es,ep,ho,hd,?_⟩
 rw[UniqKeys.iff_keys]at hu
 have key:((es.toList.map fun e=>jP e.key)).Nodup:=by
  unfold List.Nodup
  rw[List.pairwise_map]
  rw[List.pairwise_map]at hu
  refine hu.imp_of_mem fun {a b} ha hb hab=>?_
  obtain⟨n,t,e1⟩:=hk a (Array.mem_toList_iff.mp ha)
  obtain⟨n',t',e2⟩:=hk b (Array.mem_toList_iff.mp hb)
  rw[e1,e2]at hab ⊢
  intro q
  clear e1 e2 ha hb hd hk hm ho hs hu ret;obtain rfl:n=n':=q
  exact hab n (by simp[Value.isStr]) (by simp[Value.isStr])
 have:=Qm key (l':=names) fun x hx=>by
  clear hd ho hu key ret;obtain⟨e,he,rfl⟩:=List.mem_map.mp hx
  obtain⟨n,t,e1⟩:=hk e (Array.mem_toList_iff.mp he)
  rw[e1]
  refine(?_:n ∈ names)
  apply Classical.byContradiction
  intro q
  have h0:=hm n
  rw[hs n q]at h0
  simp only [nsFind,findBy]at h0
  rw[<- Array.find?_toList,Option.map_eq_none_iff,List.find?_eq_none]at h0
  exact h0 e he (by rw[e1];simp[Value.isStr])
 simpa using this
theorem iF {ox od:Obj}{name:Str}{tk:Tok}{v:Value}{m:Str->Option Value}{names:List Str}(X:K.In s.heap)(I:InstAt s.heap x ox c (some od))(hd:ox.dict=some dx)(hn:s.heap.Ns1 dx m)(hp:plainOver K c=true)(ht:takerIn K c name=some none)(hh:(clsIn K c).any (·.hasDict)=true)
  (hnm:∀ x,x ∉ names->m x=none) (hz:names.length<=1000)
  (h:∀ h',h'.Ns1 dx (fun y=>if y=name then some v else m y)->Heap.SameBut dx s.heap h'->R (.ok (.ret .none)) { s with heap:=h',toks:=s.toks + 1 }) :
  codeAny (model prog w) A (.call (.builtin "object.__setattr__") ⟨[.ref x,.str name tk,v],[]⟩) R s:=by
 refine osa_open X I hp ht fun b=>?_
 refine Ag fun PP ret=>?_
 obtain⟨cd,hc,hd'⟩:=any_some hh
 obtain⟨hx,hcl,hno,-⟩:=I
 obtain⟨oc,odi,oda,osl⟩:=ox
 refine ret ?_
 dsimp only at hcl hd
 clear hh hno hp ht;subst hcl hd
 refine wpAny_bind (wpAny_pure (wpAny_bind (wpAny_bind (wpAny_loadPart hx (wpAny_bind ((looks_clsIn X hc).here ?_))))))
 rw[hd']
 refine wpAny_pure (a:=some dx) (wpAny_bind (wpAny_pure (wpAny_bind ?_)))
 refine wpAny_nsSet1 hn fun h' hn' hs'=>?_
 refine Ag fun PP ret=>?_
 obtain⟨o',es',ep',ho',hd2,hz'⟩:=Zf hn' (names:=name :: names) fun y hy=>by
  simp only [List.mem_cons,not_or]at hy
  simp only [hy.1,if_false];exact hnm y hy.2
 refine ret ?_
 refine wpAny_bind (wpAny_lookBehind ho' (by rw[hd2];exact pastItsLine_dict (by simp at hz';rw[sizeLine_eq];exact Ar.r77 hz hz')) ?_)
 exact wpAny_pure (h h' hn' hs')
end
section
variable {C:Cx} {k:Nat} {sc:Sc} {f f':PF} {K:Frag}
noncomputable def Dx:List (Str × AV)->Str->AV->List (Str × AV)
 | [],n,v=>[(n,v)]
 | (z,u) :: r,n,v=>if z == n then (n,v) :: r else (z,u) :: Dx r n v
theorem iC {n:Str}{v:AV}:Dx [] n v=[(n,v)]:=rfl
theorem kA {z:Str}{u v:AV}{r:List (Str × AV)}{n:Str}:Dx ((z,u) :: r) n v=if z == n then (n,v) :: r else (z,u) :: Dx r n v:=rfl
theorem Gf {name y:Str}{v:AV}:∀ {attrs:List (Str × AV)},(Dx attrs name v).lookup y=if y=name then some v else attrs.lookup y
 | []=>by
  by_cases hy:y=name
  ·subst hy;simp[iC]
  ·have:(y == name)=false:=by simpa using hy
   simp[iC,List.lookup_cons,this,hy]
 | (z,u) :: r=>by
  rw[kA]
  set_option tactic.hygienic true in split
  ·rename_i hz
   have:z=name:=by simpa using hz
   clear hz;subst this
   by_cases hy:y=z
   ·subst hy;simp
   ·have:(y == z)=false:=by simpa using hy
    simp[List.lookup_cons,this,hy]
  ·rename_i hz
   rw[List.lookup_cons,List.lookup_cons]
   cases hyz:y == z with
   | true =>
    have:y=z:=by simpa using hyz
    clear hyz;subst this
    have:¬ y=name:=by simpa using hz
    simp[this]
   | false=>exact Gf
theorem Qh {name:Str}{v u:AV}:∀ {attrs:List (Str × AV)},u ∈ (Dx attrs name v).map (·.2)->u=v\/u ∈ attrs.map (·.2)
 | [],h=>by simp[iC]at h;exact .inl h
 | (z,w) :: r,h=>by
  rw[kA]at h
  set_option tactic.hygienic true in split at h
  ·simp only [List.map_cons,List.mem_cons]at h ⊢
   rcases h with q | q
   ·exact .inl q
   ·exact .inr (.inr q)
  ·simp only [List.map_cons,List.mem_cons]at h ⊢
   rcases h with q | q
   ·exact .inr (.inl q)
   ·exact(Qh q).imp id .inr
theorem Yy {attrs:List (Str × AV)}{name:Str}{v:AV}(h:AV.stos (attrs.map (·.2))=true)(hv:v.sto=true):AV.stos ((Dx attrs name v).map (·.2))=true:=by
 rw[stos_iff]at h ⊢
 intro u hu
 rcases Qh hu with q | q
 ·clear h hu;subst q;exact hv
 ·exact h u q
noncomputable def Ia (C:Cx) (name:Str) (H:AH) (ov v:AV):Option AH:=match ov with
 | .ref a=>match H a with
  | some (.f (.inst c attrs))=>if c=C.tsC/\v.sto=true/\(Dx attrs name v).length<=1000 then some (upd H a (.f (.inst c (Dx attrs name v)))) else none
  | _=>none
 | _=>none
theorem cN {A:Around}{s:Shared}{H H':AH}{G:Gh}{name:Str}{ov v:AV}{x z:Value}{Q:Unit->Shared->Prop}(hK:K.In C.h0)(hc:Yi K C.tsC name=true)(R:Rel C H G (own H G) s.heap)(hx:VRel s.heap (own H G) G ov x)(hz:VRel s.heap (own H G) G v z)(e:Ia C name H ov v=some H')
  (hQ:∀ s' G',Rel C H' G' (own H' G') s'.heap->Step (fun z0=>False) H G s H' G' s'->Q () s'):wpAny (model C.prog C.w) A (setAttr x name z) Q (fun z0 z0=>False) s:=by
 unfold Ia at e
 refine Sy e ?_;clear e;intro a q1 e;subst q1
 simp only [vRr]at hx;subst hx
 refine eZ e ?_;clear e;intro c attrs ha e
 refine Bj e ?_;clear e;intro hcc e
 obtain rfl:=Option.some.inj e
 refine Ag fun PP ret=>?_
 obtain⟨rfl,hsv,hlen⟩:=hcc
 obtain⟨d,m,hg,hst,hzz,hx,hn,hm⟩:=R.obj a _ ha
 obtain⟨od,hod,hlook⟩:=Gw hn.ns
 have X:K.In s.heap:=hK.keeps fun b o e=>(R.base b o e).1
 have I:InstAt s.heap a { cls:=.ref C.tsC,dict:=some d,data:=.plain,slots:=#[] } C.tsC (some od):=⟨hx,rfl,rfl,hod⟩
 simp only [Yi,Bool.and_eq_true,beq_iff_eq]at hc
 obtain⟨⟨⟨h1,h2⟩,h3⟩,h4⟩:=hc
 refine ret ?_
 have hne:H a ≠ none:=by rw[ha];simp
 have hdm:d ∈ G a:=by rw[hg];simp
 have hda:d ≠ a:=fun q=>(List.nodup_cons.mp (R.nd a hne)).1 (q ▸ hdm)
 refine set_plain X I h1 (iF (s:={ s with toks:=s.toks + 1 }) X I rfl hn h2 h3 h4 (names:=attrs.map (·.1)) (fun y hy=>(hm y).1 ?_) (by simpa using hzz) fun h' hn' hs'=>?_)
 ·clear I R X e h1 h2 h3 h4 hK hQ ha hda hdm hg hlen hlook hm hn hne hod hst hsv hx hz hzz ret;cases q:attrs.lookup y with
  | none=>rfl
  | some u=>exact absurd (List.mem_map.mpr ⟨(y,u),PySem.mem_of_lookup q,rfl⟩) hy
 have hk:∀ b ob,b ≠ d->s.heap.get? b=some ob->h'.get? b=some ob:=fun b ob hb e=>hs'.extBut b ob hb e
 have hO:own H G d:=⟨a,hne,.inr hdm⟩
 have sh:∀ b o xs n,s.heap.get? b=some o->o.data = .seq xs n->¬ own H G b->h'.get? b=some o/\¬ own H G b:=fun b o xs n e z0 hb=>⟨hk b o (fun q=>hb (q ▸ hO)) e,hb⟩
 refine hQ _ G (R.change ha (fun b ob h1 h2 e=>hk b ob (fun q=>h2 (q ▸ hdm)) e) ⟨d,_,hg,Yy hst hsv,hlen,hk a _ (Ne.symm hda) hx,hn',fun y=>⟨fun hy=>?_,fun u hu=>?_⟩⟩ (fun b hb=>?_)) (.turn R ha rfl fun b ob h1 h2 e=>hk b ob (fun q=>h2 (q ▸ hdm)) e)
 ·rw[Gf]at hy
  set_option tactic.hygienic true in split at hy
  ·exact nqb hy
  ·rename_i q;simp only [q,if_false];exact(hm y).1 hy
 ·rw[Gf]at hu
  set_option tactic.hygienic true in split at hu
  ·rename_i q;clear I R X e h1 h2 h3 h4 hK hO hQ ha hda hdm hg hk hlen hlook hm hn hn' hne hod hs' hst hsv hx hzz ret;obtain rfl:=Option.some.inj hu;exact⟨z,by simp[q],hz.wide sh⟩
  ·rename_i q
   obtain⟨w,hw,hr⟩:=(hm y).2 u hu
   exact⟨w,by simp[q,hw],hr.wide sh⟩
 ·rw[hg]at hb
  simp at hb
  clear I R X h1 h2 h3 h4 hK hO hQ ha hdm hg hlen hlook hm hn hne hod hs' hst hsv hz hzz ret sh;rcases hb with rfl | rfl
  ·exact⟨_,hk b _ (Ne.symm hda) hx⟩
  ·obtain⟨o',_,_,e,_⟩:=hn'.ns;exact⟨o',e⟩
noncomputable def Fu (g:AH->AV->AV->Option AH) (W:Wp AV) (fo:PF):Wp AFlow:=fun Q=>W fun v ρ H=>∃ ov H',fo ρ H=some ov/\g H ov v=some H'/\Q .next ρ H'
noncomputable def SetAR (C:Cx) (k:Nat) (name:Str) (g:AH->AV->AV->Option AH):Prop :=
 ∀ (A:Around) (s:Shared) (H H':AH) (G:Gh) (ov v:AV) (x z:Value) (Q:Unit->Shared->Prop),AOk k A->Rel C H G (own H G) s.heap->VRel s.heap (own H G) G ov x->VRel s.heap (own H G) G v z->g H ov v=some H' ->
  (∀ s' G',Rel C H' G' (own H' G') s'.heap->Step (fun z0=>False) H G s H' G' s'->Q () s')->wpAny (model C.prog C.w) A (setAttr x name z) Q (fun z0 z0=>False) s
theorem SetAR.D {name:Str}(hK:K.In C.h0)(hc:Yi K C.tsC name=true):SetAR C k name (Ia C name):=fun A s H H' G ov v x z Q z0 R hx hz e hQ=>cN hK hc R hx hz e hQ
theorem StmtR.seta {o e:Expr}{name:Str}{p pos:Pos}{W:Wp AV}{g:AH->AV->AV->Option AH}(hg:SetAR C k name g)(he:ImpE C k sc e W)(ho:PureE C k sc o f)(hsw:∀ env,swapsWith e (some (.Attribute o name p)) pos.line env=pure false:=by intro _;rfl) :
  StmtR C k sc (.Assign [.Attribute o name p] e pos) (Fu g W f):=by
 intro A env s ρ H G Q hA F hs R hT
 rw[plainObj_exec_Assign_Attribute _ _ _ _ _ (hsw env)]
 refine wpAny_bind (wpAny_standAt (wpAny_bind (wpAny_mono (he A env s ρ H G _ hA F hs R hT) (fun z s1 h1=>?_) fun z0 z0 x=>x)))
 refine Ag fun PP ret=>?_
 obtain⟨v,ρ1,H1,G1,⟨ov,H2,hov,hset,hq⟩,hv,hsv,F1,hs1,R1,S1⟩:=h1
 refine ret ?_
 rw[arm_assign_Attribute]
 refine wpAny_bind (wpAny_bind (wpAny_holding (wpAny_mono (ho A env s1 ρ1 H1 G1 _ ov hA F1 R1 hov) (fun x s2 h2=>?_) fun z0 z0 x=>x)))
 obtain⟨hx,k2⟩:=h2
 have R2:=R1.keep k2.k
 have F2:=F1.keep k2.k
 refine wpAny_bind (wpAny_standAt (wpAny_bind (wpAny_holding (hg A s2 H1 H2 G1 ov v x z _ hA R2 hx (hv.keep k2.k) hset fun s3 G3 R3 S3=>?_))))
 exact wpAny_release (wpAny_pure ⟨.next,ρ1,H2,G3,hq,trivial,S3.wf F2 hs1,hs1,R3,(S1.trans (.kp R1 k2)).trans (S3.frm F2)⟩)
end
end Mine
end
section
namespace Mine
section
open PySem.Calls PySem.Builtin PySem.Builtin.ObjectAttr PySem.Builtin.Getset_descriptor
variable {prog:Program} {w:World} {A:Around} {K:Frag} {c x p:Addr} {s:Shared} {R:Result->Shared->Prop}
noncomputable def Lm (i:Nat) (v:Value) (o:Obj):Obj:={ o with slots:=(o.slots++Array.replicate (i + 1 - o.slots.size) none).setIfInBounds i (some v) }
theorem Yh {ox:Obj}{od:Option Obj}{v:Value}{i:Nat}(X:K.In s.heap)(I:InstAt s.heap x ox c od)(hp:slotIn K p c=some i)(hi:i < 1000)
  (h:R (.ok (.ret .none)) { s with heap:=s.heap.update x (Lm i v) }) :
  codeAny (model prog w) A (.call (.builtin "member_descriptor.__set__") ⟨[.ref p,.ref x,v],[]⟩) R s:=by
 refine Ag fun PP ret=>?_
 obtain⟨n,tn,owner,behind,tb,d,sl,cd,ho,hc,hm,hb,rfl⟩:=slot_of X hp
 obtain⟨hh,g,dr,t,os⟩:=s
 have L0:=I.type (M:=model prog w)
 have L1:=looks_mroIn (M:=model prog w) X hm
 have L2:Looks (model prog w) hh (Slots.slotNamesOf (.ref c)) cd.slotNames:=(looks_clsIn X hc).andThen .now
 have hx:=I.at_
 refine ret ?_
 dsimp only at ho hx L0 L1
 have f0:=looks_field (M:=model prog w) ho 0 (v:=.str n tn) rfl
 have f1:=looks_field (M:=model prog w) ho 1 (v:=owner) rfl
 have f3:=looks_field (M:=model prog w) ho 3 (v:=.builtin "proto.slot#set") rfl
 have f4:=looks_field (M:=model prog w) ho 4 (v:=.int behind tb) rfl
 refine codeAny_call_builtin KF.slot_mset.plain KF.entry_mset (KF.slot_mset.check _ _ _ _ _ _ _ _ ⟨_,ho,rfl⟩ (KF.args_mset _ _ _) ?_)
 unfold Builtin.«member_descriptor.__set__» descrSet descrStoreThrough descrCheckInstance descrNameAndClass isInstance
 have f5:Looks (model prog w) hh (descrItself (.ref p)) [.ref p]:=((Looks.ld (part:=none) ho).andThen .now).andThen (Looks.of_pure (by kernel_rfl))
 repeat lk
 refine⟨Code.quiet_builtin _ (by decide +kernel),codeAny_builtin KF.entry_slotset ?_⟩
 unfold Builtin.«proto.slot#set» Slots.target
 repeat lk
 rw[if_neg hb]
 refine wpAny_pure (wpAny_bind ?_)
 unfold setSlotAt
 dsimp only
 rw[if_neg (by rw[sizeLine_eq];lia)]
 exact wpAny_updatePart hx (wpAny_pure h)
end
section
variable {C:Cx} {k:Nat} {sc:Sc} {f f':PF} {K:Frag}
noncomputable def Uc (K:Frag) (c:Addr) (name:Str):Option (Addr × Nat):=if findIn K (.ref c) "__setattr__" == some (some (.builtin "object.__setattr__")) && plainOver K c then match takerIn K c name with
  | some (some (.ref p))=>if typeIn K (.ref p) == some (.type "member_descriptor") then (slotIn K p c).map (p,·) else none
  | _=>none
 else none
noncomputable def Gd (vs:List (Option AV)) (i:Nat) (v:AV):List (Option AV):=(vs++List.replicate (i + 1 - vs.length) none).set i (some v)
noncomputable def He (C:Cx) (i:Nat) (H:AH) (ov v:AV):Option AH:=match ov with
 | .ref a=>match H a with
  | some (.f (.slots c vs))=>if c=C.niC/\v.sto=true then some (upd H a (.f (.slots c (Gd vs i v)))) else none
  | _=>none
 | _=>none
inductive SetSI (C:Cx) (i:Nat) (H:AH) (v:AV):AV->AH->Prop
 | mk (a:Addr) (vs:List (Option AV)) (ha:H a=some (.f (.slots C.niC vs))) (hs:v.sto=true):SetSI C i H v (.ref a) (upd H a (.f (.slots C.niC (Gd vs i v))))
theorem Yk {C:Cx}{i:Nat}{H H':AH}{ov v:AV}(e:He C i H ov v=some H'):SetSI C i H v ov H':=by
 cases ov with
 | ref a =>
  unfold He at e
  dsimp only at e
  generalize ha:H a=o at e
  cases o with
  | none=>exact nqa e
  | some o=>cases o with
   | srt S=>exact nqa e
   | f o=>cases o with
    | slots c vs =>
     dsimp only at e
     split at e
     ·next h=>obtain⟨rfl,hs⟩:=h;exact Option.some.inj e ▸ .mk a vs ha hs
     ·exact nqa e
    | _=>exact nqa e
 | _=>exact nqa e
inductive SetsI (K:Frag) (c:Addr) (name:Str) (p:Addr) (i:Nat):Prop
 | mk (h1:findIn K (.ref c) "__setattr__" = some (some (.builtin "object.__setattr__"))) (h2:plainOver K c=true) (h3:takerIn K c name=some (some (.ref p))) (h4:typeIn K (.ref p)=some (.type "member_descriptor")) (h5:slotIn K p c=some i)
theorem Vw {K:Frag}{c:Addr}{name:Str}{p:Addr}{i:Nat}(hc:Uc K c name=some (p,i)):SetsI K c name p i:=by
 unfold Uc at hc
 refine Bj hc ?_;clear hc;intro hb hc
 simp only [Bool.and_eq_true,beq_iff_eq]at hb
 refine Sx hc ?_;clear hc;intro p' hp' hc
 refine Bj hc ?_;clear hc;intro hb2 hc
 simp only [beq_iff_eq]at hb2
 obtain⟨j,hj,e2⟩:=Option.map_eq_some_iff.mp hc
 clear hc;cases e2
 exact⟨hb.1,hb.2,hp',hb2,hj⟩
theorem cM {A:Around}{s:Shared}{H H':AH}{G:Gh}{name:Str}{p:Addr}{i:Nat}{ov v:AV}{x z:Value}{Q:Unit->Shared->Prop}(hK:K.In C.h0)(hc:Uc K C.niC name=some (p,i))(hi:i < 1000)(R:Rel C H G (own H G) s.heap)(hx:VRel s.heap (own H G) G ov x)(hz:VRel s.heap (own H G) G v z)(e:He C i H ov v=some H')
  (hQ:∀ s' G',Rel C H' G' (own H' G') s'.heap->Step (fun z0=>False) H G s H' G' s'->Q () s'):wpAny (model C.prog C.w) A (setAttr x name z) Q (fun z0 z0=>False) s:=by
 refine Ag fun PP ret=>?_
 obtain⟨a,vs,ha,hsv⟩:=Yk e
 have hxe:x = .ref a:=hx
 subst hxe
 obtain⟨d,ys,hg,hst,hx,hn,hsz,hm⟩:=R.obj a _ ha
 obtain⟨od,hod,hlook⟩:=Gw hn
 have X:K.In s.heap:=hK.keeps fun b o e=>(R.base b o e).1
 have I:InstAt s.heap a { cls:=.ref C.niC,dict:=some d,data:=.plain,slots:=ys } C.niC (some od):=⟨hx,rfl,rfl,hod⟩
 obtain⟨hb1,hb,hp',hb2,hj⟩:=Vw hc
 refine ret ?_
 have hne:H a ≠ none:=by rw[ha];simp
 have hdm:d ∈ G a:=by rw[hg];simp
 have hda:d ≠ a:=fun q=>(List.nodup_cons.mp (R.nd a hne)).1 (q ▸ hdm)
 refine set_plain X I hb1 (osa_descr (s:={ s with toks:=s.toks + 1 }) KF.slot_mset X I hb hp' hb2 (Yh (s:={ s with toks:=s.toks + 1 }) X I hj hi ?_))
 have hk:∀ b ob,b ≠ a->s.heap.get? b=some ob->(s.heap.update a (Lm i z)).get? b=some ob:=Ck
 have hget:(s.heap.update a (Lm i z)).get? a=some { cls:=.ref C.niC,dict:=some d,data:=.plain,slots:=(ys++Array.replicate (i + 1 - ys.size) none).setIfInBounds i (some z) }:=Heap.get?_update_self _ hx rfl
 have hO:own H G a:=⟨a,hne,.inl rfl⟩
 have sh:∀ b o xs n,s.heap.get? b=some o->o.data = .seq xs n->¬ own H G b->(s.heap.update a (Lm i z)).get? b=some o/\¬ own H G b:=fun b o xs n e z0 hb=>⟨hk b o (fun q=>hb (q ▸ hO)) e,hb⟩
 refine hQ _ G (R.change ha (fun b ob h1 h2 e=>hk b ob h1 e) ⟨d,_,hg,?_,hget,hn.at' fun o e=>hk d o hda e,?_,fun j=>⟨fun u hu=>?_,fun hu=>?_⟩⟩ (fun b hb=>?_)) (.turn R ha rfl fun b ob h1 h2 e=>hk b ob h1 e)
 ·rw[stos_iff]at hst ⊢
  intro u hu
  refine Ag fun PP ret=>?_
  obtain⟨o,ho,e⟩:=List.mem_filterMap.mp hu
  simp only [id]at e;clear I R X hK hO hQ ha hb hb1 hb2 hc hda hdm hg hget hi hj hk hlook hm hn hne hod hp' hsz hu hx hz sh;subst e
  refine ret ?_
  rcases List.mem_or_eq_of_mem_set ho with q | q
  ·rcases List.mem_append.mp q with q | q
   ·exact hst u (List.mem_filterMap.mpr ⟨_,q,rfl⟩)
   ·simp at q
  ·cases q;exact hsv
 ·simp[Gd,hsz]
 ·unfold Gd at hu
  by_cases q:j=i
  ·clear I R X e hK hO hQ ha hb hb1 hb2 hc hda hdm hg hget hi hj hk hlook hm hn hne hod hp' hst hsv hsz hx ret;subst q
   have hlt:j < (vs++List.replicate (j + 1 - vs.length) none).length:=by simp;exact Ar.r217
   rw[List.getElem?_set_self hlt]at hu
   cases hu
   refine⟨z,?_,hz.wide sh⟩
   rw[Array.getElem?_setIfInBounds_self]
   have hlt2:j < (ys++Array.replicate (j + 1 - ys.size) none).size:=by simp;exact Ar.r217
   simp[hlt2];exact Ar.r217
  ·rw[List.getElem?_set_ne (Ne.symm q)]at hu
   rw[Array.getElem?_setIfInBounds_ne (Ne.symm q)]
   by_cases hlt:j < vs.length
   ·rw[List.getElem?_append_left hlt]at hu
    obtain⟨y,hy,hr⟩:=(hm j).1 u hu
    exact⟨y,by rw[Array.getElem?_append_left (by exact Ar.r38 hsz hlt)];exact hy,hr.wide sh⟩
   ·rw[List.getElem?_append_right (by exact Ar.r123 hlt),List.getElem?_replicate]at hu
    set_option tactic.hygienic true in split at hu <;> cases hu
 ·unfold Gd at hu
  by_cases q:j=i
  ·clear I R X e hK hO hQ ha hb hb1 hb2 hc hda hdm hg hget hi hj hk hlook hm hn hne hod hp' hst hsv hsz hx hz ret sh;subst q
   have hlt:j < (vs++List.replicate (j + 1 - vs.length) none).length:=by simp;exact Ar.r217
   rw[List.getElem?_set_self hlt]at hu
   cases hu
  ·rw[List.getElem?_set_ne (Ne.symm q)]at hu
   rw[Array.getElem?_setIfInBounds_ne (Ne.symm q)]
   by_cases hlt:j < vs.length
   ·rw[List.getElem?_append_left hlt]at hu
    rw[Array.getElem?_append_left (by exact Ar.r38 hsz hlt)];exact(hm j).2 hu
   ·rw[List.getElem?_append_right (by exact Ar.r123 hlt),List.getElem?_replicate]at hu
    rw[Array.getElem?_append_right (by exact Ar.r34 hsz hlt),Array.getElem?_replicate]
    rw[hsz]
    refine Bj hu ?_;clear hu;intro q hu
    simp only [q,if_true]
 ·rw[hg]at hb
  simp at hb
  clear I R X e hK hO hQ ha hb1 hb2 hc hdm hg hi hj hlook hm hn hne hp' hst hsv hsz hx hz ret sh;rcases hb with rfl | rfl
  ·exact⟨_,hget⟩
  ·exact⟨od,hk b od hda hod⟩
theorem SetAR.S {name:Str}{p:Addr}{i:Nat}(hK:K.In C.h0)(hc:Uc K C.niC name=some (p,i))(hi:i < 1000:=by decide):SetAR C k name (He C i):=fun A s H H' G ov v x z Q z0 R hx hz e hQ=>cM hK hc hi R hx hz e hQ
noncomputable def GetAR (C:Cx) (k:Nat) (name:Str) (g:AH->AV->Option AV):Prop :=
 ∀ (A:Around) (s:Shared) (H:AH) (G:Gh) (O:Addr->Prop) (v r:AV) (x:Value) (ex:Bool) (Q:Value->Shared->Prop),AOk k A->Rel C H G O s.heap->VRel s.heap O G v x->g H v=some r ->
  (∀ y,VRel s.heap O G r y->Q y { s with toks:=s.toks + 1 })->wpAny (model C.prog C.w) A (getAttr x name ex) Q (fun z0 z0=>False) s
theorem GetAR.D {name:Str}(hK:K.In C.h0)(hc:jJ K C.tsC name=true):GetAR C k name (Mine.attrD C name):=fun A s H G O v r x ex Q z0 R hv e hQ=>bU hK hc R hv e hQ
theorem GetAR.S {name:Str}{p:Addr}{i:Nat}(hK:K.In C.h0)(hc:jI K C.niC name=some (p,i)):GetAR C k name (Mine.attrS C i):=fun A s H G O v r x ex Q z0 R hv e hQ=>bT hK hc R hv e hQ
noncomputable def Jc (ga:AH->AV->Option AV) (sa:AH->AV->AV->Option AH) (fo fv:PF) (g:AH->AV->AV->Option AV):Wp AFlow:=fun Q ρ H=>∃ ov old v new H',fo ρ H=some ov/\ga H ov=some old/\fv ρ H=some v/\g H old v=some new/\sa H ov new=some H'/\Q .next ρ H'
theorem StmtR.auga {o e:Expr}{name:Str}{op:Operator}{p pos:Pos}{fv:PF}{ga:AH->AV->Option AV}{sa:AH->AV->AV->Option AH}{g:AH->AV->AV->Option AV}(hga:GetAR C k name ga)(hsa:SetAR C k name sa)(ho:PureE C k sc o f)(he:PureE C k sc e fv)(hg:BinR C k (inplaceOp op) g) :
  StmtR C k sc (.AugAssign (.Attribute o name p) op e pos) (Jc ga sa f fv g):=by
 rintro A env s ρ H G Q hA F hs R ⟨ov,old,v,new,H',hov,hold,hv,hnew,hset,hq⟩
 refine wpAny_AugAssign_AttributeAny (wpAny_mono (ho A env s ρ H G _ ov hA F R hov) (fun x s1 h1=>?_) fun z0 z0 x=>x)
 obtain⟨hx,k1⟩:=h1
 have R1:=R.keep k1.k
 refine hga A s1 H G _ ov old x true _ hA R1 hx hold fun z hz=>?_
 have k1':Kp s { s1 with toks:=s1.toks + 1 }:=k1.trans' .tok
 refine wpAny_mono (he A env { s1 with toks:=s1.toks + 1 } ρ H G _ v hA (F.keep k1'.k) R1 hv) (fun u s3 h3=>?_) fun z0 z0 x=>x
 obtain⟨hu,k3⟩:=h3
 have R3:=R1.keep k3.k
 refine wpAny_mono (hg A s3 H G _ old v new z u hA R3 (hz.keep k3.k) hu hnew) (fun r s4 h4=>?_) fun z0 z0 x=>x
 obtain⟨hr,k4⟩:=h4
 have k14:=(k1'.trans' k3).trans' k4
 have R4:=R.keep k14.k
 have F4:=F.keep k14.k
 have hx4:VRel s4.heap (own H G) G ov x:=hx.keep (Kp.tok.trans' (k3.trans' k4)).k
 refine hsa A s4 H H' G ov new x r _ hA R4 hx4 hr hset fun s5 G5 R5 S5=>?_
 exact⟨.next,ρ,H',G5,hq,trivial,S5.wf F4 hs,hs,R5,(Step.kp R k14).trans (S5.frm F4)⟩
end
end Mine
end
section
namespace Mine
noncomputable def Bl:List Str:=["_node2info","_ready_nodes","_npassedout","_nfinished"]
noncomputable def Bq (C:Cx) (H:AH) (a:Addr):Option (List Str):=match H a with
 | some (.f (.inst c attrs))=>if c=C.tsC then some (attrs.map (·.1)) else none
 | some (.srt _)=>some Bl
 | _=>none
section
variable {C:Cx} {k:Nat} {sc:Sc} {f f':PF} {K:Frag}
theorem Ut {H:AH}{G:Gh}{O:Addr->Prop}{h:Heap}{a:Addr}{ns:List Str}(R:Rel C H G O h)(e:Bq C H a=some ns) :
  ∃ d od,InstAt h a { cls:=.ref C.tsC,dict:=some d,data:=.plain,slots:=#[] } C.tsC (some od)/\∀ name,name ∉ ns->lookIn name od=some none:=by
 have core:∀ (attrs:List (Str × AV)) (g:List Addr),ORelF C h O G (.inst C.tsC attrs) a g->∃ d od,InstAt h a { cls:=.ref C.tsC,dict:=some d,data:=.plain,slots:=#[] } C.tsC (some od)/\∀ name,name ∉ attrs.map (·.1)->lookIn name od=some none:=by
  intro attrs g r
  obtain⟨d,m,hg,hst,_,hx,hn,hm⟩:=r
  obtain⟨od,hod,hlook⟩:=Gw hn.ns
  refine⟨d,od,⟨hx,rfl,rfl,hod⟩,fun name hn=>?_⟩
  rw[hlook,(hm name).1]
  clear R e hg hlook hm hod hst hx left;cases q:attrs.lookup name with
  | none=>rfl
  | some u=>exact absurd (List.mem_map.mpr ⟨(name,u),PySem.mem_of_lookup q,rfl⟩) hn
 unfold Bq at e
 generalize hH:H a=o at e
 cases o with
 | none=>exact nqa e
 | some o=>cases o with
  | srt S =>
   obtain rfl:=Option.some.inj e
   refine Ag fun PP ret=>?_
   obtain⟨L,gs,hS,hl,he,hr⟩:=R.obj a _ hH
   clear R e hH he;obtain⟨σ,_,rfl,_⟩:=hS
   refine ret ?_
   cases gs with
   | nil=>exact absurd hl.symm (Nat.succ_ne_zero _)
   | cons g0 gs =>
    exact core (Dp σ.d σ.rdy σ.passed σ.fin) g0 (hr (_,g0) (.head _))
  | f o=>cases o with
   | inst c attrs =>
    refine Bj e ?_;clear e;intro hc e
    obtain rfl:=Option.some.inj e;clear e;subst hc
    exact core attrs _ (R.obj a _ hH)
   | _=>exact nqa e
noncomputable def Pi (K:Frag) (c:Addr) (name:Str):Option Addr:=if findIn K (.ref c) "__getattribute__" == some (some (.builtin "object.__getattribute__")) && findIn K (.ref c) "__getattr__" == some none && hasDictIn K c && !copiedNames.contains name then match findIn K (.ref c) name with
  | some (some (.ref f))=>if typeIn K (.ref f) == some (.type "function") && fnIn K f && specialIn K (.ref f) "__get__" == some (some (.builtin "function.__get__")) && takesIn K (.ref f) == some false then some f else none
  | _=>none
 else none
structure MethOk (K:Frag) (c:Addr) (name:Str) (f:Addr):Prop where
 ga:findIn K (.ref c) "__getattribute__" = some (some (.builtin "object.__getattribute__"))
 gt:findIn K (.ref c) "__getattr__" = some none
 hd:hasDictIn K c=true
 cp:copiedNames.contains name=false
 fd:findIn K (.ref c) name=some (some (.ref f))
 ty:typeIn K (.ref f)=some (.type "function")
 fn:fnIn K f=true
 sg:specialIn K (.ref f) "__get__" = some (some (.builtin "function.__get__"))
 tk:takesIn K (.ref f)=some false
theorem Ob {c f:Addr}{name:Str}(h:Pi K c name=some f):MethOk K c name f:=by
 unfold Pi at h
 refine Bj h ?_;clear h;intro h1 h
 simp only [Bool.and_eq_true,beq_iff_eq,Bool.not_eq_true']at h1
 refine Sx h ?_;clear h;intro g hg h
 refine Bj h ?_;clear h;intro h2 h
 obtain rfl:=Option.some.inj h
 simp only [Bool.and_eq_true,beq_iff_eq]at h2
 exact⟨h1.1.1.1,h1.1.1.2,h1.1.2,h1.2,hg,h2.1.1.1,h2.1.1.2,h2.1.2,h2.2⟩
noncomputable def Eu (C:Cx) (name:Str) (f:PF) (fs:LF) (W:FW):Wp AV:=fun Q ρ H=>∃ a ns vs,f ρ H=some (.ref a)/\Bq C H a=some ns/\name ∉ ns/\fs ρ H=some vs/\AV.stos vs=true/\W (.ref a :: vs) (fun v H'=>Q v ρ H') H
theorem dT {fm:Addr}(h:fnIn K fm=true):∃ o fd,K.lookup fm=some o/\o.data = .func fd:=by
 unfold fnIn at h
 generalize K.lookup fm=w at h
 cases w with
 | none=>exact nqd h
 | some o =>
  obtain⟨c,di,da,sl⟩:=o
  cases da <;> first | exact nqd h | exact⟨_,_,rfl,rfl⟩
theorem ImpE.meth {o:Expr}{name:Str}{apos pos:Pos}{args:List Expr}{fs:LF}{fm:Addr}{W:FW}(hK:K.In C.h0)(hm:Pi K C.tsC name=some fm)(ho:PureE C k sc o f)(ha:ArgsF C k sc args fs)(hf:CallR C k (.ref fm) W)
  (hbase:∀ env,attributeBase o name env (eval o env)=eval o env:=by intro _;rfl)
  (hfew:∀ env,methodCallForm (args.length + ([]:List Keyword).length) (backTo pos (starEach args env)) (backToKw pos (keywordEach [] env))=true:=by intro _;rfl)
  (hline:(apos.endLine == pos.line)=true:=by rfl):ImpE C k sc (.Call (.Attribute o name apos) args [] pos) (Eu C name f fs W):=by
 rintro A env s ρ H G Q hA F hs R ⟨a,ns,vs,hv,hin,hnn,hvs,hst,hW⟩
 have M:=Ob hm
 rw[arm_eval_Call,hbase env]
 refine wpAny_bind (wpAny_mono (ho A env s ρ H G _ _ hA F R hv) (fun ov s1 h1=>?_) fun z0 z0 x=>x)
 refine Ag fun PP ret=>?_
 obtain⟨rv,k1⟩:=h1
 simp only [vRr]at rv;subst rv
 have R1:=R.keep k1.k
 have F1:=F.keep k1.k
 have X:K.In s1.heap:=hK.keeps fun b o e=>(R1.base b o e).1
 obtain⟨d,od,I,hl⟩:=Ut R1 hin
 refine ret ?_
 refine wpAny_bind (wpAny_standAt ?_)
 have hpos:methodCallPos true o env apos pos=pure pos:=by unfold methodCallPos;simp[hline]
 unfold methodCall
 rw[hfew env]
 refine wpAny_bind (wpAny_holding (method_fn X I M.ga M.gt M.fd M.ty (by simp[shadowIn,hl name hnn]) ?_))
 refine wpAny_bind (wpAny_of_eq hpos ?_)
 refine Ag fun PP ret=>?_
 obtain⟨of,fd,hof,hfd⟩:=dT M.fn
 refine ret ?_
 refine Calls.callWith_function (o:=of) (fd:=fd) (wpAny_mono (ha (.ref fm) pos A env s1 ρ H G _ vs hA F1 R1 hvs) (fun a' s2 h2=>?_) fun z0 z0 x=>x)
 refine Ag fun PP ret=>?_
 obtain⟨xs,rfl,r2,k2⟩:=h2
 have R2:=R1.keep k2.k
 have k12:=k1.trans' k2
 refine ret ?_
 refine⟨⟨(R2.base fm of (hK _ _ hof)).1,hfd⟩,?_⟩
 refine wpAny_mono (hf.wp A s2 H G (.ref a :: vs) (.ref a :: xs) _ hA (F.keep k12.k).frs R2 (.cons (by simp[vRr]) r2) (by simp[AV.stos,AV.sto,hst]) hW) (fun y s3 h3=>?_) fun z0 z0 x=>x
 refine Ag fun PP ret=>?_
 obtain⟨v,H3,G3,hq,hv3,hsv,R3,S3⟩:=h3
 have F2:=F.keep k12.k
 refine ret ?_
 exact⟨v,ρ,H3,G3,hq,hv3,hsv,S3.wf F2 hs,hs,R3,(Step.kp R k12).trans (S3.frm F2)⟩
theorem Ta {od:Obj}{c fm:Addr}{name:Str}(M:MethOk K c name fm)(hl:lookIn name od=some none):findObj K c (some od) name=some (.bind (.builtin "function.__get__") (.ref fm)):=by
 obtain⟨cd,hc',hd⟩:=any_some M.hd
 have ho:W.ownOf cd (some od) name=some none:=by unfold W.ownOf;rw[if_pos hd];exact hl
 exact Option.bind_eq_some_iff.mpr ⟨_,hc',Option.bind_eq_some_iff.mpr ⟨_,M.fd,Option.bind_eq_some_iff.mpr ⟨_,M.sg,Option.bind_eq_some_iff.mpr ⟨false,M.tk,Option.bind_eq_some_iff.mpr ⟨none,ho,(if_neg (by rw[M.cp];exact fun h=>nqd h)).trans rfl⟩⟩⟩⟩⟩
theorem ImpE.methS {o:Expr}{name:Str}{apos pos:Pos}{args:List Expr}{fs:LF}{fm:Addr}{W:FW}(hK:K.In C.h0)(hm:Pi K C.tsC name=some fm)(ho:PureE C k sc o f)(ha:ArgsF C k sc args fs)(hf:CallR C k (.ref fm) W)
  (hbase:∀ env,attributeBase o name env (eval o env)=eval o env:=by intro _;rfl)
  (hfew:∀ env,methodCallForm (args.length + ([]:List Keyword).length) (backTo pos (starEach args env)) (backToKw pos (keywordEach [] env))=false:=by intro _;rfl)
  (hst:∀ env,(backTo pos (starEach args env)).any (·.1)=true:=by intro _;rfl):ImpE C k sc (.Call (.Attribute o name apos) args [] pos) (Eu C name f fs W):=by
 rintro A env s ρ H G Q hA F hs R ⟨a,ns,vs,hv,hin,hnn,hvs,hsto,hW⟩
 have M:=Ob hm
 rw[arm_eval_Call,hbase env]
 refine wpAny_bind (wpAny_mono (ho A env s ρ H G _ _ hA F R hv) (fun ov s1 h1=>?_) fun z0 z0 x=>x)
 obtain⟨rv,k1⟩:=h1
 simp only [vRr]at rv;subst rv
 have R1:=R.keep k1.k
 have X:K.In s1.heap:=hK.keeps fun b o e=>(R1.base b o e).1
 obtain⟨d,od,I,hl⟩:=Ut R1 hin
 refine wpAny_bind (wpAny_standAt ?_)
 unfold methodCall
 rw[hfew env]
 refine wpAny_bind (wpAny_holding ?_)
 refine(?_:wpAny _ _ (do pure (<- getAttr (.ref a) name true,[])) _ _ _)
 refine wpAny_bind (get_bind X I M.ga (Ta M (hl name hnn)) M.gt (wpAny_call (fn_get (s:={ s1 with toks:=s1.toks + 1 }) X M.ty (handed_on rfl (wpAny_pure ?_)))))
 have k1q:Kp s1 { s1 with heap:=s1.heap.push (methodObj (.ref fm) (.ref a)),toks:=s1.toks + 1 }:=.pushT
 have kq:=k1.trans' k1q
 have Fq:=F.keep kq.k
 have Rq:=R.keep kq.k
 have hq0:(s1.heap.push (methodObj (.ref fm) (.ref a))).get? s1.heap.objs.size=some (methodObj (.ref fm) (.ref a)):=Heap.get?_push_size _ rfl
 refine wpAny_bind (wpAny_of_eq (show methodCallPos false o env apos pos=pure pos from rfl) ?_)
 refine ks_call (P:=MethP K s1.heap.objs.size fm (.ref a)) (hst env) (keeps_M M.fn) (wpAny_mono (ha (.ref s1.heap.objs.size) pos A env { s1 with heap:=s1.heap.push (methodObj (.ref fm) (.ref a)),toks:=s1.toks + 1 } ρ H G _ vs hA Fq Rq hvs) (fun a' s2 h2=>?_) fun z0 z0 x=>x)
 obtain⟨xs,rfl,r2,k2⟩:=h2
 have R2:=Rq.keep k2.k
 have k12:=kq.trans' k2
 have hq2:=k2.k _ _ hq0
 refine⟨⟨hq2,hK.keeps fun b o e=>(R2.base b o e).1⟩,?_⟩
 refine wpAny_mono (wpAny_call (Q:=PostV C s2 H G (fun v H'=>Q v ρ H')) (E:=fun z0 z0=>False) (method_call (pos:=xs) (kw:=[]) hq2 (codeAny_mono (hf A s2 H G (.ref a :: vs) (.ref a :: xs) _ hA (F.keep k12.k).frs R2 (.cons (by simp[vRr]) r2) (by simp[AV.stos,AV.sto,hsto]) hW) fun r s' hr=>?_))) (fun y s3 h3=>?_) fun z0 z0 x=>x
 ·rcases r with e | (v | _ | _ | _) <;> first | exact hr | exact hr.elim
 obtain⟨v,H3,G3,hq,hv3,hsv,R3,S3⟩:=h3
 have F2:=F.keep k12.k
 exact⟨v,ρ,H3,G3,hq,hv3,hsv,S3.wf F2 hs,hs,R3,(Step.kp R k12).trans (S3.frm F2)⟩
end
end Mine
end
section
namespace Mine
theorem Rx (c:Addr)(rest:List Value):(Code.builtin "type.__call__" ⟨.ref c :: rest,[]⟩).weight<=1:=by
 first
  | exact Ar.r27 (by first | rfl | kernel_rfl:(Code.builtin "type.__call__" ⟨.ref c :: rest,[]⟩).weight=1)
theorem Vt (c:Addr)(rest:List Value):(Code.builtin "type.__call__" ⟨.ref c :: rest,[]⟩).cUnits<=10:=by
 first
  | exact Ar.r28 (by first | rfl | kernel_rfl:(Code.builtin "type.__call__" ⟨.ref c :: rest,[]⟩).cUnits=1)
noncomputable def iJ (o0:FObj) (W:FW):FW:=fun vs Q H=>∀ a,H a=none->W (.ref a :: vs) (fun v H'=>v = .none/\Q (.ref a) H') (upd H a (.f o0))
section
variable {C:Cx} {k:Nat} {K:Frag}
theorem CallR.new {c fI:Addr} {o0:FObj} {W:FW} (hK:K.In C.h0) (hm:makesIn K c=true) (hi:findIn K (.ref c) "__init__" = some (some (.ref fI))) (hf:typeIn K (.ref fI)=some (.type "function"))
  (ho:o0 = .inst c []\/o0 = .slots c []) (hW:CallR C k (.ref fI) W):CallR C (k + 1) (.ref c) (iJ o0 W):=by
 intro A s H G vs xs Q hA hF R hr hst hW'
 obtain⟨hA1,hA2,hA3⟩:=hA
 have X:K.In s.heap:=hK.keeps fun b o e=>(R.base b o e).1
 obtain⟨hh,g,dr,t,os⟩:=s
 refine make_core (makes_of X hm) (looks_findIn X hi) (fun self=>bind_fn X self hf) (.inl rfl) ?_
 have hw:=Rx c xs
 have hu:=Vt c xs
 have hA':AOk k (A.under (.builtin "type.__call__" ⟨.ref c :: xs,[]⟩)):=⟨hA1,by refine(?_:A.depth + (Code.builtin "type.__call__" ⟨.ref c :: xs,[]⟩).weight + k + 20<=900);exact Ar.r49 hA2 hw,by refine(?_:A.units + (Code.builtin "type.__call__" ⟨.ref c :: xs,[]⟩).cUnits + 100 * (k + 1)<=9000);exact Ar.r64 hA3 hu⟩
 have hk:∀ b o,hh.get? b=some o->((hh.push emptyDict).push (instObj c hh.objs.size)).get? b=some o:=fun b o e=>Heap.get?_push_of_some _ (Heap.get?_push_of_some _ e)
 have hsz:(hh.push emptyDict).objs.size=hh.objs.size + 1:=Heap.size_push ..
 have hx:((hh.push emptyDict).push (instObj c hh.objs.size)).get? (hh.objs.size + 1)=some (instObj c hh.objs.size):=by rw[<- hsz];exact Heap.get?_push_size _ rfl
 have hd0:(hh.push emptyDict).get? hh.objs.size=some emptyDict:=Heap.get?_push_size _ rfl
 have hd:((hh.push emptyDict).push (instObj c hh.objs.size)).get? hh.objs.size=some emptyDict:=Heap.get?_push_of_some _ hd0
 have hns:((hh.push emptyDict).push (instObj c hh.objs.size)).Ns hh.objs.size fun z0=>none:=(Heap.Ns.new hh (.type "dict")).keeps fun b o e=>Heap.get?_push_of_some _ e
 have nn:∀ b,hh.objs.size<=b->hh.get? b=none:=fun b hb=>by
  clear R X hA' hA1 hA2 hA3 hF hK hW hW' hd hd0 hf hi hk hm hns ho hr hst hsz hu hw hx;cases e:hh.get? b with
  | none=>rfl
  | some o=>exact absurd (Heap.lt_size e) (Nat.not_lt.mpr hb)
 have M:Made C (own H G) G o0 ⟨hh,g,dr,t,os⟩ (hh.objs.size + 1) [hh.objs.size] ⟨(hh.push emptyDict).push (instObj c hh.objs.size),g,dr,t,os⟩:=by
  refine⟨?_,by simp,fun b hb=>?_,⟨⟨_,t,rfl⟩,hk⟩⟩
  ·clear R X hA' hA1 hA2 hA3 hF hK hW hW' hd hd0 hf hi hk hm hr hst hsz hu hw nn;rcases ho with rfl | rfl
   ·exact⟨hh.objs.size,_,rfl,rfl,Nat.zero_le _,hx,Heap.Ns1.of_empty hns,fun y=>⟨fun z0=>rfl,fun v hv=>by simp at hv⟩⟩
   ·exact⟨hh.objs.size,#[],rfl,rfl,hx,hns,rfl,fun i=>⟨fun v hv=>by simp at hv,fun hv=>by simp at hv⟩⟩
  ·clear R X hA' hA1 hA2 hA3 hF hK hW hW' hd0 hf hi hk hm hns ho hr hst hsz hu hw;rcases hb with rfl | hb
   ·exact⟨nn _ (Nat.le_succ _),_,hx⟩
   ·simp at hb;subst hb;exact⟨nn _ (Nat.le_refl _),_,hd⟩
 obtain⟨hn,R1,S1⟩:=Made.step R M
 have hr1:=S1.vals hst hr
 refine codeAny_mono (hW _ ⟨(hh.push emptyDict).push (instObj c hh.objs.size),g,dr,t,os⟩ _ _ (.ref (hh.objs.size + 1) :: vs) (.ref (hh.objs.size + 1) :: xs) _ hA' (let ⟨l,e,q⟩:=S1.frs hF;⟨l,by rw[<- e];rfl,q⟩) R1 (.cons (by simp[vRr]) hr1) (by simp[AV.stos,AV.sto,hst]) (hW' _ hn)) fun r s' hr=>?_
 rcases r with e | (v | _ | _ | _) <;> first | exact hr.elim | skip
 clear M R R1 X hA' hA1 hA2 hA3 hF hK hW hW' hd hd0 hf hi hk hm hn hns ho hr1 hst hsz hu hw hx nn;obtain⟨v',H',G',⟨rfl,hq⟩,hv,hsv,R',S'⟩:=hr
 simp only [vRn]at hv;subst hv
 exact⟨rfl,.ref (hh.objs.size + 1),H',G',hq,by simp[vRr],rfl,R',S1.trans S'⟩
end
section
variable {C:Cx} {k:Nat} {sc:Sc} {K:Frag}
theorem ImpE.callC {x:Str}{p pos:Pos}{args:List Expr}{fs:LF}{c:Addr}{W:FW}(hK:K.In C.h0)(hx:x ∈ sc.globs)(hm:C.mg x=some (.ref c))(hk:keepIn K (.ref c)=true)(hargs:ArgsF C k sc args fs)(hf:CallR C k (.ref c) W)
  (hns:Gr args:=by intro _;rfl) (hdb:(x == ("__debug__":Str))=false:=by decide):ImpE C k sc (.Call (.Name x p) args [] pos) (Hm fs W):=by
 rintro A env s ρ H G Q hA F hs R ⟨vs,hvs,hst,hW⟩
 refine wpAny_Call_NameR (wpAny_Name (Co F R hx (.inl hm) ?_) hdb)
 refine callWith_of (P:=K.In) (by rw[Cn hns pos env];rfl) (keeps_K hk) (wpAny_mono (hargs (.ref c) pos A env s ρ H G _ vs hA F R hvs) (fun a' s1 h1=>?_) fun z0 z0 x=>x)
 obtain⟨xs,rfl,r1,k1⟩:=h1
 have R1:=R.keep k1.k
 refine⟨hK.keeps fun b o e=>(R1.base b o e).1,?_⟩
 refine wpAny_mono (hf.wp A s1 H G vs xs _ hA (F.keep k1.k).frs R1 r1 hst hW) (fun y s2 h2=>?_) fun z0 z0 x=>x
 obtain⟨v,H2,G2,hq,hv,hsv,R2,S2⟩:=h2
 have F1:=F.keep k1.k
 exact⟨v,ρ,H2,G2,hq,hv,hsv,S2.wf F1 hs,hs,R2,(Step.kp R k1).trans (S2.frm F1)⟩
end
end Mine
end
section
namespace Mine
noncomputable def Lb (n:Nat) (vs:List AV):Option (List AV):=if n<=vs.length/\vs.length<=lim then some (vs.take n++[.tup (vs.drop n)]) else none
section
variable {C:Cx}
theorem Km {A:Around}{s:Shared}{H:AH}{G:Gh}{vs:List AV}{xs:List Value}{Q:Value->Shared->Prop}(R:Rel C H G (own H G) s.heap)(hr:VRels s.heap (own H G) G vs xs)(hz:vs.length<=lim)
  (hQ:∀ t s',VRel s'.heap (own H G) G (.tup vs) t->Kp s s'->Q t s'):wpAny (model C.prog C.w) A (newTuple xs) Q (fun z0 z0=>False) s:=by
 have hl:=hr.length
 unfold newTuple
 refine wpAny_newObj_type ?_ (show xs.toArray.size<=sizeLine by have:=Bv;simp;exact Ar.r95 hz hl this)
 refine hQ _ _ ?_ .push
 simp only [vRp]
 exact⟨_,0,xs,rfl,Heap.get?_push_size _ rfl,R.nsize,hz,hr.keep fun z0 z0 e=>Heap.get?_push_of_some _ e⟩
theorem BindR.star1K {fd:FuncData}{a v:Str}(h:∀ (x:Value) (rest:List Value),bindArgs fd ⟨x :: rest,[]⟩=(newTuple rest >>= fun t=>pure [(a,x),(v,t)])):BindR C fd [a,v] (Lb 1):=by
 intro A s H G vs ws xs R hr hst hb
 unfold Lb at hb
 refine Bj hb ?_;clear hb;intro hc hb
 obtain rfl:=Option.some.inj hb
 clear hb;cases vs with
 | nil=>simp at hc
 | cons v vs =>
  simp only [vSc]at hr
  obtain⟨x,ys,rfl,h1,h2⟩:=hr
  simp only [AV.stos,Bool.and_eq_true]at hst
  rw[h x ys]
  refine wpAny_bind (Km R h2 (by simp at hc;exact Ar.r59 hc) fun t s' ht k'=>wpAny_pure ⟨[x,t],rfl,by simp,?_,?_,k'⟩)
  ·simp only [List.take_succ_cons,List.take_zero,List.drop_succ_cons,List.drop_zero,List.cons_append,List.nil_append]
   exact .cons (h1.keep k'.k) (.one ht)
  ·simp[AV.stos,AV.sto,hst.1,hst.2]
theorem BindR.star2K {fd:FuncData}{a b v:Str}(h:∀ (x y:Value) (rest:List Value),bindArgs fd ⟨x :: y :: rest,[]⟩=(newTuple rest >>= fun t=>pure [(a,x),(b,y),(v,t)])):BindR C fd [a,b,v] (Lb 2):=by
 intro A s H G vs ws xs R hr hst hb
 unfold Lb at hb
 refine Bj hb ?_;clear hb;intro hc hb
 obtain rfl:=Option.some.inj hb
 clear hb;cases vs with
 | nil=>simp at hc
 | cons v vs=>cases vs with
  | nil=>simp at hc
  | cons u vs =>
   refine Ag fun PP ret=>?_
   simp only [vSc]at hr
   obtain⟨x,ys,rfl,h1,y,zs,rfl,h2,h3⟩:=hr
   simp only [AV.stos,Bool.and_eq_true]at hst
   refine ret ?_
   rw[h x y zs]
   refine wpAny_bind (Km R h3 (by simp at hc;exact Ar.r52 hc) fun t s' ht k'=>wpAny_pure ⟨[x,y,t],rfl,by simp,?_,?_,k'⟩)
   ·simp only [List.take_succ_cons,List.take_zero,List.drop_succ_cons,List.drop_zero,List.cons_append,List.nil_append]
    exact .cons (h1.keep k'.k) (.cons (h2.keep k'.k) (.one ht))
   ·simp[AV.stos,AV.sto,hst.1,hst.2.1,hst.2.2]
end
end Mine
end
section
namespace Mine
section
variable {C:Cx} {k:Nat} {sc:Sc} {f f':PF}
noncomputable def eC:Rho->AH->Option FObj:=fun z0 z0=>some (.dic false [])
theorem gK {h:Heap}{H:AH}{G:Gh}{O:Addr->Prop}(R:Rel C H G O h):sysModules < h.objs.size:=by
 have:=(C.ns.keeps fun b o e=>(R.base b o e).1).lt
 exact Nat.lt_of_le_of_lt (by decide) this
theorem MakeE.dict0 {pos:Pos}:MakeE C k sc (.Dict [] [] pos) eC:=by
 intro A env s ρ H G O o hA F R ho;obtain rfl:=Option.some.inj ho
 have hne:(s.heap.objs.size == sysModules)=false:=by
  have:=gK R
  simp only [beq_eq_false_iff_ne,ne_eq];intro e;rw[e]at this;exact Nat.lt_irrefl _ this
 refine wpAny_Dict_empty ⟨s.heap.objs.size,[],rfl,⟨rfl,hne,rfl,[],Heap.DictOf.new s.heap,.nil⟩,by simp,fun b hb=>?_,.push⟩
 have hb2:b=s.heap.objs.size:=by
  rcases hb with q | q
  ·exact q
  ·simp at q
 subst hb2
 exact⟨Qv _,_,Heap.get?_push_size _ rfl⟩
noncomputable def La (H:AH) (u v:AV):Option AV:=match u,v with
 | .ref a,.int i=>match H a with
  | some (.f (.dic _ es))=>some ((es.lookup i).getD .none)
  | _=>none
 | _,_=>none
theorem Ef {es:List (Int × AV)}{xs:List Value}{h O G}(hr:VRels h O G (es.map (·.2)) xs){k:Int}(e:es.lookup k=none):((es.map (·.1)).zip xs).lookup k=none:=by
 induction es generalizing xs with
 | nil=>simp
 | cons p r ih =>
  obtain⟨i,v⟩:=p
  simp only [List.map_cons,vSc]at hr
  obtain⟨x,ys,rfl,_,h2⟩:=hr
  rw[List.lookup_cons]at e
  simp only [List.map_cons,List.zip_cons_cons,List.lookup_cons]
  cases q:k == i with
  | true=>rw[q]at e;exact nqb e
  | false=>rw[q]at e;exact ih h2 e
end
end Mine
end
section
namespace Mine
section
variable {C:Cx} {k:Nat} {sc:Sc} {f f':PF}
theorem PureE.dget {o e:Expr} {apos pos:Pos} {fe:PF} (ho:PureE C k sc o f) (he:PureE C k sc e fe) (hbase:∀ env,attributeBase o "get" env (eval o env)=eval o env:=by intro _;rfl)
  (hfew:∀ env,((backTo pos (starEach [e] env)).all (fun x=>!x.1) && (backToKw pos (keywordEach [] env)).all (fun x=>x.1.isSome) && decide (([e]:List Expr).length + ([]:List Keyword).length + (if ([]:List Keyword).isEmpty then 0 else 1) < 30))=true:=by intro _;rfl)
  (hline:(apos.endLine == pos.line)=true:=by rfl) (htr:∀ env,backTo pos (starEach [e] env)=[(false,eval e env)]:=by intro _;rfl):PureE C k sc (.Call (.Attribute o "get" apos) [e] [] pos) (opP La f fe):=by
 intro A env s ρ H G O r hA F R hr
 obtain⟨u,v,hu,hv,hg⟩:=Me hr
 unfold La at hg
 refine Ix hg ?_;clear hg;intro a i q1 q2 hg;subst q1;subst q2
 refine kO hg ?_;clear hg;intro lk es hH hg
 obtain rfl:=Option.some.inj hg
 refine wpAny_Call_method (hbase env) (hfew env) hline PySem.F.plainAttrs_dict PySem.F.slot_dict_get PySem.F.type_dict_get (wpAny_mono (ho A env s ρ H G O _ hA F R hu) (fun x s1 h1=>?_) fun z0 z0 x=>x)
 obtain⟨rx,k1⟩:=h1
 simp only [vRr]at rx;subst rx
 have R1:=R.keep k1.k
 obtain⟨_,hsm,hst,xs,hd,hr⟩:=R1.obj a _ hH
 refine⟨hd.typeIs,hd.mapOf.noDict,?_⟩
 rw[htr env]
 refine wpAny_dict_get1 (knd:=intKind C.prog C.w) hsm (wpAny_mono (he A env s1 ρ H G O _ hA (F.keep k1.k) R1 hv) (fun y s2 h2=>?_) fun z0 z0 x=>x)
 obtain⟨ry,k2⟩:=h2
 simp only [vRi]at ry
 obtain⟨t,rfl⟩:=ry
 refine⟨i,_,intKind_is _ _ i t,(hd.keep k2.k).mapOf,?_⟩
 have k12:Kp s { s2 with toks:=s2.toks + 1 }:=(k1.trans' k2).trans' .tok
 refine⟨?_,k12⟩
 cases q:es.lookup i with
 | some v =>
  obtain⟨x,hx,hvx⟩:=Hs hr q
  rw[hx]
  exact hvx.keep k2.k
 | none =>
  have h0:=Ef hr q
  have:valueAt ((es.map (·.1)).zip xs) i=Option.none:=by
   unfold valueAt
   have:((es.map (·.1)).zip xs).find? (fun kv=>decide (kv.1=i))=Option.none:=by
    generalize (es.map (·.1)).zip xs=l at h0
    induction l with
    | nil=>rfl
    | cons p l ih =>
     obtain⟨j,y⟩:=p
     rw[List.lookup_cons]at h0
     cases hq:i == j with
     | true=>rw[hq]at h0;exact nqb h0
     | false =>
      rw[hq]at h0
      rw[List.find?_cons]
      have:¬ j=i:=by intro e;subst e;simp at hq
      simp only [this,decide_false]
      exact ih h0
   rw[this];rfl
  rw[this]
  simp[vRn]
theorem Tp {l:List (Int × Value)}{i:Int}(h:l.lookup i=none):l.any (fun kv=>decide (kv.1=i))=false:=by
 induction l with
 | nil=>rfl
 | cons p l ih =>
  obtain⟨j,y⟩:=p
  rw[List.lookup_cons]at h
  cases hq:i == j with
  | true=>rw[hq]at h;exact nqb h
  | false =>
   rw[hq]at h
   have:¬ j=i:=by intro e;subst e;simp at hq
   simp[this]
   simpa using ih h
theorem stored_new' {l:List (Int × Value)}{i:Int}{x:Value}(h:l.lookup i=none):stored l i x=l++[(i,x)]:=by
 unfold stored;rw[Tp h];simp
theorem Lv {s:Shared}{H:AH}{G:Gh}{a:Addr}{es es':List (Int × AV)}{xs:List Value}{h':Heap}{tk:Nat}(R:Rel C H G (own H G) s.heap)(ha:H a=some (.f (.dic false es)))(hs:AV.stos (es'.map (·.2))=true)
  (hd:h'.DictOf (intKind C.prog C.w) a ((es'.map (·.1)).zip xs)) (hk:∀ b ob,b ≠ a->s.heap.get? b=some ob->h'.get? b=some ob) (hr:VRels s.heap (own H G) G (es'.map (·.2)) xs) :
  Rel C (upd H a (.f (.dic false es'))) G (own (upd H a (.f (.dic false es'))) G) h'/\Step (fun z0=>False) H G s (upd H a (.f (.dic false es'))) G { s with heap:=h',toks:=tk }:=by
 have hO:own H G a:=⟨a,by rw[ha];simp,.inl rfl⟩
 obtain⟨hG,hsm,_⟩:=R.obj a _ ha
 refine⟨R.change ha (fun b ob h1 z0 e=>hk b ob h1 e) ⟨hG,hsm,hs,xs,hd,hr.wide fun b ob xs n e z0 hb=>⟨hk b ob (fun q=>hb (q ▸ hO)) e,hb⟩⟩ (fun b hb=>?_),.turn R ha rfl fun b ob h1 z0 e=>hk b ob h1 e⟩
 rw[hG]at hb;simp at hb;clear R hG hO ha hk hr hs hsm right;subst hb
 obtain⟨o,es,ep,ho,_⟩:=hd
 exact⟨o,ho⟩
noncomputable def Hl (H:AH) (ov iv v:AV):Option AH:=match ov,iv with
 | .ref a,.int i=>match H a with
  | some (.f (.dic false es))=>if (es.lookup i).isNone=true/\v.sto=true/\es.length < lim then some (upd H a (.f (.dic false (es++[(i,v)])))) else none
  | _=>none
 | _,_=>none
theorem Ng {H:AH}{a:Addr}{i:Int}{v:AV}:Hl H (.ref a) (.int i) v=match H a with | some (.f (.dic false es))=>if (es.lookup i).isNone=true/\v.sto=true/\es.length < lim then some (upd H a (.f (.dic false (es++[(i,v)])))) else none | _=>none:=rfl
theorem Vj {A:Around}{s:Shared}{H H':AH}{G:Gh}{ov iv v:AV}{x y z:Value}{Q:Unit->Shared->Prop}(R:Rel C H G (own H G) s.heap)(hx:VRel s.heap (own H G) G ov x)(hy:VRel s.heap (own H G) G iv y)(hz:VRel s.heap (own H G) G v z)(e:Hl H ov iv v=some H')
  (hQ:∀ s' G',Rel C H' G' (own H' G') s'.heap->Step (fun z0=>False) H G s H' G' s'->Q () s'):wpAny (model C.prog C.w) A (setItem x y z) Q (fun z0 z0=>False) s:=by
 unfold Hl at e
 refine Ix e ?_;clear e;intro a i q1 q2 e;subst q1;subst q2
 refine aG e ?_;clear e;intro es hH e
 refine Bj e ?_;clear e;intro hc e
 obtain rfl:=Option.some.inj e
 simp only [vRi,vRr]at hx hy
 subst hx
 obtain⟨t,rfl⟩:=hy
 obtain⟨_,hsm,hst,xs,hd,hr⟩:=R.obj a _ hH
 have hlen:=hr.length
 have hn:es.lookup i=none:=by simpa using hc.1
 have h0:=Ef hr hn
 refine wpAny_setItem_pairs (knd:=intKind C.prog C.w) (k:=i) (intKind_is _ _ i t) hd (fun h' hd' hs'=>?_) (by
  have:=Bv
  simp only [List.length_zip,List.length_map]at hlen ⊢
  lia)
 rw[stored_new' h0]at hd'
 have e2:(es.map (·.1)).zip xs++[(i,z)]=((es++[(i,v)]).map (·.1)).zip (xs++[z]):=by
  rw[List.map_append,List.zip_append (by simpa using hlen.symm)];rfl
 rw[e2]at hd'
 obtain⟨R',S'⟩:=Lv (tk:=s.toks + 1) R hH (by rw[List.map_append,stos_iff];intro u hu;simp at hu;exact hu.elim (fun ⟨q,hq⟩=>Bk hst (List.mem_map.mpr ⟨_,hq,rfl⟩)) fun e=>e ▸ hc.2.1) hd' (fun b ob hb e=>hs'.extBut b ob hb e) (by rw[List.map_append];exact hr.append (.one hz))
 exact hQ _ G R' S'
noncomputable def Rf (W:Wp AV) (fo fi:PF):Wp AFlow:=fun Q=>W fun v ρ H=>∃ ov iv H',fo ρ H=some ov/\fi ρ H=some iv/\Hl H ov iv v=some H'/\Q .next ρ H'
theorem StmtR.dset {o i e:Expr}{p pos:Pos}{W:Wp AV}(he:ImpE C k sc e W)(ho:PureE C k sc o f)(hi:PureE C k sc i f')(hsw:∀ env,swapsWith e (some (.Subscript o i p)) pos.line env=pure false:=by intro _;rfl) :
  StmtR C k sc (.Assign [.Subscript o i p] e pos) (Rf W f f'):=by
 intro A env s ρ H G Q hA F hs R hT
 refine wpAny_Assign_Subscript (wpAny_mono (he A env s ρ H G _ hA F hs R hT) (fun z s1 h1=>?_) fun z0 z0 x=>x) (hsw env)
 refine Ag fun PP ret=>?_
 obtain⟨v,ρ1,H1,G1,⟨ov,iv,H2,hov,hiv,hset,hq⟩,hv,hsv,F1,hs1,R1,S1⟩:=h1
 refine ret ?_
 refine PureE.two ho hi hA F1 R1 hov hiv fun x y s2 hx hy k2=>?_
 have R2:=R1.keep k2.k
 have F2:=F1.keep k2.k
 refine Vj R2 hx hy (hv.keep k2.k) hset fun s3 G3 R3 S3=>?_
 exact⟨.next,ρ1,H2,G3,hq,trivial,S3.wf F2 hs1,hs1,R3,(S1.trans (.kp R1 k2)).trans (S3.frm F2)⟩
noncomputable def set0:Rho->AH->Option FObj:=fun z0 z0=>some (.iset [])
theorem MakeE.set0 {x:Str} {p pos:Pos} (hx:x ∈ sc.globs) (hm:C.mg x=Option.none) (hb:C.mb x=some (.type "set")) (hd:(x == ("__debug__":Str))=false:=by decide):MakeE C k sc (.Call (.Name x p) [] [] pos) Mine.set0:=by
 intro A env s ρ H G O o hA F R ho;obtain rfl:=Option.some.inj ho
 refine wpAny_Call_NameR (wpAny_Name (Co F R hx (.inr ⟨hm,hb⟩) ?_) hd)
 refine PySem.callWith_type (by rfl) (PySem.evalArgs_none ?_)
 refine call_set_0 fun led=>⟨s.heap.objs.size,[],rfl,⟨rfl,?_⟩,by simp,fun b hb=>?_,.push⟩
 ·have e:(fun k=>decide (k ∈ ([]:List Int)))=(fun z0:Int=>false):=by funext k;simp
  rw[e]
  exact PyProof.Rows.SetOf_congr ((PyProof.Rows.setObjOf_fresh (knd:=intKind C.prog C.w) led).setOf (Heap.get?_push_size _ rfl) (by unfold scanBound;exact Ar.r212)) (fun z0=>rfl) rfl
 ·have hb2:b=s.heap.objs.size:=by
   rcases hb with q | q
   ·exact q
   ·simp at q
  subst hb2
  exact⟨Qv _,_,Heap.get?_push_size _ rfl⟩
noncomputable def Yn (H:AH) (ov iv:AV):Option AH:=match ov,iv with
 | .ref a,.int i=>match H a with
  | some (.f (.iset ks))=>if i ∉ ks/\ks.length + 1 < scanBound then some (upd H a (.f (.iset (ks++[i])))) else none
  | _=>none
 | _,_=>none
noncomputable def Ue (f fe:PF):Wp AV:=fun Q ρ H=>∃ v x H',f ρ H=some v/\fe ρ H=some x/\Yn H v x=some H'/\Q .none ρ H'
theorem ImpE.sadd {o e:Expr} {apos pos:Pos} {fe:PF} (ho:PureE C k sc o f) (he:PureE C k sc e fe) (hbase:∀ env,attributeBase o "add" env (eval o env)=eval o env:=by intro _;rfl)
  (hfew:∀ env,((backTo pos (starEach [e] env)).all (fun x=>!x.1) && (backToKw pos (keywordEach [] env)).all (fun x=>x.1.isSome) && decide (([e]:List Expr).length + ([]:List Keyword).length + (if ([]:List Keyword).isEmpty then 0 else 1) < 30))=true:=by intro _;rfl)
  (hline:(apos.endLine == pos.line)=true:=by rfl) (htr:∀ env,backTo pos (starEach [e] env)=[(false,eval e env)]:=by intro _;rfl):ImpE C k sc (.Call (.Attribute o "add" apos) [e] [] pos) (Ue f fe):=by
 rintro A env s ρ H G Q hA F hs R ⟨v,x,H',hv,hx,hp,hq⟩
 unfold Yn at hp
 refine Ix hp ?_;clear hp;intro a i q1 q2 hp;subst q1;subst q2
 refine kN hp ?_;clear hp;intro ks hH hp
 refine Bj hp ?_;clear hp;intro hc hp
 obtain rfl:=Option.some.inj hp
 refine wpAny_Call_method (hbase env) (hfew env) hline PySem.F.plainAttrs_set PySem.F.slot_set_add PySem.F.type_set_add (wpAny_mono (ho A env s ρ H G _ _ hA F R hv) (fun x s1 h1=>?_) fun z0 z0 x=>x)
 obtain⟨rx,k1⟩:=h1
 simp only [vRr]at rx;clear hbase hfew hline hp hv;subst rx
 have R1:=R.keep k1.k
 obtain⟨hG,hset⟩:=R1.obj a _ hH
 refine⟨hset.typeIs,hset.noDict,?_⟩
 rw[htr env]
 refine Calls.callWith_builtin rfl (Calls.evalArgs_plain (Calls.spliced_cons (wpAny_mono (he A env s1 ρ H G _ _ hA (F.keep k1.k) R1 hx) (fun y s2 h2=>Calls.spliced_nil ?_) fun z0 z0 x=>x)))
 obtain⟨ry,k2⟩:=h2
 simp only [vRi]at ry
 obtain⟨t,rfl⟩:=ry
 have k12:=k1.trans' k2
 have R2:=R.keep k12.k
 obtain⟨_,hset2⟩:=R2.obj a _ hH
 refine call_set_add (intKind_is _ _ i t) rfl hset2 hc.2 fun h' hsb hS'=>?_
 have e1:(if decide (i ∈ ks)=true then ks.length else ks.length + 1)=(ks++[i]).length:=by simp[hc.1]
 have e2:(fun k'=>decide (k' ∈ ks) || decide (k' = i))=fun k'=>decide (k' ∈ ks++[i]):=by funext k';simp
 rw[e1,e2]at hS'
 have hk:∀ b ob,b ≠ a->s2.heap.get? b=some ob->h'.get? b=some ob:=fun b ob hb e=>hsb.extBut b ob hb e
 have R3:Rel C (upd H a (.f (.iset (ks++[i])))) G (own (upd H a (.f (.iset (ks++[i])))) G) h':=R2.change hH (fun b ob h1 z0 e=>hk b ob h1 e) ⟨hG,hS'⟩ (fun b hb=>by
  rw[hG]at hb;simp at hb;subst hb
  obtain⟨o,_,_,_,ho,_⟩:=hS'
  exact⟨o,ho⟩)
 have S3:Step (fun z0=>False) H G s2 (upd H a (.f (.iset (ks++[i])))) G { s2 with heap:=h',toks:=s2.toks + 1 }:=.turn R2 hH rfl fun b ob h1 z0 e=>hk b ob h1 e
 have F2:=F.keep k12.k
 exact⟨.none,ρ,_,G,hq,by simp[vRn],rfl,S3.wf F2 hs,hs,R3,(Step.kp R k12).trans (S3.frm F2)⟩
end
end Mine
end
section
namespace Mine
section
variable {C:Cx} {k:Nat} {sc:Sc} {f f':PF}
theorem Step.valF {A:Around}{env:Env}{ρ:Rho}{s s':Shared}{H H':AH}{G G':Gh}(S:Step (fr env) H G s H' G' s')(F:WF C A sc env ρ G (own H G) s.heap){v:AV}{x:Value}(hs:v.sto=true)(r:VRel s.heap (own H G) G v x):VRel s'.heap (own H' G') G' v x :=
 r.mono (fun b o xs n e hd hb=>⟨let ⟨o',e',q⟩:=S.keep b o hb (F.noseq e hd) e;by rw[e',q.eq (Cr hd)],fun q=>(S.fresh b q).elim hb fun n=>by rw[n]at e;exact nqa e⟩) hs
theorem dH {A:Around}{s s1:Shared}{O:Addr->Prop}{G:Gh}{es:List (Int × AV)}{xs:List Value}{a:Addr}{Q:Value->Shared->Prop}(hh:A.handled=none)(k1:Kp s s1)(hsm:(a == sysModules)=false)
  (hd:s1.heap.DictOf (intKind C.prog C.w) a ((es.map (·.1)).zip xs)) (hl:xs.length=es.length)
  (hQ:∀ s2 I fp wr P St,(∀ {b o},s1.heap.get? b=some o->s2.heap.get? b=some o)->Kp s s2->ItOK C A s s2 O G (es.map fun p=>AV.int p.1) I fp wr [a] P St->Q (.ref I) s2):wpAny (model C.prog C.w) A (pyIter (.ref a)) Q (fun z0 z0=>False) s1:=by
 obtain⟨ep,hat⟩:=hd.dictAt
 have hlt:=hat.lt_size
 have hlen:((es.map (·.1)).zip xs).length=(es.map fun p=>AV.int p.1).length:=by simp[hl]
 refine wpAny_pyIter_dict hsm hat (hQ _ _ [s1.heap.objs.size,a] [s1.heap.objs.size] (fun i v=>∃ k x,((es.map (·.1)).zip xs)[i]? = some (k,x)/\(intKind C.prog C.w).is k v=true) (fun i h=>h.IsKeyIter s1.heap.objs.size a i ((es.map (·.1)).zip xs).length ep/\h.DictAt (intKind C.prog C.w) a ((es.map (·.1)).zip xs) ep) (fun e=>Heap.get?_push_of_some _ e) (k1.trans' .push) ⟨?_,?_,?_,?_,?_,?_,?_,?_⟩)
 ·have:=Walks.dictKeys (prog:=C.prog) (w:=C.w) (knd:=intKind C.prog C.w) hh s1.heap.objs.size a (Nat.ne_of_lt hlt) ((es.map (·.1)).zip xs) ep
  rw[hlen]at this ⊢
  exact this
 ·exact⟨⟨_,Heap.get?_push_size _ rfl,rfl,rfl⟩,hat.push _⟩
 ·intro b hb;simp at hb;clear hQ hat hd hh hl hlen hlt hsm;subst hb;exact⟨Ds k1,_,Heap.get?_push_size _ rfl⟩
 ·rintro i h ⟨⟨o',e',_,hd⟩,_⟩ b hb;simp at hb;clear hQ hat hh hl hlen hlt hsm k1 left right;subst hb;exact⟨o',_,e',hd⟩
 ·intro b hb;simp at hb;clear hQ hat hd hh hl hlen hlt hsm k1;rcases hb with rfl | rfl <;> simp
 ·intro b hb;simp at hb;clear hQ hd hh hl hlen hlt hsm k1;subst hb;obtain⟨o,es,ho,_⟩:=hat;exact⟨_,Heap.get?_push_of_some _ ho⟩
 ·rintro i x ⟨k,y,hx,hk⟩
  clear hQ hat hd hh hl hlen hlt hsm k1;obtain⟨t,rfl⟩:=Value.isInt_shape hk
  refine⟨.int k,?_,by simp[vRi]⟩
  have:=(List.getElem?_zip_eq_some.mp hx).1
  rw[List.getElem?_map]at this ⊢
  obtain⟨p,hp,rfl⟩:=Option.map_eq_some_iff.mp this
  rw[hp];rfl
 ·rintro i s target v Q E ⟨⟨o,ho,hc,hd⟩,_⟩ hQ
  exact Py ho (by rw[hc];decide) hQ
noncomputable def cZ (H:AH):AV->Option (List AV)
 | .ref a=>match H a with
  | some (.f (.dic true es))=>if es.length<=lim then some (es.map fun p=>AV.int p.1) else none
  | _=>none
 | _=>none
noncomputable def dC (f:PF):LF:=fun ρ H=>match f ρ H with
 | some v=>cZ H v
 | none=>none
theorem IterS.keys {e:Expr}(h:PureE C k sc e f):IterS C k sc e (dC f):=by
 intro A env s ρ H G O vs hA F R hv
 unfold dC at hv
 refine Fo hv ?_;clear hv;intro v hf hv
 refine wpAny_mono (h A env s ρ H G O v hA F R hf) (fun x s1 h1=>?_) fun z0 z0 x=>x
 obtain⟨rx,k1⟩:=h1
 have R':=R.keep k1.k
 unfold cZ at hv
 refine Sy hv ?_;clear hv;intro a q1 hv;clear F R h hf;subst q1
 refine fA hv ?_;clear hv;intro es hH hv
 refine Bj hv ?_;clear hv;intro hz hv
 obtain rfl:=Option.some.inj hv
 simp only [vRr]at rx;subst rx
 obtain⟨_,hsm,hst,xs,hd,hr⟩:=R'.obj a _ hH
 have hlen:=hr.length
 exact dH hA.1 k1 hsm hd (by simpa using hlen) fun s2 I fp wr P St k2' k2 ok=>⟨k2,by simpa using hz,I,fp,wr,[a],_,St,rfl,ok.toQ,fun b hb=>by simp at hb;subst hb;exact .inr ⟨_,_,hH,rfl,.inl rfl⟩⟩
theorem Xa {A:Around}{s s1:Shared}{O:Addr->Prop}{G:Gh}{es:List (Int × AV)}{xs:List Value}{a V:Addr}{Q:Value->Shared->Prop}(hh:A.handled=none)(k1:Kp s s1)(hV:s1.heap.IsValuesView V a)
  (hd:s1.heap.DictOf (intKind C.prog C.w) a ((es.map (·.1)).zip xs)) (hr:VRels s1.heap O G (es.map (·.2)) xs)
  (hQ:∀ s2 I fp wr P St,Kp s s2->ItOK C A s s2 O G (es.map (·.2)) I fp wr [a] P St->Q (.ref I) s2):wpAny (model C.prog C.w) A (pyIter (.ref V)) Q (fun z0 z0=>False) s1:=by
 obtain⟨ep,hat⟩:=hd.dictAt
 have hlt:=hat.lt_size
 have hl:=hr.length
 have hlen:((es.map (·.1)).zip xs).length=(es.map (·.2)).length:=by simp at hl;simp[hl]
 refine wpAny_pyIter_values hV hat (hQ _ _ [s1.heap.objs.size,a] [s1.heap.objs.size] (fun i v=>∃ k,((es.map (·.1)).zip xs)[i]? = some (k,v)) (fun i h=>h.IsValIter s1.heap.objs.size a i ((es.map (·.1)).zip xs).length ep/\h.DictAt (intKind C.prog C.w) a ((es.map (·.1)).zip xs) ep) (k1.trans' .push) ⟨?_,?_,?_,?_,?_,?_,?_,?_⟩)
 ·have:=Walks.dictValues (prog:=C.prog) (w:=C.w) (knd:=intKind C.prog C.w) hh s1.heap.objs.size a (Nat.ne_of_lt hlt) ((es.map (·.1)).zip xs) ep
  rw[hlen]at this ⊢
  exact this
 ·exact⟨⟨_,Heap.get?_push_size _ rfl,rfl,rfl⟩,hat.push _⟩
 ·intro b hb;simp at hb;clear hQ hV hat hd hh hl hlen hlt hr;subst hb;exact⟨Ds k1,_,Heap.get?_push_size _ rfl⟩
 ·rintro i h ⟨⟨o',e',_,hd⟩,_⟩ b hb;simp at hb;clear hQ hV hat hh hl hlen hlt hr k1 left right;subst hb;exact⟨o',_,e',hd⟩
 ·intro b hb;simp at hb;clear hQ hV hat hd hh hl hlen hlt hr k1;rcases hb with rfl | rfl <;> simp
 ·intro b hb;simp at hb;clear hQ hV hd hh hl hlen hlt hr k1;subst hb;obtain⟨o,es,ho,_⟩:=hat;exact⟨_,Heap.get?_push_of_some _ ho⟩
 ·rintro i x ⟨k,hx⟩
  refine Ag fun PP ret=>?_
  have hx2:=(List.getElem?_zip_eq_some.mp hx).2
  have hi:i < (es.map (·.2)).length:=by
   have:=(List.getElem?_eq_some_iff.mp hx2).1
   rw[<- hl];exact this
  obtain⟨y,hy,hry⟩:=hr.get (List.getElem?_eq_getElem hi)
  rw[hx2]at hy;clear hQ hV hat hd hh hl hlen hlt hr hx hx2 k1;obtain rfl:=Option.some.inj hy
  refine ret ?_
  exact⟨_,List.getElem?_eq_getElem hi,hry.keep fun z0 z0 e=>Heap.get?_push_of_some _ e⟩
 ·rintro i s target v Q E ⟨⟨o,ho,hc,hd⟩,_⟩ hQ
  exact Py ho (by rw[hc];decide) hQ
noncomputable def cE (H:AH):AV->Option (List AV)
 | .ref a=>match H a with
  | some (.f (.dic _ es))=>if es.length<=lim then some (es.map (·.2)) else none
  | _=>none
 | _=>none
noncomputable def Vr (f:PF):LF:=fun ρ H=>match f ρ H with
 | some v=>cE H v
 | none=>none
theorem IterE.values {o:Expr} {apos pos:Pos} (ho:PureE C k sc o f) (hbase:∀ env,attributeBase o "values" env (eval o env)=eval o env:=by intro _;rfl)
  (hline:(apos.endLine == pos.line)=true:=by rfl):IterE C k sc (.Call (.Attribute o "values" apos) [] [] pos) (Vr f):=by
 intro A env s ρ H G O vs hA F R hv
 unfold Vr at hv
 refine Fo hv ?_;clear hv;intro v hf hv
 unfold cE at hv
 refine Sy hv ?_;clear hv;intro a q1 hv;subst q1
 refine kO hv ?_;clear hv;intro lk es hH hv
 refine Bj hv ?_;clear hv;intro hz hv
 obtain rfl:=Option.some.inj hv
 have hne:H a ≠ none:=by rw[hH];simp
 refine wpAny_Call_method (T:="dict") (id:="dict.values") (hbase env) rfl hline PySem.F.plainAttrs_dict PySem.F.slot_dict_values PySem.F.type_dict_values (wpAny_mono (ho A env s ρ H G O _ hA F R hf) (fun x s1 h1=>?_) fun z0 z0 x=>x)
 refine Ag fun PP ret=>?_
 obtain⟨rx,k1⟩:=h1
 simp only [vRr]at rx;clear hbase hf hline ho hv;subst rx
 have R1:=R.keep k1.k
 obtain⟨_,hsm,hst,xs,hd,hr⟩:=R1.obj a _ hH
 have hl:=hr.length
 refine ret ?_
 refine⟨hd.typeIs,hd.mapOf.noDict,?_⟩
 refine(?_:wpAny _ _ (callWith pos (.builtin "dict.values") [.ref a] [] []) _ _ s1)
 refine method_meetsIn PySem.F.slot_dict_values PySem.F.entry_dict_values rfl (PySem.evalArgs_none ⟨rfl,hd.typeIs,PySem.F.args_dict_values_1 _,_,meets_dict_values (intKind C.prog C.w) a hsm,⟨_,hd⟩,?_⟩)
 have kk:Kp s { s1 with heap:=s1.heap.push { cls:=.type "dict_values",data:=.fields #[.ref a] } }:=k1.trans' .push
 exact Xa (s:=s) hA.1 kk ⟨_,Heap.get?_push_size _ rfl,rfl,rfl⟩ (hd.push _) (hr.keep fun z0 z0 e=>Heap.get?_push_of_some _ e) fun s2 I fp wr P St k2 ok =>
  ⟨k2,by simpa using hz,I,fp,wr,[a],_,St,rfl,ok.toQ,fun b hb=>by simp at hb;subst hb;exact⟨.ref b,.inr (.inl ⟨hne,rfl⟩)⟩⟩
noncomputable def bK (H:AH) (ov iv:AV):Option AH:=match ov,iv with
 | .ref a,.int i=>match H a with
  | some (.f (.dic false es))=>if (es.lookup i).isSome=true/\es.length<=lim then some (upd H a (.f (.dic false (es.filter fun p=>decide (p.1 ≠ i))))) else none
  | _=>none
 | _,_=>none
theorem jG {H:AH}{a:Addr}{i:Int}:bK H (.ref a) (.int i)=match H a with | some (.f (.dic false es))=>if (es.lookup i).isSome=true/\es.length<=lim then some (upd H a (.f (.dic false (es.filter fun p=>decide (p.1 ≠ i))))) else none | _=>none:=rfl
theorem Pu {es:List (Int × AV)}{xs:List Value}{h O G}(hr:VRels h O G (es.map (·.2)) xs){i:Int} :
  ∃ ys,without ((es.map (·.1)).zip xs) i=((es.filter fun p=>decide (p.1 ≠ i)).map (·.1)).zip ys/\VRels h O G ((es.filter fun p=>decide (p.1 ≠ i)).map (·.2)) ys:=by
 induction es generalizing xs with
 | nil=>exact⟨[],rfl,.nil⟩
 | cons p r ih =>
  obtain⟨j,v⟩:=p
  simp only [List.map_cons,vSc]at hr
  obtain⟨x,ys,rfl,h1,h2⟩:=hr
  obtain⟨zs,e,h3⟩:=ih h2
  unfold without at e ⊢
  by_cases hj:j=i
  ·clear h1 h2 ih;subst hj
   refine⟨zs,?_,?_⟩
   ·simpa using e
   ·simpa using h3
  ·refine⟨x :: zs,?_,?_⟩
   ·simp only [List.map_cons,List.zip_cons_cons,List.filter_cons,hj,ne_eq,not_false_eq_true,decide_true,if_true]
    congr 1
   ·simp only [List.filter_cons,hj,ne_eq,not_false_eq_true,decide_true,if_true,List.map_cons]
    exact .cons h1 h3
theorem eD {A:Around}{s:Shared}{H H':AH}{G:Gh}{ov iv:AV}{x y:Value}{Q:Unit->Shared->Prop}(R:Rel C H G (own H G) s.heap)(hx:VRel s.heap (own H G) G ov x)(hy:VRel s.heap (own H G) G iv y)(e:bK H ov iv=some H')
  (hQ:∀ s' G',Rel C H' G' (own H' G') s'.heap->Step (fun z0=>False) H G s H' G' s'->Q () s'):wpAny (model C.prog C.w) A (delItem x y) Q (fun z0 z0=>False) s:=by
 unfold bK at e
 refine Ix e ?_;clear e;intro a i q1 q2 e;subst q1;subst q2
 refine aG e ?_;clear e;intro es hH e
 refine Bj e ?_;clear e;intro hc e
 refine Ag fun PP ret=>?_
 obtain rfl:=Option.some.inj e
 simp only [vRi,vRr]at hx hy
 subst hx
 obtain⟨t,rfl⟩:=hy
 obtain⟨_,hsm,hst,xs,hd,hr⟩:=R.obj a _ hH
 have hlen:=hr.length
 obtain⟨v,hv⟩:=Option.isSome_iff_exists.mp hc.1
 obtain⟨z,hz,hvz⟩:=Hs hr hv
 refine ret ?_
 unfold delItem
 try with_reducible refine wpAny_holding ?_
 refine wpAny_bind (wpAny_sequenceKey hd.typeIs (by decide) ?_)
 refine wpAny_bind (wpAny_callSpecial?_slot (name:=Str.ofString "__delitem__") hd.typeIs PySem.F.slot_dict_delitem
  (call_meetsIn PySem.F.slot_dict_delitem hd.typeIs PySem.F.entry_dict_delitem (PySem.F.args_dict_delitem_2 _ _) (meets_dict_delitem_pairs (intKind C.prog C.w) a (k:=i) (intKind_is _ _ i t)) ⟨_,hd,?_,by rw[hz];rfl,fun h' hmm hs=>?_⟩))
 ·have:=Bv
  simp only [List.length_zip,List.length_map]at hlen ⊢
  lia
 ·refine Ag fun PP ret=>?_
  obtain⟨ys,e1,h1⟩:=Pu hr (i:=i)
  rw[e1]at hmm
  obtain⟨R',S'⟩:=Lv (tk:=s.toks + 1) R hH (by
   rw[stos_iff];intro u hu
   obtain⟨q,hq,rfl⟩:=List.mem_map.mp hu
   exact Bk hst (List.mem_map.mpr ⟨q,(List.mem_filter.mp hq).1,rfl⟩)) hmm (fun b ob hb e=>hs.extBut b ob hb e) h1
  refine ret ?_
  exact wpAny_pure (hQ _ G R' S')
noncomputable def gF (i:Nat) (f:PF):Wp Bool:=fun Q ρ H=>∃ v b,f ρ H=some v/\v.sto=true/\isN v=some b/\Q b (ρ.set i v) H
theorem ImpC.walrus {x:Str}{i:Nat}{e:Expr}{p p2 p3 pos:Pos}{j:Nat}(hx:(x,i) ∈ sc.vars)(he:PureE C k sc e f):ImpC C k sc (.Compare (.NamedExpr (.Name x p) e p2) [.Is] [.Constant .none j p3] pos) (gF i f):=by
 rintro A env s ρ H G Q hA F hs R ⟨v,b,hv,hsv,hb,hq⟩
 refine wpAny_isTrue_Compare1 (wpAny_NamedExpr (wpAny_mono (he A env s ρ H G _ v hA F R hv) (fun y s1 h1=>?_) fun z0 z0 x=>x)) 
 obtain⟨hy,k1⟩:=h1
 have F1:=F.keep k1.k
 have R1:=R.keep k1.k
 refine wpAny_assign_Name (Bz F1 hx hy fun s2 F2 fs hy2=>?_)
 have fs':=fs.mono fun z0=>Bp
 have R2:=R1.fs F1 fs'
 refine wpAny_Constant_none ?_
 have hc:=(CmpR.is (C:=C) (k:=k)) A s2 H G _ v .none (.bool b) y .none hA R2 hy2 (by simp[vRn]) (by simp[hb])
 refine wpAny_mono hc (fun z s3 h3=>?_) fun z0 z0 x=>x
 obtain⟨hz,k3⟩:=h3
 simp only [vRb]at hz;clear F hA hb hc he hv hx hy hy2;subst hz
 exact wpAny_truthy_bool ⟨_,H,G,hq,F2.keep k3.k,hs.set hsv,R2.keep k3.k,((Step.kp R k1).trans (.fs F1 R1 fs')).trans (.kp R2 k3)⟩
noncomputable def bG (W:Wp AV) (fo fi:PF) (i:Nat):Wp AFlow:=fun Q=>W fun v ρ H=>∃ ov iv H',fo ρ H=some ov/\fi ρ H=some iv/\Hl H ov iv v=some H'/\Q .next (ρ.set i v) H'
theorem StmtR.dset2 {o i e:Expr}{x:Str}{n:Nat}{p p2 pos:Pos}{W:Wp AV}(he:ImpE C k sc e W)(ho:PureE C k sc o f)(hi:PureE C k sc i f')(hx:(x,n) ∈ sc.vars)
  (hw:∀ env,swappedStores [.Subscript o i p,.Name x p2] e env=pure none:=by intro _;rfl) :
  StmtR C k sc (.Assign [.Subscript o i p,.Name x p2] e pos) (bG W f f' n):=by
 intro A env s ρ H G Q hA F hs R hT
 refine wpAny_Assign_two (wpAny_mono (he A env s ρ H G _ hA F hs R hT) (fun z s1 h1=>?_) fun z0 z0 x=>x) rfl (hw env)
 refine Ag fun PP ret=>?_
 obtain⟨v,ρ1,H1,G1,⟨ov,iv,H2,hov,hiv,hset,hq⟩,hv,hsv,F1,hs1,R1,S1⟩:=h1
 refine ret ?_
 rw[assign_Subscript]
 refine wpAny_bind (wpAny_holding ?_)
 have:=PureE.two (K:=fun x y s2=>VRel s2.heap (own H1 G1) G1 ov x/\VRel s2.heap (own H1 G1) G1 iv y/\Kp s1 s2) ho hi hA F1 R1 hov hiv fun x y s2 hx hy k2=>⟨hx,hy,k2⟩
 refine wpAny_mono this (fun xo s2 h2=>wpAny_bind (wpAny_holding (wpAny_mono h2 (fun y s3 h3=>?_) fun z0 z0 x=>x))) fun z0 z0 x=>x
 obtain⟨hx',hy',k2⟩:=h3
 have R2:=R1.keep k2.k
 have F2:=F1.keep k2.k
 refine wpAny_bind (wpAny_standAt (wpAny_bind (wpAny_holding (Vj R2 hx' hy' (hv.keep k2.k) hset fun s4 G4 R4 S4=>wpAny_releaseD ?_))))
 have F4:=S4.wf F2 hs1
 have hv4:=S4.val hsv (hv.keep k2.k)
 refine wpAny_assign_Name (Bz F4 hx hv4 fun s5 F5 fs hy5=>?_)
 have fs':=fs.mono fun z0=>Bp
 exact⟨.next,_,H2,G4,hq,trivial,F5,hs1.set hsv,R4.fs F4 fs',((S1.trans (.kp R1 k2)).trans (S4.frm F2)).trans (.fs F4 R4 fs')⟩
end
end Mine
end
section
namespace Mine
theorem slot_li_ga:Slot "list_iterator" "__getattribute__" "object.__getattribute__" :=
 .of (owner:="object") (n:="__getattribute__") (by rw[typeLookup_type,builtinLookup_eq_fast];kernel_rfl) (by decide +kernel) (by decide +kernel) (by decide +kernel)
  (by first | exact .inl (by decide +kernel) | exact .inr (by decide +kernel)) (by rw[isSubtype_type];kernel_rfl)
theorem Tf:entryFor table "object.__getattribute__" = some Builtin.«object.__getattribute__»:=entryFor_of_tree (by kernel_rfl)
theorem Xn (a b:Value):argsOk "object.__getattribute__" ⟨[a,b],[]⟩:=by unfold argsOk;kernel_rfl
theorem Fe:typeOf (.builtin "list_iterator.__next__")=pure (.type "wrapper_descriptor"):=by refine(?_:builtinType _=_);rw[builtinType_eq_fast];kernel_rfl
theorem slot_wd_get:Slot "wrapper_descriptor" "__get__" "wrapper_descriptor.__get__" :=
 .of (owner:="wrapper_descriptor") (n:="__get__") (by rw[typeLookup_type,builtinLookup_eq_fast];kernel_rfl) (by decide +kernel) (by decide +kernel) (by decide +kernel)
  (by first | exact .inl (by decide +kernel) | exact .inr (by decide +kernel)) (by rw[isSubtype_type];kernel_rfl)
theorem Pn:entryFor table "wrapper_descriptor.__get__" = some Builtin.«wrapper_descriptor.__get__»:=entryFor_of_tree (by kernel_rfl)
theorem Rn (a b c:Value):argsOk "wrapper_descriptor.__get__" ⟨[a,b,c],[]⟩:=by unfold argsOk;kernel_rfl
theorem Zg:typeLookup (.type "wrapper_descriptor") "__set__" = pure none:=by rw[typeLookup_type,builtinLookup_eq_fast];kernel_rfl
theorem Zh:typeLookup (.type "wrapper_descriptor") "__delete__" = pure none:=by rw[typeLookup_type,builtinLookup_eq_fast];kernel_rfl
theorem Ox:isSubtype (.type "list_iterator") (.type (".".intercalate ("list_iterator.__next__".cutAt '.').dropLast))=pure true:=by
 have e0:"list_iterator.__next__".cutAt '.' = ["list_iterator","__next__"]:=by first | rfl | decide +kernel
 rw[e0,show (".".intercalate (["list_iterator","__next__"]:List String).dropLast) = "list_iterator" from by decide +kernel,isSubtype_type];kernel_rfl
section
variable {prog:Program} {w:World} {A:Around} {E:Value->Shared->Prop} {h:Heap} {g:Array GenState} {d:Drawn} {t:Nat} {os:OsState} {a:Addr} {o:Obj}
theorem gE {R:Result->Shared->Prop} (hx:h.get? a=some o) (hc:o.cls = .type "list_iterator") (hq:R (.ok (.ret (.ref h.objs.size))) ⟨h.push (Ik a),g,d,t,os⟩) :
  codeAny (model prog w) A (.call (.builtin "wrapper_descriptor.__get__") ⟨[.builtin "list_iterator.__next__",.ref a,.type "list_iterator"],[]⟩) R ⟨h,g,d,t,os⟩:=by
 have hT:(⟨h,g,d,t,os⟩:Shared).TypeIs (.ref a) "list_iterator":=⟨_,hx,hc⟩
 have hT5:(⟨h,g,d,t,os⟩:Shared).TypeIs (.builtin "list_iterator.__next__") "wrapper_descriptor":=Fe
 have f8:=Ox
 refine codeAny_call_builtin slot_wd_get.plain Pn (slot_wd_get.check _ _ _ _ _ _ _ _ hT5 (Rn _ _ _) ?_)
 repeat (any_goals (first | assumption | wp_step))
theorem Zq {tk:Tok} {vs:Array Value} {Q:Fin->Shared->Prop} (hx:h.get? a=some { cls:=.type "list_iterator",data:=.fields vs }) (hq:Q (.done (.ret (.ref h.objs.size))) ⟨h.push (Ik a),g,d,t,os⟩) :
  wpAny (model prog w) A (Builtin.«object.__getattribute__» ⟨[.ref a,.str "__next__" tk],[]⟩) Q E ⟨h,g,d,t,os⟩:=by
 have hT:(⟨h,g,d,t,os⟩:Shared).TypeIs (.ref a) "list_iterator":=⟨_,hx,rfl⟩
 have hT5:(⟨h,g,d,t,os⟩:Shared).TypeIs (.builtin "list_iterator.__next__") "wrapper_descriptor":=Fe
 have f4:=slot_listiter_next.lookup
 have f5:=Fe
 have f6:=slot_wd_get.lookup
 have f7:=Zg
 have f8:=Zh
 repeat (any_goals (first | assumption | wp_step))
 refine gE hx rfl ?_
 repeat (any_goals (first | assumption | wp_step))
theorem cX {tk:Tok} {vs:Array Value} {R:Result->Shared->Prop} (hx:h.get? a=some { cls:=.type "list_iterator",data:=.fields vs }) (hq:R (.ok (.ret (.ref h.objs.size))) ⟨h.push (Ik a),g,d,t,os⟩) :
  codeAny (model prog w) A (.call (.builtin "object.__getattribute__") ⟨[.ref a,.str "__next__" tk],[]⟩) R ⟨h,g,d,t,os⟩ :=
 codeAny_call_builtin slot_li_ga.plain Tf (slot_li_ga.check _ _ _ _ _ _ _ _ (show (⟨h,g,d,t,os⟩:Shared).TypeIs (.ref a) "list_iterator" from ⟨_,hx,rfl⟩) (Xn _ _) (Zq hx hq))
theorem cY {vs:Array Value} {Q:Value->Shared->Prop} (hx:h.get? a=some { cls:=.type "list_iterator",data:=.fields vs }) (hq:Q (.ref h.objs.size) ⟨h.push (Ik a),g,d,t + 1,os⟩) :
  wpAny (model prog w) A (getAttr (.ref a) "__next__" true) Q E ⟨h,g,d,t,os⟩:=by
 have hT:(⟨h,g,d,t + 1,os⟩:Shared).TypeIs (.ref a) "list_iterator":=⟨_,hx,rfl⟩
 have f2:=slot_li_ga.lookup
 have f3:=slot_li_ga.bind (.ref a)
 unfold getAttr
 repeat (any_goals (first | assumption | wp_step))
 refine cX hx ?_
 repeat (any_goals (first | assumption | wp_step))
end
end Mine
end
section
namespace Mine
section
variable {C:Cx} {k:Nat} {sc:Sc} {f f':PF}
noncomputable def Wr (f:PF):Rho->AH->Option FObj:=fun ρ H=>match f ρ H with
 | some (.ref a)=>match H a with
  | some (.f (.lst _ _))=>some (.nxt a 0)
  | _=>none
 | _=>none
theorem MakeE.next {x:Str} {e:Expr} {p cpos pos:Pos} (hx:x ∈ sc.globs) (hm:C.mg x=Option.none) (hb:C.mb x=some (.builtin "iter")) (he:PureE C k sc e f)
  (hs:∀ env,starEach [e] env=[(false,eval e env)]:=by intro _;rfl) (hns:Gr [e]:=by intro _;rfl) (hd:(x == ("__debug__":Str))=false:=by decide)
  (hbase:∀ env,attributeBase (.Call (.Name x p) [e] [] cpos) "__next__" env (eval (.Call (.Name x p) [e] [] cpos) env)=eval (.Call (.Name x p) [e] [] cpos) env:=by intro _;rfl) :
  MakeE C k sc (.Attribute (.Call (.Name x p) [e] [] cpos) "__next__" pos) (Wr f):=by
 intro A env s ρ H G O o hA F R ho
 unfold Wr at ho
 refine eW ho ?_;clear ho;intro a hf ho
 refine aF ho ?_;clear ho;intro lk vs hH ho
 obtain rfl:=Option.some.inj ho
 rw[arm_eval_Attribute,hbase env]
 refine wpAny_bind ?_
 refine wpAny_Call_NameR (wpAny_Name (Co F R hx (.inr ⟨hm,hb⟩) ?_) hd)
 refine Calls.callWith_builtin (Cn hns cpos env) (Db (e:=e) (rest:=[]) (hs env) ?_)
 rw[hs env]
 refine Calls.spliced_cons (wpAny_mono (he A env s ρ H G O _ hA F R hf) (fun y s1 h1=>Calls.spliced_nil ?_) fun z0 z0 x=>x)
 obtain⟨ry,k1⟩:=h1
 simp only [vRr]at ry;subst ry
 have R1:=R.keep k1.k
 obtain⟨_,_,hz,n,items,hg,hr⟩:=R1.obj a _ hH
 refine Calls.call_function_entry (by decide +kernel) (by decide +kernel) kdk_entry_iter (kdk_args_iter _) ?_
 unfold Builtin.«iter»
 refine wpAny_bind (m:=someArgs "iter" 1 2 _) (wpAny_of_eq (a:=[Value.ref a]) (by first | rfl | kernel_rfl!) ?_)
 refine(?_:wpAny _ _ (pyIter (.ref a) >>= _) _ _ _)
 refine wpAny_bind (wpAny_pyIter_list (Am hg) ?_)
 refine wpAny_pure ⟨_,rfl,?_⟩
 refine wpAny_bind (wpAny_standAt (wpAny_bind (wpAny_holding ?_)))
 obtain⟨hh,gg,dd,tt,os⟩:=s1
 refine cY (h:=hh.push _) (a:=hh.objs.size) (Heap.get?_push_size _ rfl) ?_
 refine wpAny_bind (wpAny_letTemporaryGo (wpAny_pure ?_))
 have hsz:(hh.push { cls:=Value.type "list_iterator",data:=Data.fields #[Value.ref a,Value.int 0 0] }).objs.size=hh.objs.size + 1:=Heap.size_push ..
 have kk:Kp s ⟨(hh.push { cls:=Value.type "list_iterator",data:=Data.fields #[Value.ref a,Value.int 0 0] }).push (Ik hh.objs.size),gg,dd,tt + 1,os⟩:=(k1.trans' (.push (s:=⟨hh,gg,dd,tt,os⟩) (o:={ cls:=Value.type "list_iterator",data:=Data.fields #[Value.ref a,Value.int 0 0] }))).trans' .pushT
 refine⟨hh.objs.size + 1,[hh.objs.size],by rw[hsz],⟨hh.objs.size,rfl,by rw[<- hsz];exact Heap.get?_push_size _ rfl,⟨_,Heap.get?_push_of_some _ (Heap.get?_push_size _ rfl),rfl,rfl⟩⟩,by simp,fun b hb=>?_,kk⟩
 have nn:∀ b,hh.objs.size<=b->s.heap.get? b=none:=fun b hb=>by
  cases e:s.heap.get? b with
  | none=>rfl
  | some o=>exact absurd (Heap.lt_size (k1.k b o e)) (Nat.not_lt.mpr hb)
 rcases hb with rfl | hb
 ·exact⟨nn _ (Nat.le_succ _),_,by rw[<- hsz];exact Heap.get?_push_size _ rfl⟩
 ·simp at hb;subst hb;exact⟨nn _ (Nat.le_refl _),_,Heap.get?_push_of_some _ (Heap.get?_push_size _ rfl)⟩
noncomputable def Oq (f:PF) (W:Wp AV):Wp AV:=fun Q ρ H=>∃ v vs0,f ρ H=some v/\v.sto=true/\Av H v=some vs0/\W (fun x ρ1 H1=>∃ vs H',Av H1 v=some vs/\Ih H1 v (vs++[x])=some H'/\Q .none ρ1 H') ρ H
theorem ImpE.appendI {o e:Expr} {apos pos:Pos} {W:Wp AV} (ho:PureE C k sc o f) (he:ImpE C k sc e W) (hbase:∀ env,attributeBase o "append" env (eval o env)=eval o env:=by intro _;rfl)
  (hfew:∀ env,((backTo pos (starEach [e] env)).all (fun x=>!x.1) && (backToKw pos (keywordEach [] env)).all (fun x=>x.1.isSome) && decide (([e]:List Expr).length + ([]:List Keyword).length + (if ([]:List Keyword).isEmpty then 0 else 1) < 30))=true:=by intro _;rfl)
  (hline:(apos.endLine == pos.line)=true:=by rfl) (htr:∀ env,starEach [e] env=[(false,eval e env)]:=by intro _;rfl):ImpE C k sc (.Call (.Attribute o "append" apos) [e] [] pos) (Oq f W):=by
 rintro A env s ρ H G Q hA F hs R ⟨v,vs0,hv,hsv,hvs0,hW⟩
 refine Dy PySem.F.slot_list_append PySem.F.type_list_append (hbase env) (hfew env) hline (wpAny_mono (ho A env s ρ H G _ v hA F R hv) (fun ov s1 h1=>?_) fun z0 z0 x=>x)
 refine Ag fun PP ret=>?_
 obtain⟨rv,k1⟩:=h1
 have R1:=R.keep k1.k
 have F1:=F.keep k1.k
 obtain⟨a,n,items,rfl,hg,hr,hz⟩:=Ao R1 rv hvs0
 refine ret ?_
 refine⟨a,items,n,rfl,hg,?_⟩
 rw[htr env]
 refine P.append_list (wpAny_mono (he A env s1 ρ H G _ hA F1 hs R1 hW) (fun y s2 h2=>?_) fun z0 z0 x=>x)
 refine Ag fun PP ret=>?_
 obtain⟨x,ρ2,H2,G2,⟨vs,H',hvs,hp,hq⟩,ry,hsx,F2,hs2,R2,S2⟩:=h2
 have rv2:=S2.valF F1 hsv rv
 obtain⟨a',n2,items2,e',hg2,hr2,hz2⟩:=Ao R2 rv2 hvs
 cases e'
 have hl:=hr2.length
 refine ret ?_
 refine⟨items2.toArray,n2,by have:=Bv;simp;exact Ar.r95 hz2 hl this,hg2,?_⟩
 obtain⟨n',hg'⟩:=Dv (h':=s2.heap) (ys:=items2++[y]) (g:=fun xs=>xs.push y) hg2 (by simp)
 obtain⟨R3,S3⟩:=Ig (s':=s2) (tk:=s2.toks) (vs:=vs) (n:=n2) (items:=items2) R2 rv2 hp Ck hg' (hr2.append (.one ry))
 exact⟨.none,ρ2,H',G2,hq,by simp[vRn],rfl,S3.wf F2 hs2,hs2,R3,((Step.kp R k1).trans S2).trans (S3.frm F2)⟩
theorem bP (it:Addr):checkBoundCall "list_iterator.__next__" ⟨[.ref it],[]⟩=pure ():=by first | kernel_rfl | rfl
theorem bR {A:Around}{s:Shared}{nx it:Addr}{Q:Value->Shared->Prop}{E:Value->Shared->Prop}(hn:s.heap.get? nx=some (Ik it))
  (h:wpAny (model C.prog C.w) (A.under (.builtin "list_iterator.__next__" ⟨[.ref it],[]⟩)) (Builtin.«list_iterator.__next__» ⟨[.ref it],[]⟩) (fun fin s'=>∃ v,fin = .done (.ret v)/\Q v s') E s):wpAny (model C.prog C.w) A (call (.ref nx) []) Q E s:=by
 refine wpAny_call (codeAny_of_tree ?_)
 refine(?_:wpAny _ _ (callAny (.ref nx) _) _ _ _)
 unfold callAny
 refine wpAny_bind (wpAny_load hn ?_)
 refine(?_:wpAny _ _ (checkBoundCall "list_iterator.__next__" ⟨[.ref it],[]⟩ >>= _) _ _ _)
 rw[bP]
 refine wpAny_bind (wpAny_pure ?_)
 refine wpAny_pure ⟨Code.quiet_builtin _ (by decide +kernel),codeAny_builtin entry_listiter_next (wpAny_mono h (fun fin s' z=>?_) fun z0 z0 z=>z)⟩
 obtain⟨v,rfl,q⟩:=z
 exact q
theorem Wv {A:Around}{s:Shared}{it l:Addr}{i:Nat}{items:List Value}{n:Nat}{x:Value}{Q:Fin->Shared->Prop}{E:Value->Shared->Prop}(hit:s.heap.IsListIter it l i)(hl:s.heap.get? l=some (Bu items n))(hx:items[i]? = some x)
  (hQ:∀ h',h'.IsListIter it l (i + 1)->Heap.SameBut it s.heap h'->Q (.done (.ret x)) { s with heap:=h' }):wpAny (model C.prog C.w) A (Builtin.«list_iterator.__next__» ⟨[.ref it],[]⟩) Q E s:=by
 refine Ag fun PP ret=>?_
 obtain⟨o,ho,hc,hd⟩:=id hit
 refine ret ?_
 refine(?_:wpAny _ _ (field (.ref it) 0 >>= _) _ _ s)
 refine wpAny_bind (wpAny_field ho hd (x:=.ref l) rfl ?_)
 refine(?_:wpAny _ _ (if (Value.ref l == Value.none)=true then _ else _) _ _ s)
 rw[if_neg (show ¬ ((Value.ref l == Value.none)=true) from Bool.false_ne_true)]
 refine(?_:wpAny _ _ (field (.ref it) 1 >>= _) _ _ s)
 refine wpAny_bind (wpAny_field ho hd (x:=.int i 0) rfl ?_)
 refine(?_:wpAny _ _ (seqItems? (.ref l) >>= _) _ _ s)
 refine wpAny_bind (wpAny_seqItems hl rfl ?_)
 have hx':items.toArray[i]? = some x:=by simpa using hx
 simp only [Int.toNat_natCast,hx']
 refine wpAny_bind (wpAny_setField ho hd (by simp) (wpAny_pure (hQ _ ?_ (Heap.SameBut.update ..))))
 exact⟨_,Heap.get?_update_self _ ho (Obj.isFreed_of_fields (Obj.data_mapFields hd _)),(Obj.cls_mapFields ..).trans hc,by
  rw[Obj.data_mapFields hd];simp[rawInt]⟩
structure NewX (h h':Heap) (it e:Addr):Prop where
 keep:∀ b o,b ≠ it->h.get? b=some o->h'.get? b=some o
 live:∃ o vs,h'.get? it=some o/\o.data = .fields vs
 new:h.get? e=none
 exc:∃ oe vs,h'.get? e=some oe/\oe.cls = .type "StopIteration"/\oe.data = .fields vs/\vs[1]? = some .none
theorem Zj {A:Around}{s:Shared}{it l:Addr}{i:Nat}{items:List Value}{n:Nat}{Q:Fin->Shared->Prop}{E:Value->Shared->Prop}(hh:A.handled=none)(hit:s.heap.IsListIter it l i)(hl:s.heap.get? l=some (Bu items n))(hx:items[i]? = none)
  (hE:∀ h' e,NewX s.heap h' it e->E (.ref e) { s with heap:=h' }):wpAny (model C.prog C.w) A (Builtin.«list_iterator.__next__» ⟨[.ref it],[]⟩) Q E s:=by
 refine Ag fun PP ret=>?_
 obtain⟨o,ho,hc,hd⟩:=id hit
 refine ret ?_
 refine(?_:wpAny _ _ (field (.ref it) 0 >>= _) _ _ s)
 refine wpAny_bind (wpAny_field ho hd (x:=.ref l) rfl ?_)
 refine(?_:wpAny _ _ (if (Value.ref l == Value.none)=true then _ else _) _ _ s)
 rw[if_neg (show ¬ ((Value.ref l == Value.none)=true) from Bool.false_ne_true)]
 refine(?_:wpAny _ _ (field (.ref it) 1 >>= _) _ _ s)
 refine wpAny_bind (wpAny_field ho hd (x:=.int i 0) rfl ?_)
 refine(?_:wpAny _ _ (seqItems? (.ref l) >>= _) _ _ s)
 refine wpAny_bind (wpAny_seqItems hl rfl ?_)
 have hx':items.toArray[i]? = none:=by simpa using hx
 simp only [Int.toNat_natCast,hx']
 refine wpAny_bind (wpAny_rule (wpAny_bind (wpAny_setField ho hd (by simp) ?_)))
 refine(?_:wpAny _ _ (newExc (.type "StopIteration") [] >>= _) _ _ _)
 refine wpAny_bind ?_
 simp only [newExc,newTuple]
 refine wpAny_bind (wpAny_newObj_type ?_ (by size_fits))
 refine wpAny_bind (m:=firstArgMember _ _) (wpAny_of_eq (a:=Value.none) (by first | rfl | (simp only [firstArgMember];rfl)) ?_)
 refine wpAny_newObj_type ?_ (by size_fits)
 simp only [raiseNew]
 refine wpAny_bind (wpAny_handled ?_)
 rw[hh]
 refine wpAny_bind (wpAny_pure (wpAny_throw (hE _ _ ⟨fun b o hb e=>?_,?_,?_,?_⟩)))
 ·exact((((Heap.SameBut.update ..).extBut.push _).push _) b o hb e)
 ·exact⟨_,_,Heap.get?_push_of_some _ (Heap.get?_push_of_some _ (Heap.get?_update_self _ ho (Obj.isFreed_of_fields (Obj.data_mapFields hd _)))),Obj.data_mapFields hd _⟩
 ·cases q:s.heap.get? ((s.heap.update it (Obj.mapFields fun x=>x.setIfInBounds 0 Value.none)).push { cls:=.type "tuple",data:=.seq #[] }).objs.size with
  | none=>rfl
  | some o' =>
   have:=Heap.lt_size q
   rw[Heap.size_push,Heap.size_after_update]at this
   exact absurd this (Nat.not_lt.mpr (Nat.le_succ _))
 ·exact⟨_,_,Heap.get?_push_size _ rfl,rfl,rfl,rfl⟩
theorem cS {M:Model}{A:Around}{s:Shared}{env:Env}{outer:List Env}{L e:Addr}{oe:Obj}{vs:Array Value}{base:Heap}{Q:Unit->Shared->Prop}{E:Value->Shared->Prop}(hfr:A.frames=some (env :: outer))(hl:s.heap.FunFrames base (env :: outer))(hf:env.frame=some L)
  (he:s.heap.get? e=some oe) (hd:oe.data = .fields vs) (h1:vs[1]? = some .none)
  (hQ:∀ h' T oT ts oe',(∀ b o,b ≠ e->b ∉ (env :: outer).filterMap (·.frame)->s.heap.get? b=some o->h'.get? b=some o)->(∀ b o,b ≠ e->s.heap.get? b=some o->∃ sl,h'.get? b=some { o with slots:=sl }) ->
   s.heap.get? T=none->h'.get? T=some oT->oT.data = .fields ts->3 < ts.size->h'.get? e=some oe'->oe'.cls=oe.cls->oe'.data = .fields (vs.setIfInBounds 1 (.ref T))->Q () { s with heap:=h' }):wpAny M A (noteFrame (.ref e) env) Q E s:=by
 have hsz:1 < vs.size:=(Array.getElem?_eq_some_iff.mp h1).1
 have hene:e ∉ (env :: outer).filterMap (·.frame):=fun hm=>by
  obtain⟨_,o,ho,hnf⟩:=hl.mem hm
  rw[he]at ho;injection ho with ho;subst ho;exact hnf vs hd
 unfold noteFrame
 simp only [hf]
 refine wpAny_bind (wpAny_field he hd h1 ?_)
 rw[if_neg (by decide)]
 refine wpAny_bind (wpAny_frameOf_fun hfr hl hf fun h₁ hs₁=>?_)
 refine wpAny_bind (wpAny_entryPlaceOf fun pl hpl=>?_)
 unfold EntryCells.newEntry newFields
 refine wpAny_bind (wpAny_newObj_type ?_ (hpl.sizeOk5 _ _ _ _ _))
 have he₁:h₁.get? e=some oe:=(hs₁.2.1 e hene).trans he
 have he₂:=Heap.get?_push_of_some (h:=h₁) { cls:=.type "traceback",dict:=none,data:=.fields ([Value.none,.ref L,.none,rawInt L,.none]++(if pl.isEmpty then List.replicate 6 Value.none else pl)).toArray } he₁
 have hTe:h₁.objs.size ≠ e:=Nat.ne_of_gt (Heap.lt_size he₁)
 have hd₃:=Obj.data_mapFields hd (·.setIfInBounds 1 (Value.ref h₁.objs.size))
 refine wpAny_setField he₂ hd hsz (hQ _ h₁.objs.size { cls:=.type "traceback",dict:=none,data:=.fields ([Value.none,.ref L,.none,rawInt L,.none]++(if pl.isEmpty then List.replicate 6 Value.none else pl)).toArray } ([Value.none,.ref L,.none,rawInt L,.none]++(if pl.isEmpty then List.replicate 6 Value.none else pl)).toArray _ (fun b o hb hbf eb=>?_) (fun b o hb eb=>?_) ?_ ?_ rfl ?_ (Heap.get?_update_self _ he₂ (Obj.isFreed_of_fields hd₃)) (Obj.cls_mapFields _ _) hd₃)
 ·rw[Heap.get?_update_other _ _ (Ne.symm hb)]
  exact Heap.get?_push_of_some _ ((hs₁.2.1 b hbf).trans eb)
 ·obtain⟨sl,q⟩:=hs₁.2.2 b o eb
  exact⟨sl,by rw[Heap.get?_update_other _ _ (Ne.symm hb)];exact Heap.get?_push_of_some _ q⟩
 ·cases q:s.heap.get? h₁.objs.size with
  | none=>rfl
  | some o'=>have:=Heap.lt_size q;rw[hs₁.1]at this;exact absurd this (Nat.lt_irrefl _)
 ·rw[Heap.get?_update_other _ _ (Ne.symm hTe)];exact Heap.get?_push_size _ rfl
 ·simp only [List.size_toArray,List.length_append,List.length_cons,List.length_nil];exact Ar.r213
end
end Mine
end
section
namespace Mine
section
variable {C:Cx} {k:Nat} {sc:Sc} {f f':PF}
theorem Rk {A:Around}{s:Shared}{nx it:Addr}{pos:Pos}{Q:Value->Shared->Prop}{E:Value->Shared->Prop}(hn:s.heap.get? nx=some (Ik it))(h:wpAny (model C.prog C.w) A (call (.ref nx) []) Q E s) :
  wpAny (model C.prog C.w) A (callWith pos (.ref nx) [] [] []) Q E s:=by
 unfold callWith
 refine wpAny_bind (wpAny_holding (PySem.evalArgs_none (wpAny_bind (wpAny_standAt ?_))))
 refine wpAny_bind ?_
 unfold keeperOf
 refine wpAny_bind (wpAny_load hn ?_)
 refine wpAny_pure ?_
 refine wpAny_bind ?_
 exact wpAny_mono h (fun r s₂ hr=>wpAny_bind (wpAny_holding (wpAny_point (wpAny_pure hr)))) fun z0 z0 x=>x
theorem WF.mark {A:Around}{env:Env}{ρ:Rho}{G:Gh}{O:Addr->Prop}{h:Heap}(F:WF C A sc env ρ G O h)(x:Option Value):WF C (A.mark x) sc env ρ G O h:=⟨F.kind,F.glob,F.bui,F.ns,F.cells,F.celk,F.gl,F.apart,F.cnl,F.cli,F.nol,F.noc,F.nbs,F.scnd,F.scinj,F.frs,F.top⟩
theorem Uh {A:Around}{env:Env}{s:Shared}{ρ:Rho}{H:AH}{G:Gh}{x:Str}{i:Nat}{a:Addr}{vs:List AV}{v:AV}{p apos pos:Pos}{Q:Value->Shared->Prop}{E:Value->Shared->Prop}(F:WF C A sc env ρ G (own H G) s.heap)(R:Rel C H G (own H G) s.heap)(hx:(x,i) ∈ sc.vars)(hv:ρ i = .ref a)(hH:H a=some (.f (.lst false (vs++[v]))))(hsv:v.sto=true)
  (hQ:∀ y s',Rel C (upd H a (.f (.lst false vs))) G (own (upd H a (.f (.lst false vs))) G) s'.heap->Step (fun z0=>False) H G s (upd H a (.f (.lst false vs))) G s'->VRel s'.heap (own (upd H a (.f (.lst false vs))) G) G v y->Q y s')
  (hd:(x == ("__debug__":Str))=false:=by decide) (hcd:(x == ("__classdict__":Str))=false:=by decide) (hline:(apos.endLine == pos.line)=true:=by rfl) :
  wpAny (model C.prog C.w) A (eval (.Call (.Attribute (.Name x p) "pop" apos) [] [] pos) env) Q E s:=by
 refine Ag fun PP ret=>?_
 obtain⟨_,hst,hz,n,items,hg,hr⟩:=R.obj a _ hH
 have rv:VRel s.heap (own H G) G (.ref a) (.ref a):=by simp[vRr]
 refine ret ?_
 refine wpAny_Call_method rfl rfl hline PySem.F.plainAttrs_list PySem.F.slot_list_pop PySem.F.type_list_pop (wpAny_Name (Pj F hx hv (by simp) (fun y hy=>?_) hcd) hd)
 simp only [vRr]at hy;subst hy
 refine⟨⟨_,hg,rfl⟩,fun b hb=>by cases hb;exact⟨_,hg,rfl⟩,?_⟩
 have hl:=hr.length
 have hlen:items.length=vs.length + 1:=by rw[hl];simp
 obtain⟨y,hy,hry⟩:=hr.get (i:=vs.length) (v:=v) (by simp)
 refine P.pop_list (items:=items.toArray) (n:=n) (y:=y) hg (by rw[List.size_toArray,hlen];simpa using hy) ?_ (by have:=Bv;simp;exact Ar.r95 hz hl this)
 have htk:=hr.take vs.length
 have e1:(vs++[v]).take vs.length=vs:=by simp
 rw[e1]at htk
 obtain⟨n',hg'⟩:=Dv (h':=s.heap) (ys:=items.take vs.length) (g:=fun xs=>xs.eraseIdxIfInBounds (items.toArray.size - 1)) hg (by
  simp only [List.size_toArray,hlen,Nat.add_sub_cancel]
  rw[Array.eraseIdxIfInBounds]
  have hlt:vs.length < items.toArray.size:=by simp;exact Ar.r20 hlen
  simp only [hlt,dif_pos]
  rw[List.eraseIdx_toArray]
  congr 1
  rw[List.eraseIdx_eq_take_drop_succ]
  have:items.drop (vs.length + 1)=[]:=List.drop_of_length_le (by exact Ar.r19 hlen)
  rw[this];simp)
 have hst':AV.stos vs=true:=by
  rw[stos_iff]at hst ⊢;intro u hu;exact hst u (List.mem_append_left _ hu)
 obtain⟨R3,S3⟩:=Jk (lk:=false) (tk:=s.toks) R hH hst' (by simp at hz;exact Ar.r59 hz) hg' Ck htk
 exact hQ _ _ R3 S3 (S3.val hsv hry)
theorem Rel.drop {H:AH}{G:Gh}{h h':Heap}{a:Addr}{o:AObj}(R:Rel C H G (own H G) h)(ha:H a=some o)(hk:∀ b ob,b ≠ a->b ∉ G a->(∃ x,H x ≠ none/\(b=x\/b ∈ G x))\/(∃ xs n,ob.data = .seq xs n)\/(∃ o0,C.h0.get? b=some o0)->h.get? b=some ob->h'.get? b=some ob) :
  Rel C (del H a) G (own (del H a) G) h':=by
 have hne:H a ≠ none:=by rw[ha];simp
 have un:∀ x,del H a x ≠ none->H x ≠ none/\x ≠ a:=fun x hx=>by
  unfold del at hx
  set_option tactic.hygienic true in split at hx
  ·exact absurd rfl hx
  ·rename_i q;exact⟨hx,q⟩
 have sub:∀ b,own (del H a) G b->own H G b:=fun b ⟨x,hx,hb⟩=>⟨x,(un x hx).1,hb⟩
 have off:∀ b,own (del H a) G b->b ≠ a/\b ∉ G a:=fun b ⟨x,hx,hb⟩ =>
  ⟨fun q=>R.dj x a b (un x hx).1 hne (un x hx).2 hb (.inl q),fun q=>R.dj x a b (un x hx).1 hne (un x hx).2 hb (.inr q)⟩
 refine⟨fun z0 x=>x,fun x o' hx=>?_,fun x hx=>R.nd x (un x hx).1,fun x y z hx hy=>R.dj x y z (un x hx).1 (un y hy).1,fun b o' e=>?_,fun b hb=>?_⟩
 ·have hx':=un x (by rw[hx];simp)
  have hxo:H x=some o':=by simpa [del,hx'.2]using hx
  refine(R.obj x o' hxo).mono (fun b ob xs n e hd hb=>⟨hk b ob (fun q=>hb (q ▸ ⟨a,hne,.inl rfl⟩)) (fun q=>hb ⟨a,hne,.inr q⟩) (.inr (.inl ⟨xs,n,hd⟩)) e,fun q=>hb (sub b q)⟩) fun b ob hb e=>?_
  have:=off b ⟨x,by rw[hx];simp,hb⟩
  exact hk b ob this.1 this.2 (.inl ⟨x,hx'.1,hb⟩) e
 ·have:=R.base b o' e
  exact⟨hk b o' (fun q=>this.2 (q ▸ ⟨a,hne,.inl rfl⟩)) (fun q=>this.2 ⟨a,hne,.inr q⟩) (.inr (.inr ⟨o',e⟩)) this.1,fun q=>this.2 (sub b q)⟩
 ·obtain⟨ob,e⟩:=R.live b (sub b hb)
  have:=off b hb
  obtain⟨x,hx,hb'⟩:=hb
  exact⟨ob,hk b ob this.1 this.2 (.inl ⟨x,(un x hx).1,hb'⟩) e⟩
end
end Mine
end
section
namespace Mine
theorem Yg:isSubtype (.type "StopIteration") (.type "BaseException")=pure true:=by rw[isSubtype_type];kernel_rfl
theorem cJ:isSubtype (.type ((Manifest.find? "StopIteration").elim "type" fun x=>x.metatype)) (.type "tuple")=pure false:=by
 have e:((Manifest.find? "StopIteration").elim "type" fun x=>x.metatype) = "type":=by rw[find?_eq_fast];kernel_rfl
 rw[e,isSubtype_type];kernel_rfl
theorem Xc (l:List AV)(x:AV):Gm (l++[x]) (-1)=some x:=by
 unfold Gm
 rw[seqIndex_neg (by decide) (by simp;lia)]
 have:(-1 + ((l++[x]).length:Int)).toNat=l.length:=by simp;lia
 simp only [Option.bind_some,this]
 simp
section
variable {C:Cx} {k:Nat} {sc:Sc} {f f':PF}
inductive TryN (iS iD:Nat) (aI:Addr) (itl:List AV) (n:Addr) (Q:AFlow->Rho->AH->Prop) (ρ:Rho) (H:AH):Prop
 | mk (aS aD:Addr) (stl:List AV) (x:Int) (es:List (Int × AV)) (h1:ρ iS = .ref aS) (h2:ρ iD = .ref aD) (h3:H aS=some (.f (.lst false (stl++[.int x])))) (h4:H aD=some (.f (.dic false es))) (h5:(es.lookup x).isSome=true) (h6:es.length<=lim) (h7:aS ≠ aI)
   (hq:Q .next ρ (upd (upd (upd (del H n) aS (.f (.lst false stl))) aD (.f (.dic false (es.filter fun p=>decide (p.1 ≠ x))))) aI (.f (.lst false itl))))
inductive TryP (iI iS iD iN:Nat) (Q:AFlow->Rho->AH->Prop) (ρ:Rho) (H:AH):Prop
 | mk (aI:Addr) (itl:List AV) (n src:Addr) (pos:Nat) (lk:Bool) (vs:List AV) (h1:ρ iI = .ref aI) (h2:H aI=some (.f (.lst false (itl++[.ref n])))) (h3:H n=some (.f (.nxt src pos))) (h4:H src=some (.f (.lst lk vs)))
   (h5:(∃ v,vs[pos]? = some v/\Q .brk (ρ.set iN v) (upd H n (.f (.nxt src (pos + 1)))))\/(vs[pos]? = none/\TryN iS iD aI itl n Q ρ H))
noncomputable def Rz (iI iS iD iN:Nat):Wp AFlow:=TryP iI iS iD iN
theorem StmtR.tryNext {itn stn dn nn xn:Str} {iI iS iD iN:Nat} {j:Nat} {pn pi p1 p2 p3 pc pa pb px pd ps pap pcp psu pdel pi2 pap2 pcp2 pe ph pos:Pos} (hI:(itn,iI) ∈ sc.vars) (hS:(stn,iS) ∈ sc.vars) (hD:(dn,iD) ∈ sc.vars) (hN:(nn,iN) ∈ sc.vars) (hX:xn ∈ sc.globs) (hm:C.mg xn=Option.none) (hb:C.mb xn=some (.type "StopIteration")) (htop:sc.top=true)
  (hx1:(itn == ("__debug__":Str))=false:=by decide) (hx2:(itn == ("__classdict__":Str))=false:=by decide) (hx3:(stn == ("__debug__":Str))=false:=by decide) (hx4:(stn == ("__classdict__":Str))=false:=by decide)
  (hx5:(dn == ("__debug__":Str))=false:=by decide) (hx6:(dn == ("__classdict__":Str))=false:=by decide) (hx7:(xn == ("__debug__":Str))=false:=by decide) (hl1:(pap.endLine == pcp.line)=true:=by rfl) (hl2:(pap2.endLine == pcp2.line)=true:=by rfl)
  (hsw:∀ env,swapsWith (.Call (.Subscript (.Name itn pi) (.UnaryOp .USub (.Constant (.int 1) j p1) p2) p3) [] [] pc) (some (.Name nn pn)) pa.line env=pure false:=by intro _;rfl)
  (hsw2:∀ env,swapsWith (.Call (.Attribute (.Name itn pi2) "pop" pap2) [] [] pcp2) none pe.line env=pure false:=by intro _;rfl) :
  StmtR C k sc (.Try [.Assign [.Name nn pn] (.Call (.Subscript (.Name itn pi) (.UnaryOp .USub (.Constant (.int 1) j p1) p2) p3) [] [] pc) pa,.Break pb]
   [.ExceptHandler (some (.Name xn px)) none [.Delete [.Subscript (.Name dn pd) (.Call (.Attribute (.Name stn ps) "pop" pap) [] [] pcp) psu] pdel,.Expr (.Call (.Attribute (.Name itn pi2) "pop" pap2) [] [] pcp2) pe] ph] [] [] pos) (Rz iI iS iD iN):=by
 rintro A env s ρ H G Q hA F hs R ⟨aI,itl,n,src,q0,lk,vs,hρI,hHI,hHn,hHs,hT⟩
 have hsub:PureE C k sc (.Subscript (.Name itn pi) (.UnaryOp .USub (.Constant (.int 1) j p1) p2) p3) _:=PureE.sub (PureE.var hI hx1 hx2) (PureE.neg PureE.int)
 refine wpAny_Try_except (wpAny_execs_cons (wpAny_Assign_Name ?_ (hsw env)))
 refine(?_:wpAny _ _ (eval (.Subscript (.Name itn pi) (.UnaryOp .USub (.Constant (.int 1) j p1) p2) p3) env >>= fun f=>callWith pc f [] (backTo pc (starEach [] env)) (backToKw pc (keywordEach [] env))) _ _ _)
 refine fB fun Q' E' hQ' hE'=>?_
 have hval:opP idx (vP iI) (fun ρ H=>match cP (.int 1) ρ H with | some (.int a)=>some (.int (-a)) | _=>Option.none) ρ H=some (.ref n):=by
  have e1:vP iI ρ H=some (.ref aI):=by simp[vP,hρI]
  simp only [opP,e1,cP]
  simp only [Qs,hHI]
  exact Xc _ _
 refine wpAny_bind (wpAny_mono (hsub A env s ρ H G _ (.ref n) hA F R hval) (fun fx s1 hs1=>?_) fun z0 z0 x=>x.elim)
 have k1:=hs1.2
 have rx:fx = .ref n:=hs1.1
 rw[rx]
 have R1:=R.keep k1.k
 have F1:=F.keep k1.k
 obtain⟨it,hGn,hnx,hit⟩:=R1.obj n _ hHn
 obtain⟨_,hstv,hz,m,items,hg,hr⟩:=R1.obj src _ hHs
 have hne:H n ≠ none:=by rw[hHn];simp
 have hnit:n ≠ it:=by
  have:=R1.nd n hne
  rw[hGn]at this
  simp at this
  exact this
 refine Rk hnx (bR hnx ?_)
 refine Ag fun PP hP=>?_
 rcases hT with ⟨v,hv,hq⟩ | ⟨hend,aS,aD,stl,x,es,hρS,hρD,hHS,hHD,hlk,hzl,hSI,hq⟩
 ·obtain⟨y,hy,hry⟩:=hr.get hv
  have hsv:v.sto=true:=Bk hstv (List.mem_of_getElem? hv)
  refine hP (Wv hit hg hy fun h' hit' hsb=>⟨y,rfl,hQ' _ _ ?_⟩)
  have hk:∀ b ob,b ≠ n->b ∉ G n->s1.heap.get? b=some ob->h'.get? b=some ob:=fun b ob z0 hb e=>hsb.extBut b ob (fun q=>hb (by rw[hGn,q];simp)) e
  have hn':h'.get? n=some (Ik it):=hsb.extBut n _ hnit hnx
  have R2:Rel C (upd H n (.f (.nxt src (q0 + 1)))) G (own (upd H n (.f (.nxt src (q0 + 1)))) G) h':=R1.change hHn hk ⟨it,hGn,hn',hit'⟩ (fun b hb=>by
   rw[hGn]at hb
   clear F F1 R R1 hA hD hE' hGn hHI hHn hHs hI hN hP hQ' hS hX hg hit hk hl1 hl2 hm hne hnit hnx hq hr hry hs hs1 hsb hstv hsub hsv hsw hsw2 htop hv hval hx1 hx2 hx3 hx4 hx5 hx6 hx7 hy hz hρI k1 left rx;rcases hb with rfl | hb
   ·exact⟨_,hn'⟩
   ·simp at hb;subst hb;obtain⟨o,ho,_⟩:=hit';exact⟨o,ho⟩)
  have S2:Step (fun z0=>False) H G s1 (upd H n (.f (.nxt src (q0 + 1)))) G { s1 with heap:=h',toks:=s1.toks }:=.turn R1 hHn rfl hk
  have F2:=S2.wf F1 hs
  have ry2:=S2.val hsv hry
  refine Bz F2 hN ry2 fun s3 F3 fs z0=>?_
  have fs':=fs.mono fun z0=>Bp
  refine wpAny_execs_cons (wpAny_Break ?_)
  exact⟨.brk,_,_,G,hq,trivial,F3,hs.set hsv,Rel.fs R2 F2 fs',((Step.kp R k1).trans (S2.frm F1)).trans (.fs F2 R2 fs')⟩
 ·have hx0:items[q0]? = none:=by
   rw[List.getElem?_eq_none_iff]at hend ⊢
   rw[hr.length];exact hend
  refine hP (Zj (by exact hA.1) hit hg hx0 fun h' e hN'=>hE' _ _ ?_)
  refine fB fun Q2 E2 hQ2 hE2=>?_
  obtain⟨hkN,hlN,hnewN,oe,evs,heN,hecl,hed,he1⟩:=hN'
  obtain⟨hfL,outer,hfr⟩:=F.top htop
  -- the frames
  have hfrs:∀ b,b ∈ (env :: outer).filterMap (·.frame)->¬ own H G b/\C.h0.get? b=none/\∃ o es ep,s.heap.get? b=some o/\o.data = .dict es ep:=fun b hb=>by
   obtain⟨l,el,f1,f2⟩:=F.frs
   rw[hfr]at el;clear F F1 R R1 hA hD hE' hE2 hGn hHD hHI hHS hHn hHs hI hN hP hQ' hQ2 hS hSI hX he1 heN hecl hed hend hfL hfr hg hit hkN hl1 hl2 hlN hlk hm hne hnewN hnit hnx hq hr hs hs1 hstv hsub hsw hsw2 htop hval hx0 hx1 hx2 hx3 hx4 hx5 hx6 hx7 hz hzl hρD hρI hρS k1 left rx;obtain rfl:=Option.some.inj el
   exact⟨(f2 b hb).1,(f1.mem hb).1,(f2 b hb).2⟩
  have hitf:it ∉ (env :: outer).filterMap (·.frame):=fun hb=>by
   exact(hfrs it hb).1 ⟨n,hne,.inr (by rw[hGn];simp)⟩
  obtain⟨oi,hoi,_,hdi⟩:=hit
  have hff:h'.FunFrames C.h0 (env :: outer):=by
   obtain⟨l,el,f1⟩:=F1.frs
   rw[hfr]at el;clear F F1 R R1 hA hD hE' hE2 hGn hHD hHI hHS hHn hHs hI hN hP hQ' hQ2 hS hSI hX hdi he1 heN hecl hed hend hfL hfr hfrs hg hl1 hl2 hlN hlk hm hne hnewN hnit hnx hoi hq hr hs hs1 hstv hsub hsw hsw2 htop hval hx0 hx1 hx2 hx3 hx4 hx5 hx6 hx7 hz hzl hρD hρI hρS k1 left left_1 rx;obtain rfl:=Option.some.inj el
   refine(f1.mono' (O':=own H G) (h':=h') fun b hb o es ep eb hd hO=>⟨⟨o,es,ep,hkN b o (fun q=>by rw[q]at hb;exact hitf hb) eb,hd⟩,hO⟩).1
  refine cS (base:=C.h0) hfr hff hfL heN hed he1 fun h3 T oT ts oe' k3 k3' hTn hT3 hTd hTs he3 hec3 hed3=>hQ2 _ _ ?_
  have hev:(evs.setIfInBounds 1 (Value.ref T))[1]? = some (.ref T):=by
   have:1 < evs.size:=(Array.getElem?_eq_some_iff.mp he1).1
   simp[this]
  have heT:e ≠ T:=fun q=>by rw[<- q]at hTn;rw[hTn]at heN;exact nqa heN
  refine wpAny_setFlight_none he3 hed3 hev hT3 hTd hTs ?_
  have hT4:=Heap.get?_update_self (Obj.mapFields (·.setIfInBounds 3 Value.none)) hT3 (Obj.isFreed_of_fields (Obj.data_mapFields hTd (·.setIfInBounds 3 Value.none)))
  have he4:(h3.update T (Obj.mapFields (·.setIfInBounds 3 Value.none))).get? e=some oe':=by rw[Heap.get?_update_other _ _ (Ne.symm heT)];exact he3
  have hTd4:=Obj.data_mapFields hTd (·.setIfInBounds 3 Value.none)
  have hT5:=Heap.get?_update_self (Obj.mapFields (·.setIfInBounds 3 Value.none)) hT4 (Obj.isFreed_of_fields (Obj.data_mapFields hTd4 (·.setIfInBounds 3 Value.none)))
  -- the heap behind it all
  have eN:∀ b o,s.heap.get? b=some o->b ≠ e:=fun b o eb q=>by
   have:=k1.k b o eb;rw[q,hnewN]at this;exact nqa this
  have TN:∀ b o,s.heap.get? b=some o->b ≠ it->b ≠ T:=fun b o eb hbi q=>by
   have:=hkN b o hbi (k1.k b o eb);rw[q,hTn]at this;exact nqa this
  let h5:=(h3.update T (Obj.mapFields (·.setIfInBounds 3 Value.none))).update T (Obj.mapFields (·.setIfInBounds 3 Value.none))
  have k5:∀ b o,b ≠ it->b ∉ (env :: outer).filterMap (·.frame)->s.heap.get? b=some o->h5.get? b=some o:=fun b o hbi hbf eb=>by
   have hbT:=TN b o eb hbi
   refine(?_:((h3.update T _).update T _).get? b=_)
   rw[Heap.get?_update_other _ _ (Ne.symm hbT),Heap.get?_update_other _ _ (Ne.symm hbT)]
   exact k3 b o (eN b o eb) hbf (hkN b o hbi (k1.k b o eb))
  have k5':∀ b o,b ≠ it->s.heap.get? b=some o->∃ sl,h5.get? b=some { o with slots:=sl }:=fun b o hbi eb=>by
   have hbT:=TN b o eb hbi
   obtain⟨sl,q⟩:=k3' b o (eN b o eb) (hkN b o hbi (k1.k b o eb))
   refine⟨sl,?_⟩
   refine(?_:((h3.update T _).update T _).get? b=_)
   rw[Heap.get?_update_other _ _ (Ne.symm hbT),Heap.get?_update_other _ _ (Ne.symm hbT)]
   exact q
  have hown_it:own H G it:=⟨n,hne,.inr (by rw[hGn];simp)⟩
  have R5:Rel C (del H n) G (own (del H n) G) h5:=by
   refine R.drop hHn fun b ob hbn hbg hor eb=>k5 b ob (fun q=>hbg (by rw[hGn,q];simp)) (fun hbf=>?_) eb
   obtain⟨q1,q2,o',es',ep',q3,q4⟩:=hfrs b hbf
   rcases hor with q | ⟨xs,n',q⟩ | ⟨o0,q⟩
   ·exact q1 q
   ·rw[eb]at q3;cases q3;rw[q]at q4;cases q4
   ·rw[q2]at q;exact nqa q
  have sub5:∀ b,own (del H n) G b->own H G b:=fun b ⟨z,hz,hb⟩=>by
   refine⟨z,?_,hb⟩
   unfold del at hz
   split at hz
   ·exact absurd rfl hz
   ·exact hz
  have S5:∀ tk,Step (fun z0=>False) H G s (del H n) G { s with heap:=h5,toks:=tk }:=fun tk=>by
   refine⟨⟨h5,tk,rfl⟩,fun b o hb z0 eb=>?_,fun z0 z0 z=>z.elim,fun b hb=>.inl (sub5 b hb),fun a oa ea la=>?_⟩
   ·have hbi:b ≠ it:=fun q=>hb (q ▸ hown_it)
    by_cases hbf:b ∈ (env :: outer).filterMap (·.frame)
    ·obtain⟨_,_,o',es',ep',q3,q4⟩:=hfrs b hbf
     rw[eb]at q3;clear F F1 R R1 R5 TN eN hA hD hE' hE2 hGn hHD hHI hHS hHn hHs hI hN hP hQ' hQ2 hS hSI hT3 hT4 hT5 hTd hTd4 hTn hTs hX hb hbf hdi he1 he3 he4 heN heT hec3 hecl hed hed3 hend hev hfL hff hfr hfrs hg hitf hkN hl1 hl2 hlN hlk hm hne hnewN hnit hnx hoi hown_it hq hr hs hs1 hstv hsub hsw hsw2 htop hval hx0 hx1 hx2 hx3 hx4 hx5 hx6 hx7 hz hzl hρD hρI hρS k1 k3 k3' k5 left left_1 left_2 left_3 rx sub5 z0;obtain rfl:=Option.some.inj q3
     obtain⟨sl,q⟩:=k5' b o hbi eb
     exact⟨_,q,.inr ⟨⟨es',ep',q4⟩,sl,rfl⟩⟩
    ·exact⟨o,k5 b o hbi hbf eb,.refl o⟩
   ·have han:a ≠ n:=fun qq=>by first | (rw[<- qq,hHn]at ea;obtain rfl:=fI ea;exact nqd la) | (rw[qq,hHn]at ea;clear F F1 R1 R5 TN eN hA hD hE' hE2 hHD hHI hHS hHn hHs hI hN hP hQ' hQ2 hS hSI hT3 hT4 hT5 hTd hTd4 hTn hTs hX hdi he1 he3 he4 heN heT hec3 hecl hed hed3 hend hev hfL hff hfr hg hitf hkN hl1 hl2 hlN hlk hm hnewN hnit hnx hoi hown_it hq hr hs hs1 hstv hsub hsw hsw2 htop hval hx0 hx1 hx2 hx3 hx4 hx5 hx6 hx7 hz hzl hρD hρI hρS k1 k3 k3' k5' left left_1 qq rx sub5;obtain rfl:=fI ea;exact nqd la)
    refine⟨by simpa [del,han]using ea,rfl,fun b hb=>?_⟩
    have hane:H a ≠ none:=by rw[ea];simp
    obtain⟨ob,eb⟩:=R.live b ⟨a,hane,hb⟩
    refine(?_:h5.get? b=_)
    rw[eb]
    refine k5 b ob (fun q=>?_) (fun hbf=>(hfrs b hbf).1 ⟨a,hane,hb⟩) eb
    exact R.dj a n b hane hne han hb (.inr (by rw[q,hGn];simp))
  have sm:∃ tk,({ s1 with heap:=h5 }:Shared)={ s with heap:=h5,toks:=tk }:=by
   obtain⟨hh,tt,e1⟩:=k1.same;exact⟨tt,by rw[e1]⟩
  obtain⟨tk,sm⟩:=sm
  have S5':Step (fun z0=>False) H G s (del H n) G { s1 with heap:=h5 }:=by rw[sm];exact S5 tk
  have R5':Rel C (del H n) G (own (del H n) G) ({ s1 with heap:=h5 }:Shared).heap:=R5
  have F5:=S5'.wf F hs
  -- the handler
  have he5:(⟨{ s1 with heap:=h3.update T (Obj.mapFields (·.setIfInBounds 3 Value.none)) }.heap,s1.gens,s1.drawn,s1.toks,s1.os⟩:Shared).TypeIs (.ref e) "StopIteration":=⟨oe',he4,by rw[hec3,hecl]⟩
  have R4:∀ b o,C.h0.get? b=some o->(h3.update T (Obj.mapFields (·.setIfInBounds 3 Value.none))).get? b=some o:=fun b o eb=>by
   have q:=(R.base b o eb)
   have hbi:b ≠ it:=fun z=>q.2 (z ▸ hown_it)
   rw[Heap.get?_update_other _ _ (Ne.symm (TN b o q.1 hbi))]
   exact k3 b o (eN b o q.1) (fun hbf=>by rw[(hfrs b hbf).2.1]at eb;exact nqa eb) (hkN b o hbi (k1.k b o q.1))
  have n1:(h3.update T (Obj.mapFields (·.setIfInBounds 3 Value.none))).Ns env.globals C.mg:=F.glob ▸ C.ns.keeps R4
  have n2:(h3.update T (Obj.mapFields (·.setIfInBounds 3 Value.none))).Ns env.builtins C.mb:=F.bui ▸ C.nb.keeps R4
  refine wpAny_handleBy_builtin (X:="StopIteration") (T:="StopIteration") (b:=true) Yg cJ isSubtype_stop (wpAny_Name (Od F.kind (F.gl xn hX) n1 n2 (.inr ⟨hm,hb⟩) ⟨rfl,he5,?_⟩) hx7)
  simp only [if_true]
  refine wpAny_setFlight_none he4 hed3 hev hT4 hTd4 (by simpa using hTs) ?_
  -- its body
  have hnS:n ≠ aS:=by first | exact Aj hHn hHS rfl | exact Aj hHS hHn rfl
  have hnD:n ≠ aD:=by first | exact Aj hHn hHD rfl | exact Aj hHD hHn rfl
  have hnI:n ≠ aI:=by first | exact Aj hHn hHI rfl | exact Aj hHI hHn rfl
  have hSD:aS ≠ aD:=by first | exact Aj hHS hHD rfl | exact Aj hHD hHS rfl
  have hID:aI ≠ aD:=by first | exact Aj hHI hHD rfl | exact Aj hHD hHI rfl
  have d1:(del H n) aS=some (.f (.lst false (stl++[.int x]))):=by simp[del,Ne.symm hnS,hHS]
  have d2:(upd (del H n) aS (.f (.lst false stl))) aD=some (.f (.dic false es)):=by rw[Ab (Ne.symm hSD)];simp[del,Ne.symm hnD,hHD]
  have d3:(upd (upd (del H n) aS (.f (.lst false stl))) aD (.f (.dic false (es.filter fun p=>decide (p.1 ≠ x))))) aI=some (.f (.lst false (itl++[.ref n]))):=by
   rw[Ab hID,Ab (Ne.symm hSI)];simp[del,Ne.symm hnI,hHI]
  refine wpAny_execs_cons (wpAny_Delete (wpAny_deleteEach_cons (delete_Subscript (wpAny_Name (Pj (F5.mark _) hD hρD (by simp) (fun y hy=>?_) hx6) hx5))))
  refine Uh (F5.mark _) R5' hS hρS d1 rfl (fun z s6 R6 S6 rz=>?_) hx3 hx4 hl1
  have F6:=S6.wf F5 hs
  have ry6:VRel s6.heap (own (upd (del H n) aS (.f (.lst false stl))) G) G (.ref aD) y:=S6.val rfl hy
  refine wpAny_mono (eD R6 ry6 rz (H':=upd (upd (del H n) aS (.f (.lst false stl))) aD (.f (.dic false (es.filter fun p=>decide (p.1 ≠ x))))) (by simp only [Ng,jG,d2];rw[if_pos ⟨hlk,hzl⟩]) (Q:=fun z0 s7=>∃ G7,Rel C (upd (upd (del H n) aS (.f (.lst false stl))) aD (.f (.dic false (es.filter fun p=>decide (p.1 ≠ x))))) G7 (own (upd (upd (del H n) aS (.f (.lst false stl))) aD (.f (.dic false (es.filter fun p=>decide (p.1 ≠ x))))) G7) s7.heap/\Step (fun z0=>False) (upd (del H n) aS (.f (.lst false stl))) G s6 (upd (upd (del H n) aS (.f (.lst false stl))) aD (.f (.dic false (es.filter fun p=>decide (p.1 ≠ x))))) G7 s7) fun s7 G7 R7 S7=>⟨G7,R7,S7⟩) (fun z0 s7 hs7=>?_) fun z0 z0 x=>x.elim
  obtain⟨G7,R7,S7⟩:=hs7
  have F7:=S7.wf F6 hs
  refine wpAny_deleteEach_nil ?_
  refine wpAny_execs_cons (wpAny_Expr_any (Uh (F7.mark _) R7 hI hρI d3 rfl (fun z s8 R8 S8 rz=>?_) hx1 hx2 hl2) (by simp[interactive,F.kind]) (hsw2 env))
  refine wpAny_execs_nil ?_
  have F8:=S8.wf F7 hs
  exact⟨.next,ρ,_,G7,hq,trivial,F8,hs,R8,(((S5'.trans S6).trans S7).trans S8).frm F⟩
end
end Mine
end
section
namespace Mine
end Mine
end
section
namespace Mine
section
variable {C:Cx} {k:Nat} {sc:Sc} {f f':PF} {K:Frag} {ts ni:Addr}
noncomputable def negP (f:PF):PF:=fun ρ H=>match f ρ H with
 | some (.int a)=>some (.int (-a))
 | _=>none
theorem PureE.negP {x:Expr}{pos:Pos}(h:PureE C k sc x f):PureE C k sc (.UnaryOp .USub x pos) (Mine.negP f):=PureE.neg h
noncomputable def ifP (c:CF) (f f':PF):PF:=fun ρ H=>match c ρ H with
 | some true=>f ρ H
 | some false=>f' ρ H
 | _=>none
theorem PureE.ifP {t b o:Expr}{pos:Pos}{c:CF}(ht:TestE C k sc t c)(hb:PureE C k sc b f)(ho:PureE C k sc o f'):PureE C k sc (.IfExp t b o pos) (Mine.ifP c f f'):=PureE.ifExp ht hb ho
noncomputable def neG (H:AH) (u v:AV):Option Bool:=(eqV H u v).map (!·)
theorem CmpR.neG:CmpR C k .NotEq Mine.neG:=CmpR.ne
noncomputable def isG (H:AH) (u v:AV):Option Bool:=match v with
 | .none=>isN u
 | _=>none
noncomputable def isNotG (H:AH) (u v:AV):Option Bool:=match v with
 | .none=>(isN u).map (!·)
 | _=>none
theorem CmpR.isG:CmpR C k .Is Mine.isG:=CmpR.is
theorem CmpR.isNotG:CmpR C k .IsNot Mine.isNotG:=CmpR.isNot
noncomputable def gtG:AH->AV->AV->Option Bool:=dO fun a b=>decide (b < a)
theorem CmpR.gtG:CmpR C k .Gt Mine.gtG:=CmpR.gtI
theorem PureE.getA {o:Expr}{name:Str}{pos:Pos}{ga:AH->AV->Option AV}(hga:GetAR C k name ga)(ho:PureE C k sc o f)(hbase:∀ env,attributeBase o name env (eval o env)=eval o env:=by intro _;rfl):PureE C k sc (.Attribute o name pos) (Au ga f):=by
 intro A env s ρ H G O r hA F R hr
 obtain⟨v,hv,hg⟩:=Xe hr
 rw[arm_eval_Attribute,hbase env]
 refine wpAny_bind (wpAny_mono (ho A env s ρ H G O v hA F R hv) (fun x s1 h1=>?_) fun z0 z0 x=>x)
 obtain⟨rx,k1⟩:=h1
 have R1:=R.keep k1.k
 refine wpAny_bind (wpAny_standAt (wpAny_bind (wpAny_holding (hga A s1 H G O v r x true _ hA R1 rx hg fun y hy=>?_))))
 exact wpAny_bind (wpAny_letTemporaryGo (wpAny_pure ⟨hy,k1.trans' .tok⟩))
noncomputable def gl (K:Frag) (x:Str):Option (Option Value):=(K.lookup 3).bind (lookIn x)
structure Env0 (C:Cx) (K:Frag) (ts ni:Addr):Prop where
 hK:K.In C.h0
 hts:C.tsC=ts
 hni:C.niC=ni
 hb:∀ x:Str,x ≠ "__name__"->C.mb x=bootBuiltins x
theorem Env0.glob (E:Env0 C K ts ni){x:Str}{v:Option Value}(h:gl K x=some v):C.mg x=v:=by
 unfold gl at h
 obtain⟨o,ho,h⟩:=Option.bind_eq_some_iff.mp h
 have h1:=E.hK 3 o ho
 obtain⟨od,hod,hl⟩:=Gw C.ns
 have:od=o:=by
  have e:C.h0.get? 3=some od:=hod
  rw[e]at h1;clear E e h hl ho hod;obtain rfl:=Option.some.inj h1;rfl
 clear E h1 ho hod;subst this
 rw[hl x]at h
 exact Option.some.inj h
theorem Env0.bi (E:Env0 C K ts ni) {x:Str} {v:Value} (h:bootBuiltins x=some v) (hx:(x == ("__name__":Str))=false:=by decide +kernel):C.mb x=some v:=by
 rw[E.hb x (fun e=>by rw[e]at hx;simp at hx)];exact h
noncomputable def Da (K:Frag) (a:Addr):Option FuncData:=match K.lookup a with
 | some o=>match o.data with
  | .func fd=>some fd
  | _=>none
 | none=>none
noncomputable def bN (K:Frag) (fd:FuncData):Bool:=match fd.code with
 | .ref c=>match K.lookup c with
  | some o=>match o.data with
   | .fields (vs:Array Value)=>match (vs[1]?:Option Value) with
    | some (.str q _)=>q == fd.qualname
    | _=>false
   | _=>false
  | none=>false
 | _=>false
noncomputable def Bb (K:Frag) (a:Addr):List Stmt:=match Da K a with
 | some fd=>match fd.body with
  | .stmts b=>b
  | _=>[]
 | none=>[]
noncomputable def Fj (K:Frag) (a:Addr):Scope:=match Da K a with
 | some fd=>fd.scope
 | none=>default
noncomputable def dW (K:Frag) (a:Addr):Bool:=match Da K a with
 | some fd=>bN K fd && (match fd.body with | .stmts _=>true | _=>false) && fd.closure.isEmpty && fd.globals == mainGlobals && fd.builtins == builtinsNs && !fd.scope.isCoroutine && !fd.scope.isGenerator
 | none=>false
theorem Gy {a:Addr}{fd:FuncData}(h:Da K a=some fd):∃ o,K.lookup a=some o/\o.data = .func fd:=by
 unfold Da at h
 generalize K.lookup a=w at h
 cases w with
 | none=>exact nqa h
 | some o =>
  dsimp only at h
  generalize hd:o.data=d at h
  refine⟨o,rfl,hd.trans ?_⟩
  clear hd;revert h
  cases d <;> first | exact nqa | exact fun h=>congrArg _ (Option.some.inj h)
structure FnIs (C:Cx) (K:Frag) (a:Addr) (fd:FuncData) (o:Obj):Prop where
 ho:C.h0.get? a=some o
 hd:o.data = .func fd
 cr:C.h0.CodeRec fd.code fd.qualname
 bd:fd.body = .stmts (Bb K a)
 cl:fd.closure=[]
 gl:fd.globals=mainGlobals
 bi:fd.builtins=builtinsNs
 sc:Fj K a=fd.scope
 co:fd.scope.isCoroutine=false
 ge:fd.scope.isGenerator=false
theorem kP {a:Addr}{fd:FuncData}(E:Env0 C K ts ni)(hf:Da K a=some fd)(hok:dW K a=true):∃ o,FnIs C K a fd o:=by
 obtain⟨o,ho,hd⟩:=Gy hf
 simp only [dW,hf,Bool.and_eq_true]at hok
 obtain⟨⟨⟨⟨⟨⟨h1,h2⟩,h3⟩,h4⟩,h5⟩,h6⟩,h7⟩:=hok
 have hS:Fj K a=fd.scope:=by simp[Fj,hf]
 have hB:∃ bd,fd.body = .stmts bd/\Bb K a=bd:=by
  cases hbb:fd.body with
  | stmts bd=>exact⟨bd,rfl,by simp[Bb,hf,hbb]⟩
  | _=>rw[hbb]at h2;exact nqd h2
 obtain⟨bd,hb1,hb2⟩:=hB
 refine⟨o,E.hK a o ho,hd,?_,hb2 ▸ hb1,by simpa using h3,by simpa using h4,by simpa using h5,hS,by simpa using h6,by simpa using h7⟩
 unfold bN at h1
 revert h1
 generalize hc:fd.code=w
 set_option tactic.hygienic true in cases w <;> first | exact nqd | skip
 rename_i c
 dsimp only
 generalize hoc:K.lookup c=w
 cases w with
 | none=>exact nqd
 | some oc =>
  dsimp only
  generalize hv:oc.data=w
  set_option tactic.hygienic true in cases w <;> first | exact nqd | skip
  rename_i vs
  dsimp only
  generalize hq:vs[1]? = w
  cases w with
  | none=>exact nqd
  | some w =>
   set_option tactic.hygienic true in cases w <;> first | exact nqd | skip
   rename_i q t
   exact fun h1=>⟨c,oc,vs,t,rfl,E.hK c oc hoc,hv,by rw[hq];simpa using h1⟩
theorem CallR.fnK {a:Addr}{fd:FuncData}{params:List Str}{b:List AV->Option (List AV)}{T:Wp AFlow}(E:Env0 C K ts ni)(hf:Da K a=some fd)(hok:dW K a=true)(hsc:Vc (Fj K a) sc params=true)(hkind:(Fj K a).kind = .function)
  (hbind:BindR C fd params b) (hT:StmtsR C k sc (Bb K a) T):CallR C (k + 1) (.ref a) (Cc b T):=by
 obtain⟨o,h⟩:=kP E hf hok
 rw[h.sc]at hsc hkind
 exact CallR.fn h.ho h.hd h.cr h.bd h.cl h.gl h.bi (FnSc.of hkind hsc) hbind hT h.co h.ge
theorem Be {α:Type}{xs:List α}{n:Nat}(h:xs.length=n + 1):∃ x r,xs=x :: r/\r.length=n:=by
 cases xs with
 | nil=>exact Nat.noConfusion h
 | cons x r=>exact⟨x,r,rfl,Nat.succ.inj h⟩
noncomputable def BindE (fd:FuncData) (params:List Str):Prop:=∀ xs:List Value,xs.length=params.length->bindArgs fd ⟨xs,[]⟩=pure (params.zip xs)
theorem BindE.p1 {fd:FuncData}{p0:Str}(h:∀ x0:Value,bindArgs fd ⟨[x0],[]⟩=pure [(p0,x0)]):BindE fd [p0]:=fun xs hl=>by
 obtain⟨x0,r0,rfl,h0⟩:=Be hl
 clear hl;obtain rfl:=List.length_eq_zero_iff.mp h0
 exact h x0
theorem BindR.p1 {fd:FuncData}{p0:Str}(h:∀ x0:Value,bindArgs fd ⟨[x0],[]⟩=pure [(p0,x0)]):BindR C fd [p0] (Eb 1):=BindR.plain (BindE.p1 h)
theorem BindE.p2 {fd:FuncData}{p0 p1:Str}(h:∀ x0 x1:Value,bindArgs fd ⟨[x0,x1],[]⟩=pure [(p0,x0),(p1,x1)]):BindE fd [p0,p1]:=fun xs hl=>by
 obtain⟨x0,r0,rfl,h0⟩:=Be hl
 clear hl;obtain⟨x1,r1,rfl,h1⟩:=Be h0
 obtain rfl:=List.length_eq_zero_iff.mp h1
 exact h x0 x1
theorem BindR.p2 {fd:FuncData}{p0 p1:Str}(h:∀ x0 x1:Value,bindArgs fd ⟨[x0,x1],[]⟩=pure [(p0,x0),(p1,x1)]):BindR C fd [p0,p1] (Eb 2):=BindR.plain (BindE.p2 h)
theorem BindE.p4 {fd:FuncData}{p0 p1 p2 p3:Str}(h:∀ x0 x1 x2 x3:Value,bindArgs fd ⟨[x0,x1,x2,x3],[]⟩=pure [(p0,x0),(p1,x1),(p2,x2),(p3,x3)]):BindE fd [p0,p1,p2,p3]:=fun xs hl=>by
 obtain⟨x0,r0,rfl,h0⟩:=Be hl
 clear hl;obtain⟨x1,r1,rfl,h1⟩:=Be h0
 obtain⟨x2,r2,rfl,h2⟩:=Be h1
 obtain⟨x3,r3,rfl,h3⟩:=Be h2
 obtain rfl:=List.length_eq_zero_iff.mp h3
 exact h x0 x1 x2 x3
theorem BindE.p5 {fd:FuncData}{p0 p1 p2 p3 p4:Str}(h:∀ x0 x1 x2 x3 x4:Value,bindArgs fd ⟨[x0,x1,x2,x3,x4],[]⟩=pure [(p0,x0),(p1,x1),(p2,x2),(p3,x3),(p4,x4)]):BindE fd [p0,p1,p2,p3,p4]:=fun xs hl=>by
 obtain⟨x0,r0,rfl,h0⟩:=Be hl
 obtain⟨x1,r1,rfl,h1⟩:=Be h0
 obtain⟨x2,r2,rfl,h2⟩:=Be h1
 obtain⟨x3,r3,rfl,h3⟩:=Be h2
 obtain⟨x4,r4,rfl,h4⟩:=Be h3
 obtain rfl:=List.length_eq_zero_iff.mp h4
 exact h x0 x1 x2 x3 x4
theorem BindR.p5 {fd:FuncData}{p0 p1 p2 p3 p4:Str}(h:∀ x0 x1 x2 x3 x4:Value,bindArgs fd ⟨[x0,x1,x2,x3,x4],[]⟩=pure [(p0,x0),(p1,x1),(p2,x2),(p3,x3),(p4,x4)]):BindR C fd [p0,p1,p2,p3,p4] (Eb 5):=BindR.plain (BindE.p5 h)
end
end Mine
end
section
namespace Mine
theorem mm {α:Type}{l:List α}{x:α}(i:Nat)(h:l[i]? = some x):x ∈ l:=List.mem_of_getElem? h
section
variable {C:Cx} {k:Nat} {sc:Sc} {f f':PF} {K:Frag} {ts ni:Addr}
theorem AOk.le {k k':Nat}{A:Around}(h:AOk k' A)(hk:k<=k'):AOk k A:=by obtain⟨h1,h2,h3⟩:=h;exact⟨h1,by exact Ar.r97 hk h2,by exact Ar.r98 hk h3⟩
theorem CallR.le {k k':Nat}{g:Value}{W:FW}(h:CallR C k g W)(hk:k<=k'):CallR C k' g W:=fun A s H G vs xs Q hA=>h A s H G vs xs Q (hA.le hk)
theorem ImpE.callK {x:Str}{p pos:Pos}{args:List Expr}{fs:LF}{a:Addr}{W:FW}(E:Env0 C K ts ni)(hx:x ∈ sc.globs)(hm:C.mg x=some (.ref a))(hd:(Da K a).isSome=true)(hargs:ArgsF C k sc args fs)(hf:CallR C k (.ref a) W)
  (hdb:(x == ("__debug__":Str))=false:=by decide):ImpE C k sc (.Call (.Name x p) args [] pos) (Hm fs W):=by
 refine Ag fun PP ret=>?_
 obtain⟨fd,hfd⟩:=Option.isSome_iff_exists.mp hd
 obtain⟨o,ho,hod⟩:=Gy hfd
 refine ret ?_
 exact ImpE.call hx hm (E.hK a o ho) hod hargs hf hdb
noncomputable def Zd (p:Arguments) (as:List Str) (va:Option Str):Bool:=p.posonlyargs.isEmpty && (p.args.map (·.arg) == as) && (p.vararg.map (·.arg) == va) && p.kwonlyargs.isEmpty && p.kw_defaults.isEmpty && p.kwarg.isNone
theorem Zc {p:Arguments}{as:List Str}{va:Option Str}(h:Zd p as va=true):∃ l v,p={ posonlyargs:=[],args:=l,vararg:=v,kwonlyargs:=[],kw_defaults:=[],kwarg:=none,defaults:=p.defaults }/\l.map (·.arg)=as/\v.map (·.arg)=va:=by
 obtain⟨a,b,c,d,e,f,g⟩:=p
 simp only [Zd,Bool.and_eq_true,List.isEmpty_iff,beq_iff_eq,Option.isNone_iff_eq_none]at h
 obtain⟨⟨⟨⟨⟨h1,h2⟩,h3⟩,h4⟩,h5⟩,h6⟩:=h
 subst h1 h4 h5 h6
 exact⟨b,c,rfl,h2,h3⟩
theorem lM {l:List Arg}{a b:Str}(h:l.map (·.arg)=[a,b]):∃ x z,l=[x,z]/\x.arg=a/\z.arg=b:=by
 refine Ag fun PP ret=>?_
 obtain⟨x,r,rfl,h3⟩:=Be (n:=1) ((List.length_map (as:=l) (·.arg)).symm.trans (congrArg List.length h))
 obtain⟨z,r,rfl,h4⟩:=Be (n:=0) h3
 obtain rfl:=List.length_eq_zero_iff.mp h4
 refine ret ?_
 injection h with h1 h2
 injection h2 with h2 h3
 exact⟨x,z,rfl,h1,h2⟩
end
end Mine
end
section
namespace Mine
noncomputable def eH (t:Expr):Prop:=∃ elts k pos,t = .Tuple elts k pos
section
variable {C:Cx} {k:Nat} {sc:Sc} {f f':PF}
noncomputable def enA (vs:List AV):List AV:=List.zipWith (fun (i:Nat) (v:AV)=>AV.tup [.int (i:Int),v]) (List.range vs.length) vs
theorem bF {vs:List AV}{i:Nat}{v:AV}(h:vs[i]? = some v):(enA vs)[i]? = some (.tup [.int (i:Int),v]):=by
 unfold enA
 have hi:=(List.getElem?_eq_some_iff.mp h).1
 rw[List.getElem?_zipWith,h,List.getElem?_range hi]
theorem Ls {vs:List AV}:(enA vs).length=vs.length:=by unfold enA;rw[List.length_zipWith,List.length_range,Nat.min_self]
inductive EnP (items:List Value) (i:Nat) (v:Value) (h h':Heap):Prop
 | mk (T:Addr) (tk:Tok) (x:Value) (e:v = .ref T) (hx:items[i]? = some x) (hT:h.get? T=none) (hT':h'.get? T=some (Ho [.int (i:Int) tk,x] 0))
theorem Mt (h:Heap):h.get? h.objs.size=none:=by
 cases e:h.get? h.objs.size with
 | none=>rfl
 | some o=>exact absurd (Heap.lt_size e) (Nat.lt_irrefl _)
theorem dJ {A:Around}{s s1:Shared}{O:Addr->Prop}{G:Gh}{vs:List AV}{a:Addr}{n:Nat}{items:List Value}{Q:Value->Shared->Prop}(hh:A.handled=none)(k1:Kp s s1)(hg:s1.heap.get? a=some (Bu items n))(hr:VRels s1.heap O G vs items)
  (hQ:∀ s2 e fp wr P St,Kp s s2->ItQ C A eH s s2 O G (enA vs) e fp wr [a] P St->wpAny (model C.prog C.w) A (pyIter (.ref e)) Q (fun z0 z0=>False) s2) :
  wpAny (model C.prog C.w) A (call (.type "enumerate") [.ref a]) (fun x s2=>wpAny (model C.prog C.w) A (pyIter x) Q (fun z0 z0=>False) s2) (fun z0 z0=>False) s1:=by
 have hlt:=Heap.lt_size hg
 have hl:=hr.length
 refine call_enumerate_list (Am hg) fun h2 he hit hsz hk2=>?_
 have k2:Kp s { s1 with heap:=h2 }:=k1.trans' ⟨⟨_,_,rfl⟩,hk2⟩
 have hg2:=hk2 a _ hg
 have n1:∀ b,s1.heap.objs.size<=b->s.heap.get? b=none:=fun b hb=>by
  cases e:s.heap.get? b with
  | none=>rfl
  | some o=>exact absurd (Heap.lt_size (k1.k b o e)) (Nat.not_lt.mpr hb)
 generalize s1.heap.objs.size=it at he hit hsz n1 hlt
 have hei:it + 1 ≠ it:=Nat.succ_ne_self it
 have hae:a ≠ it + 1:=Nat.ne_of_lt (Nat.lt_succ_of_lt hlt)
 have hai:a ≠ it:=Nat.ne_of_lt hlt
 refine hQ _ (it + 1) [it + 1,it,a] [it + 1,it] (EnP items) (fun i h=>(∃ old,IsEnum h (it + 1) it (i:Int) old)/\h.IsListIter it a i/\h.IsList a items.toArray) k2 ⟨⟨?_,?_,?_,?_,?_⟩,⟨⟨_,he⟩,hit,Am hg2⟩,?_,?_,?_,?_,?_⟩
 ·intro b hb
  rcases List.mem_cons.mp hb with rfl | hb
  ·exact List.mem_cons_self
  ·rw[List.mem_singleton.mp hb];exact List.mem_cons_of_mem _ List.mem_cons_self
 ·rintro i h h' ⟨⟨old,x1⟩,x2,x3⟩ hk
  exact⟨⟨old,hk _ List.mem_cons_self _ x1⟩,x2.at fun o e=>hk _ (List.mem_cons_of_mem _ List.mem_cons_self) o e,x3.at fun o e=>hk _ (List.mem_cons_of_mem _ (List.mem_cons_of_mem _ List.mem_cons_self)) o e⟩
 ·rintro i t target Q' E ⟨elts,kk,pos,rfl⟩ hi ⟨⟨old,x1⟩,x2,x3⟩ h
  rw[Ls,<- hl]at hi
  have hx:items.toArray[i]? = some items[i]:=by simp[hi]
  refine wpAny_pyNext_enum_item x1 x2 x3 hx hei fun h3 y1 y2 y3 y4 y5=>h _ _ fun Q2 E2 hq=>?_
  have e1:=Heap.lt_size x1
  have e2:it < t.heap.objs.size:=Nat.lt_of_succ_lt e1
  refine wpAny_letOwnedTupleGo_enum y1 fun h4 z1 z2=>?_
  refine hq h4 _ (.mk _ _ _ rfl (List.getElem?_eq_getElem hi) (Mt _) ((z2.2 _ (Nat.ne_of_gt e1)).trans y3)) ⟨⟨_,z1⟩,y2.at fun o e=>(z2.2 it (Ne.symm hei)).trans e,(x3.at fun o e=>y5 a o hae hai e).at fun o e=>(z2.2 a hae).trans e⟩ fun b o hb e=>?_
  have hb1:b ≠ it + 1:=fun q=>hb (q ▸ List.mem_cons_self)
  have hb2:b ≠ it:=fun q=>hb (q ▸ List.mem_cons_of_mem _ List.mem_cons_self)
  exact(z2.2 b hb1).trans (y5 b o hb1 hb2 e)
 ·rintro t Q' E ⟨⟨old,x1⟩,x2,x3⟩ h
  refine wpAny_pyNext_enum_end hh x1 x2 x3 (by rw[Ls,<- hl];simp) fun h3 hx=>h h3 t.toks fun b o hb e=>hx b o (fun q=>hb (q ▸ List.mem_cons_of_mem _ List.mem_cons_self)) e
 ·rintro i t Q' E ⟨⟨old,x1⟩,x2,x3⟩ h
  exact wpAny_pyIter_enum x1 h
 ·intro b hb
  rcases List.mem_cons.mp hb with rfl | hb
  ·exact⟨n1 _ (Nat.le_succ _),_,he⟩
  ·rw[List.mem_singleton.mp hb]
   obtain⟨o,ho,_⟩:=hit
   exact⟨n1 _ (Nat.le_refl _),o,ho⟩
 ·rintro i h ⟨⟨old,x1⟩,⟨o,ho,_,hd⟩,_⟩ b hb
  rcases List.mem_cons.mp hb with rfl | hb
  ·exact⟨_,_,x1,rfl⟩
  ·rw[List.mem_singleton.mp hb];exact⟨o,_,ho,hd⟩
 ·intro b hb
  rcases List.mem_cons.mp hb with rfl | hb
  ·exact .inl List.mem_cons_self
  ·rcases List.mem_cons.mp hb with rfl | hb
   ·exact .inl (List.mem_cons_of_mem _ List.mem_cons_self)
   ·exact .inr hb
 ·intro b hb
  rw[List.mem_singleton.mp hb];exact⟨_,hg2⟩
 ·rintro i v h h' ⟨T,tk,x,rfl,hx,hT,hT'⟩
  have hi:=(List.getElem?_eq_some_iff.mp hx).1
  rw[hl]at hi
  obtain⟨y,hy,ry⟩:=hr.get (List.getElem?_eq_getElem hi)
  rw[hx]at hy
  obtain rfl:=Option.some.inj hy
  exact⟨_,bF (List.getElem?_eq_getElem hi),.pair T 0 _ _ (.int (i:Int)) _ rfl rfl hT hT' ⟨tk,rfl⟩ (ry.keep fun b o e=>hk2 b o e)⟩
noncomputable def enP (f:PF):LF:=fun ρ H=>match f ρ H with
 | some (.ref a)=>(Av H (.ref a)).map enA
 | _=>none
theorem IterE.enum {x:Str} {p pos:Pos} {e:Expr} (hx:x ∈ sc.globs) (hm:C.mg x=Option.none) (hb:C.mb x=some (.type "enumerate")) (he:PureE C k sc e f)
  (hs:∀ env,starEach [e] env=[(false,eval e env)]:=by intro _;rfl) (hns:Gr [e]:=by intro _;rfl) (hd:(x == ("__debug__":Str))=false:=by decide):IterE C k sc (.Call (.Name x p) [e] [] pos) (enP f) eH:=by
 intro A env s ρ H G O vs hA F R hv
 unfold enP at hv
 refine eW hv ?_;clear hv;intro a hf hv
 obtain⟨ws,hws,rfl⟩:=Option.map_eq_some_iff.mp hv
 have hne:H a ≠ none:=fun e=>by
  refine aF hws ?_;intro z1 z2 q;exact nqa (e.symm.trans q)
 refine wpAny_Call_NameR (wpAny_Name (Co F R hx (.inr ⟨hm,hb⟩) ?_) hd)
 refine PySem.callWith_type (Cn hns pos env) (Db (e:=e) (rest:=[]) (hs env) ?_)
 rw[hs env]
 refine Calls.spliced_cons (wpAny_mono (he A env s ρ H G O _ hA F R hf) (fun y s1 h1=>Calls.spliced_nil ?_) fun z0 z0 x=>x)
 obtain⟨ry,k1⟩:=h1
 obtain⟨a',n,items,e',hg,hr,hz⟩:=Ao (R.keep k1.k) ry hws
 simp only [vRr]at ry
 subst ry
 cases e'
 refine dJ hA.1 k1 hg hr fun s2 e fp wr P St k2 ok=>ok.W.self 0 _ _ _ ok.st ?_
 exact⟨k2,by rw[Ls];exact hz,e,fp,wr,[a],P,St,rfl,ok,fun b hb=>by rw[List.mem_singleton.mp hb];exact⟨.ref a,.inr (.inl ⟨hne,rfl⟩)⟩⟩
inductive ImP (C:Cx) (kvs:List (Int × Value)) (i:Nat) (v:Value) (h h':Heap):Prop
 | mk (T:Addr) (k:Int) (key x:Value) (e:v = .ref T) (hx:kvs[i]? = some (k,x)) (hk:(intKind C.prog C.w).is k key=true) (hT:h.get? T=none) (hT':h'.get? T=some (Ho [key,x] 0))
theorem Xf:entryFor table "dict_itemiterator.__iter__" = some Builtin.«dict_keyiterator.__iter__»:=entryFor_alias (id':="dict_keyiterator.__iter__") (by kernel_rfl) rfl (by decide +kernel) (by kernel_rfl)
noncomputable def imA (es:List (Int × AV)):List AV:=es.map fun p=>.tup [.int p.1,p.2]
theorem Zt {A:Around}{s s1:Shared}{O:Addr->Prop}{G:Gh}{es:List (Int × AV)}{xs:List Value}{a V:Addr}{Q:Value->Shared->Prop}(hh:A.handled=none)(k1:Kp s s1)(hV:s1.heap.IsItemsView V a)
  (hd:s1.heap.DictOf (intKind C.prog C.w) a ((es.map (·.1)).zip xs)) (hr:VRels s1.heap O G (es.map (·.2)) xs)
  (hQ:∀ s2 I fp wr P St,Kp s s2->ItQ C A eH s s2 O G (imA es) I fp wr [a] P St->Q (.ref I) s2):wpAny (model C.prog C.w) A (pyIter (.ref V)) Q (fun z0 z0=>False) s1:=by
 obtain⟨ep,hat⟩:=hd.dictAt
 have hlt:=hat.lt_size
 have hl:=hr.length
 rw[List.length_map]at hl
 have hlen:((es.map (·.1)).zip xs).length=es.length:=by rw[List.length_zip,List.length_map,hl,Nat.min_self]
 have hli:(imA es).length=es.length:=by unfold imA;rw[List.length_map]
 generalize hkv:(es.map (·.1)).zip xs=kvs at hat hd hlen
 refine wpAny_pyIter_items hV hat (hQ _ s1.heap.objs.size [s1.heap.objs.size,a] [s1.heap.objs.size] (ImP C kvs) (fun i h=>(∃ ok ov,IsItemIter h s1.heap.objs.size a i kvs.length ep ok ov)/\h.DictAt (intKind C.prog C.w) a kvs ep) (k1.trans' .push) ⟨⟨?_,?_,?_,?_,?_⟩,⟨⟨_,_,Heap.get?_push_size _ rfl⟩,hat.push _⟩,?_,?_,?_,?_,?_⟩)
 ·intro b hb;rw[List.mem_singleton.mp hb];exact List.mem_cons_self
 ·rintro i h h' ⟨⟨ok,ov,x1⟩,x2⟩ hk
  exact⟨⟨ok,ov,hk _ List.mem_cons_self _ x1⟩,x2.at fun o e=>hk _ (List.mem_cons_of_mem _ List.mem_cons_self) o e⟩
 ·rintro i t target Q' E ⟨elts,kk,pos,rfl⟩ hi ⟨⟨ok,ov,x1⟩,x2⟩ h
  rw[hli,<- hlen]at hi
  have hx:kvs[i]? = some ((kvs[i]).1,(kvs[i]).2):=List.getElem?_eq_getElem hi
  refine wpAny_pyNext_items_item x1 x2 hx fun key h3 y0 y1 y3 y4 y5=>h _ _ fun Q2 E2 hq=>?_
  have e1:=Heap.lt_size x1
  refine wpAny_letOwnedTupleGo_items y1 fun h4 z1 z2=>?_
  have hai:a ≠ s1.heap.objs.size:=Nat.ne_of_lt hlt
  refine hq h4 t.toks (.mk _ _ key _ rfl hx y0 (Mt _) ((z2.2 _ (Nat.ne_of_gt e1)).trans y3)) ⟨⟨_,_,z1⟩,(x2.at fun o e=>y5 a o hai e).at fun o e=>(z2.2 a hai).trans e⟩ fun b o hb e=>?_
  have hb1:b ≠ s1.heap.objs.size:=fun q=>hb (q ▸ List.mem_cons_self)
  exact(z2.2 b hb1).trans (y5 b o hb1 e)
 ·rintro t Q' E ⟨⟨ok,ov,x1⟩,x2⟩ h
  exact wpAny_pyNext_items_end hh x1 x2 (by rw[hli,<- hlen];exact List.getElem?_eq_none (Nat.le_refl _)) fun h3 hx=>h h3 t.toks fun b o hb e=>hx b o (fun q=>hb (q ▸ List.mem_cons_self)) e
 ·rintro i t Q' E ⟨⟨ok,ov,x1⟩,x2⟩ h
  have hT:t.TypeIs (.ref s1.heap.objs.size) "dict_itemiterator":=⟨_,x1,rfl⟩
  refine wpAny_pyIter_slot hT PySem.F.slot_dict_itemiterator_iter (wpAny_call_entry PySem.F.slot_dict_itemiterator_iter hT Xf ?_ (PySem.F.args_dict_itemiterator_iter_1 _))
  refine(?_:wpAny _ _ (ret (.ref s1.heap.objs.size)) _ _ t)
  exact wpAny_pure ⟨_,rfl,"dict_itemiterator",_,hT,PySem.F.slot_dict_itemiterator_next.lookup,h⟩
 ·intro b hb;rw[List.mem_singleton.mp hb];exact⟨Ds k1,_,Heap.get?_push_size _ rfl⟩
 ·rintro i h ⟨⟨ok,ov,x1⟩,_⟩ b hb
  rw[List.mem_singleton.mp hb];exact⟨_,_,x1,rfl⟩
 ·intro b hb
  rcases List.mem_cons.mp hb with rfl | hb
  ·exact .inl List.mem_cons_self
  ·exact .inr hb
 ·intro b hb
  rw[List.mem_singleton.mp hb];obtain⟨o,es,ho,_⟩:=hat;exact⟨_,Heap.get?_push_of_some _ ho⟩
 ·rintro i v h h' ⟨T,k,key,x,rfl,hx,hk,hT,hT'⟩
  rw[<- hkv]at hx
  obtain⟨h1,h2⟩:=List.getElem?_zip_eq_some.mp hx
  rw[List.getElem?_map]at h1
  obtain⟨p,hp,rfl⟩:=Option.map_eq_some_iff.mp h1
  obtain⟨t,rfl⟩:=Value.isInt_shape hk
  have h3:(es.map (·.2))[i]? = some p.2:=by rw[List.getElem?_map,hp];rfl
  obtain⟨y,hy,ry⟩:=hr.get h3
  rw[h2]at hy
  obtain rfl:=Option.some.inj hy
  exact⟨_,by unfold imA;rw[List.getElem?_map,hp];rfl,.pair T 0 _ _ (.int p.1) p.2 rfl rfl hT hT' ⟨t,rfl⟩ (ry.keep fun b o e=>Heap.get?_push_of_some _ e)⟩
noncomputable def kG (H:AH):AV->Option (List AV)
 | .ref a=>match H a with
  | some (.f (.dic true es))=>if es.length<=lim then some (imA es) else none
  | _=>none
 | _=>none
noncomputable def dF (f:PF):LF:=fun ρ H=>match f ρ H with
 | some v=>kG H v
 | none=>none
theorem IterS.items {o:Expr} {apos pos:Pos} (ho:PureE C k sc o f) (hbase:∀ env,attributeBase o "items" env (eval o env)=eval o env:=by intro _;rfl)
  (hline:(apos.endLine == pos.line)=true:=by rfl):IterS C k sc (.Call (.Attribute o "items" apos) [] [] pos) (dF f) eH:=by
 intro A env s ρ H G O vs hA F R hv
 unfold dF at hv
 refine Fo hv ?_;clear hv;intro v hf hv
 unfold kG at hv
 refine Sy hv ?_;clear hv;intro a q1 hv;subst q1
 refine fA hv ?_;clear hv;intro es hH hv
 refine Bj hv ?_;clear hv;intro hz hv
 obtain rfl:=Option.some.inj hv
 refine wpAny_Call_method (T:="dict") (id:="dict.items") (hbase env) rfl hline PySem.F.plainAttrs_dict PySem.F.slot_dict_items PySem.F.type_dict_items (wpAny_mono (ho A env s ρ H G O _ hA F R hf) (fun x s1 h1=>?_) fun z0 z0 x=>x)
 refine Ag fun PP ret=>?_
 obtain⟨rx,k1⟩:=h1
 simp only [vRr]at rx;clear hbase hf hline ho hv;subst rx
 have R1:=R.keep k1.k
 obtain⟨_,hsm,hst,xs,hd,hr⟩:=R1.obj a _ hH
 refine ret ?_
 refine⟨hd.typeIs,hd.mapOf.noDict,?_⟩
 refine(?_:wpAny _ _ (callWith pos (.builtin "dict.items") [.ref a] [] []) _ _ s1)
 refine method_meetsIn PySem.F.slot_dict_items PySem.F.entry_dict_items rfl (PySem.evalArgs_none ⟨rfl,hd.typeIs,PySem.F.args_dict_items_1 _,_,meets_dict_items (intKind C.prog C.w) a hsm,⟨_,hd⟩,?_⟩)
 have kk:Kp s { s1 with heap:=s1.heap.push { cls:=.type "dict_items",data:=.fields #[.ref a] } }:=k1.trans' .push
 exact Zt (s:=s) hA.1 kk ⟨_,Heap.get?_push_size _ rfl,rfl,rfl⟩ (hd.push _) (hr.keep fun z0 z0 e=>Heap.get?_push_of_some _ e) fun s2 I fp wr P St k2 ok =>
  ⟨k2,by unfold imA;rw[List.length_map];exact hz,I,fp,wr,[a],_,St,rfl,ok,fun b hb=>by rw[List.mem_singleton.mp hb];exact .inr ⟨_,_,hH,rfl,.inl rfl⟩⟩
end
end Mine
end
section
namespace Mine
section
variable {C:Cx} {K:Frag} {ts ni:Addr}
theorem BindR.dflt2 {fd:FuncData}{a1 a2:Arg}{t:Addr}{n:Nat}{dx:List Expr}(hp:fd.params={ posonlyargs:=[],args:=[a1,a2],vararg:=none,kwonlyargs:=[],kw_defaults:=[],kwarg:=none,defaults:=dx })(hd:fd.defaults = .ref t)(ht:C.h0.get? t=some (Ho [.none] n))(hne:a2.arg ≠ a1.arg):BindR C fd [a1.arg,a2.arg] (Eb 2):=by
 intro A s H G vs ws xs R hr hst hb
 unfold Eb at hb
 refine Bj hb ?_;clear hb;intro hl hb
 obtain rfl:=Option.some.inj hb
 obtain⟨x,r0,rfl,h0⟩:=Be (n:=1) (hr.length.trans hl)
 obtain⟨y,r1,rfl,h1⟩:=Be (n:=0) h0
 obtain rfl:=List.length_eq_zero_iff.mp h1
 have ht':=(R.base t _ ht).1
 have e2:(a2.arg == a1.arg)=false:=by simpa using hne
 have hs:∀ {Q:Option (Array Value)->Shared->Prop},Q (some #[.none]) s->wpAny (model C.prog C.w) A (seqItems? (.ref t)) Q (fun z0 z0=>False) s:=by
  intro Q hq
  unfold seqItems?
  exact wpAny_bind (wpAny_load ht' (wpAny_pure hq))
 refine wpAny_mono (Q:=fun binds s'=>binds=[(a1.arg,x),(a2.arg,y)]/\s' = s) (E:=fun z0 z0=>False) ?_ (fun binds s' hb=>?_) fun z0 z0 x=>x
 ·unfold bindArgs
  simp[hp,hd]
  refine wpAny_bind (hs ?_)
  simp[List.lookup_cons,e2]
  exact wpAny_pure ⟨rfl,rfl⟩
 ·obtain⟨rfl,rfl⟩:=hb
  exact⟨[x,y],rfl,hl,hr,hst,.refl' _⟩
theorem BindR.dflt2K {fd:FuncData}{a b:Str}{t:Addr}{n:Nat}(E:Env0 C K ts ni)(h:Zd fd.params [a,b] none=true)(h2:fd.defaults = .ref t)(h3:K.lookup t=some (Ho [.none] n))(hne:(b == a)=false):BindR C fd [a,b] (Eb 2):=by
 obtain⟨l,w,e,hl,hw⟩:=Zc h
 clear h;obtain rfl:=Option.map_eq_none_iff.mp hw
 obtain⟨x,z,rfl,hl1,hl2⟩:=lM hl
 cases hl1;cases hl2
 exact BindR.dflt2 e h2 (E.hK t _ h3) (by simpa using hne)
end
end Mine
end
section
namespace Mine
noncomputable def Si:Sc:={ vars:=[("self",0),("node",1)],cel:=[],globs:=[],top:=true }
noncomputable def Kf (C:Cx):Wp AFlow :=
 (Ad (Fu (He C 0) (Aq (vP 1)) (vP 0)) (Ad (Fu (He C 1) (Aq (cP (.int 0))) (vP 0)) (Ad (Fu (He C 2) (Ch (Ce Ak)) (vP 0)) Ai)))
noncomputable def Hc (C:Cx):FW:=Cc (Eb 2) (Kf C)
noncomputable def En (C:Cx):FW:=iJ (.slots C.niC []) (Hc C)
noncomputable def Hq:Sc:={ vars:=[("self",0),("node",1),("result",2)],cel:=[],globs:=["_NodeInfo"],top:=true }
noncomputable def Cj (C:Cx):Wp AFlow :=
 (Ad (ifT (gF 2 (opP La (Au (attrD C "_node2info") (vP 0)) (vP 1))) (Ad (bG (Hm (Aa (vP 1) Ak) (En C)) (Au (attrD C "_node2info") (vP 0)) (vP 1) 2) Ai) Ai) (Ad (Lg (Aq (vP 2))) Ai))
noncomputable def Ap (C:Cx):FW:=Cc (Eb 2) (Cj C)
noncomputable def Wd:Sc:={ vars:=[("self",0),("node",1),("predecessors",2),("nodeinfo",3),("pred",4),("pred_info",5)],cel:=[],globs:=["len"],top:=true }
noncomputable def Nm (C:Cx):Wp AFlow :=
 (Ad (ifT (Bg (Aw isNotG (Au (attrD C "_ready_nodes") (vP 0)) (cP .none))) noT Ai) (Ad (Bh 3 (Eu C "_get_nodeinfo" (vP 0) (Aa (vP 1) Ak) (Ap C))) (Ad (Jc (attrS C 1) (He C 1) (vP 3) (bP' Er (Aa (vP 2) Ak)) (iop Es)) (Ad (Ja (Hf (vP 2)) (.one 4) (Ad (Bh 5 (Eu C "_get_nodeinfo" (vP 0) (Aa (vP 4) Ak) (Ap C))) (Ad (Bm (Kd (Au (attrS C 2) (vP 5)) (vP 1))) Ai))) Ai))))
noncomputable def Jd (C:Cx):FW:=Cc (Lb 2) (Nm C)
noncomputable def Jq:Sc:={ vars:=[("self",0),("n2i",1),("stack",2),("itstack",3),("seen",4),("node2stacki",5),("node",6)],cel:=[],globs:=["set","iter","len","StopIteration"],top:=true }
noncomputable def Eg (C:Cx):Wp AFlow :=
 (Ad (Bh 1 (Aq (Au (attrD C "_node2info") (vP 0)))) (Ad (Bh 2 (Ch (Ce Ak))) (Ad (Bh 3 (Ch (Ce Ak))) (Ad (Bh 4 (Ch set0)) (Ad (Bh 5 (Ch eC)) (Ad (Mq (Ja (dC (vP 1)) (.one 6) (Ad (ifT (Bg (Aw inV (vP 6) (vP 4))) (Ad fY Ai) Ai) (Ad (Fd (Bg (Hy (cP (.bool true)))) (Ad (ifT (Bg (Aw inV (vP 6) (vP 4))) (Ad (ifT (Bg (Aw inV (vP 6) (vP 5))) noT Ai) Ai) (Ad (Bm (Ue (vP 4) (vP 6))) (Ad (Bm (Oq (vP 3) (Ch (Wr (Au (attrS C 2) (opP idx (vP 1) (vP 6))))))) (Ad (Rf (Aq (bP' Er (Aa (vP 2) Ak))) (vP 5) (vP 6)) (Ad (Bm (Kd (vP 2) (vP 6))) Ai))))) (Ad (Fd (Bg (Hy (vP 2))) (Ad (Rz 3 2 5 6) Ai) (Ad Xm Ai)) Ai)) Ai) Ai)))) (Ad (Lg (Aq (cP .none))) Ai)))))))
noncomputable def Df (C:Cx):FW:=Cc (Eb 1) (Eg C)
noncomputable def No:Sc:={ vars:=[("self",0),("cycle",1)],cel:=[],globs:=[],top:=true }
noncomputable def Jp:Sc:={ vars:=[("i",2)],cel:=[],globs:=[],top:=false }
noncomputable def Ft (C:Cx):Wp AFlow :=
 (Ad (ifT (Bg (Aw isNotG (Au (attrD C "_ready_nodes") (vP 0)) (cP .none))) noT Ai) (Ad (Fu (Ia C "_ready_nodes") (Ch (Gb (Vr (Au (attrD C "_node2info") (vP 0))) (.one 2) (Aw eqV (Au (attrS C 1) (vP 2)) (cP (.int 0))) (Go (Au (attrS C 0) (vP 2))) (.lst false []))) (vP 0)) (Ad (Bh 1 (Eu C "_find_cycle" (vP 0) Ak (Df C))) (Ad (ifT (Bg (Hy (vP 1))) noT Ai) Ai))))
noncomputable def Ei (C:Cx):FW:=Cc (Eb 1) (Ft C)
noncomputable def Ld:Sc:={ vars:=[("self",0),("result",1),("n2i",2),("node",3)],cel:=[],globs:=["tuple","_NODE_OUT","len"],top:=true }
noncomputable def Eo (C:Cx):Wp AFlow :=
 (Ad (ifT (Bg (Aw isG (Au (attrD C "_ready_nodes") (vP 0)) (cP .none))) noT Ai) (Ad (Bh 1 (Aq (bP' Ou (Aa (Au (attrD C "_ready_nodes") (vP 0)) Ak)))) (Ad (Bh 2 (Aq (Au (attrD C "_node2info") (vP 0)))) (Ad (Ja (Hf (vP 1)) (.one 3) (Ad (Fu (He C 1) (Aq (cP (.int (-1)))) (opP idx (vP 2) (vP 3))) Ai)) (Ad (Bm (Pp (Au (attrD C "_ready_nodes") (vP 0)))) (Ad (Jc (attrD C "_npassedout") (Ia C "_npassedout") (vP 0) (bP' Er (Aa (vP 1) Ak)) (iop Es)) (Ad (Lg (Aq (vP 1))) Ai)))))))
noncomputable def Dq (C:Cx):FW:=Cc (Eb 1) (Eo C)
noncomputable def Sg:Sc:={ vars:=[("self",0),("nodes",1),("n2i",2),("node",3),("nodeinfo",4),("stat",5),("successor",6),("successor_info",7)],cel:=[],globs:=["_NODE_OUT","_NODE_DONE"],top:=true }
noncomputable def Ke (C:Cx):Wp AFlow :=
 (Ad (ifT (Bg (Aw isG (Au (attrD C "_ready_nodes") (vP 0)) (cP .none))) noT Ai) (Ad (Bh 2 (Aq (Au (attrD C "_node2info") (vP 0)))) (Ad (Ja (Hf (vP 1)) (.one 3) (Ad (ifT (gF 4 (opP La (vP 2) (vP 3))) noT Ai) (Ad (Bh 5 (Aq (Au (attrS C 1) (vP 4)))) (Ad (ifT (Bg (Aw neG (vP 5) (cP (.int (-1))))) noT Ai) (Ad (Fu (He C 1) (Aq (cP (.int (-2)))) (vP 4)) (Ad (Mq (Ja (Hf (Au (attrS C 2) (vP 4))) (.one 6) (Ad (Bh 7 (Aq (opP idx (vP 2) (vP 6)))) (Ad (Jc (attrS C 1) (He C 1) (vP 7) (cP (.int 1)) (iop subI)) (Ad (ifT (Bg (Aw eqV (Au (attrS C 1) (vP 7)) (cP (.int 0)))) (Ad (Bm (Kd (Au (attrD C "_ready_nodes") (vP 0)) (vP 6))) Ai) Ai) Ai))))) (Ad (Jc (attrD C "_nfinished") (Ia C "_nfinished") (vP 0) (cP (.int 1)) (iop Es)) Ai))))))) Ai)))
noncomputable def Ha (C:Cx):FW:=Cc (Lb 1) (Ke C)
end Mine
end
section
namespace Mine
noncomputable def Qe:Sc:={ vars:=[("self",0),("graph",1),("node",2),("predecessors",3)],cel:=[],globs:=[],top:=true }
noncomputable def Hx (C:Cx):Wp AFlow :=
 (Ad (Fu (Ia C "_node2info") (Ch eC) (vP 0)) (Ad (Fu (Ia C "_ready_nodes") (Aq (cP .none)) (vP 0)) (Ad (Fu (Ia C "_npassedout") (Aq (cP (.int 0))) (vP 0)) (Ad (Fu (Ia C "_nfinished") (Aq (cP (.int 0))) (vP 0)) (Ad (ifT (Bg (Aw isNotG (vP 1) (cP .none))) (Ad (Mq (Ja (dF (vP 1)) (.many [2,3]) (Ad (Bm (Eu C "add" (vP 0) (Aa (vP 2) (Rj (itP (vP 3)) Ak)) (Jd C))) Ai))) Ai) Ai) Ai)))))
noncomputable def Hw (C:Cx):FW:=Cc (Eb 2) (Hx C)
noncomputable def Hd (C:Cx):FW:=iJ (.inst C.tsC []) (Hw C)
end Mine
end
section
namespace Mine
theorem Ae {i:Nat}{ρ:Rho}{H:AH}{x:Int}(h:ρ i = .int x):vP i ρ H=some (.int x):=by unfold vP;rw[h]
theorem Ah {i:Nat}{ρ:Rho}{H:AH}{x:Addr}(h:ρ i = .ref x):vP i ρ H=some (.ref x):=by unfold vP;rw[h]
theorem Zz {vs:List AV}{i:Nat}(h:i < vs.length):Gm vs (i:Int)=some vs[i]:=by
 unfold Gm
 have:seqIndex? (i:Int) vs.length=some i:=by
  unfold seqIndex?
  simp only [show ¬ ((i:Int) < 0) by exact Ar.r255,if_false]
  rw[if_pos (by simp;exact Ar.r194 h)]
  simp
 simp[this,h]
theorem Uu {H:AH}{a:Addr}{lk:Bool}{vs:List AV}{i:Nat}(ha:H a=some (.f (.lst lk vs)))(h:i < vs.length):idx H (.ref a) (.int i)=some vs[i]:=by
 simp only [Qs,ha];exact Zz h
theorem Yj {H:AH}{a:Addr}{vs:List AV}{i:Nat}{v:AV}(ha:H a=some (.f (.lst false vs)))(h:i < vs.length)(hv:v.sto=true):Sd H (.ref a) (.int i) v=some (upd H a (.f (.lst false (vs.set i v)))):=by
 unfold Sd Ym;simp only [ha]
 rw[if_pos ⟨by exact Ar.r254,by lia,hv⟩];simp
theorem Sk (n:Nat):Dl 0 (n:Int) 1=(List.range n).map fun (i:Nat)=>(i:Int):=by
 have:(Builtin.Range.rangeSize 0 (n:Int) 1).toNat=n:=by
  unfold Builtin.Range.rangeSize
  simp only [show (1:Int) > 0 from by decide,if_true,Int.ediv_one]
  set_option tactic.hygienic true in split <;> lia
 unfold Dl
 rw[this]
 congr 1
 funext i;exact Ar.r253
theorem Wl {n:Nat}(h:n<=1000000):Dw 0 (n:Int) 1=true:=by
 have:(Builtin.Range.rangeSize 0 (n:Int) 1).toNat=n:=by
  unfold Builtin.Range.rangeSize
  simp only [show (1:Int) > 0 from by decide,if_true,Int.ediv_one]
  set_option tactic.hygienic true in split <;> lia
 simp only [Dw,this,Bool.and_eq_true,decide_eq_true_eq,An]
 lia
end Mine
end
section
namespace Mine
noncomputable abbrev FL:=List (Addr × FObj)
noncomputable def Dm (H:AH) (L:FL):AH:=fun b=>match L.lookup b with
 | some o=>some (.f o)
 | none=>H b
noncomputable def Fy (G:Gh) (Z:List (Addr × List Addr)):Gh:=fun b=>match Z.lookup b with
 | some g=>g
 | none=>G b
noncomputable def Dh (H:AH) (a:Addr) (S:SState) (L:FL):AH:=fun b=>if b=a then some (.srt S) else if b ∈ L.map (·.1) then none else H b
theorem Gx {β:Type}:∀ {l:List (Addr × β)},(l.map (·.1)).Nodup->∀ {b:Addr} {v:β},(b,v) ∈ l->l.lookup b=some v
 | [],_,_,_,h=>by simp at h
 | (c,w) :: r,hn,b,v,h=>by
  simp only [List.map_cons,List.nodup_cons]at hn
  rw[List.lookup_cons]
  rcases List.mem_cons.mp h with e | h'
  ·clear h hn;cases e;simp
  ·have:(b == c)=false:=by
    simp only [beq_eq_false_iff_ne,ne_eq]
    intro e
    clear h;subst e
    exact hn.1 (List.mem_map.mpr ⟨(b,v),h',rfl⟩)
   rw[this];exact Gx hn.2 h'
theorem lookup_none {β:Type}:∀ {l:List (Addr × β)} {b:Addr},l.lookup b=none <-> b ∉ l.map (·.1)
 | [],b=>by simp
 | (d,w) :: r,b=>by
  rw[List.lookup_cons,List.map_cons,List.mem_cons,not_or]
  cases q:b == d with
  | true =>
   have:b=d:=by simpa using q
   simp[this]
  | false =>
   have:¬ b=d:=by simpa using q
   simp only [this,not_false_eq_true,true_and];exact lookup_none
section
variable {C:Cx}
theorem Rel.unpack {H:AH}{G:Gh}{h:Heap}{a:Addr}{S:SState}(R:Rel C H G (own H G) h)(ha:H a=some (.srt S)) :
  ∃ (L:FL) (Z:List (Addr × List Addr)),SFlat C a S L/\(L.map (·.1)).Nodup/\(∀ b ∈ L.map (·.1),b ≠ a->H b=none)/\a ∈ L.map (·.1)/\own (Dm H L) (Fy G Z)=own H G/\Rel C (Dm H L) (Fy G Z) (own (Dm H L) (Fy G Z)) h/\∀ b,b ∉ L.map (·.1)->Fy G Z b=G b:=by
 obtain⟨L,gs,hS,hlen,hfl,hr⟩:=R.obj a _ ha
 have hne:H a ≠ none:=by rw[ha];simp
 have hnd:=R.nd a hne
 rw[hfl,List.Nodup,List.pairwise_flatMap]at hnd
 obtain⟨nd1,nd2⟩:=hnd
 let Z:=(L.zip gs).map fun x=>(x.1.1,x.2)
 have hZ1:Z.map (·.1)=L.map (·.1):=by
  simp only [Z,List.map_map]
  have:((fun x:Addr × List Addr=>x.1) ∘ fun x:(Addr × FObj) × List Addr=>(x.1.1,x.2))=(fun y:Addr × FObj=>y.1) ∘ Prod.fst:=rfl
  rw[this,<- List.map_map,List.map_fst_zip (by exact Ar.r39 hlen)]
 have hndL:(L.map (·.1)).Nodup:=by
  rw[<- hZ1]
  simp only [Z,List.map_map]
  rw[List.Nodup,List.pairwise_map]
  exact nd2.imp fun h=>h _ (by simp) _ (by simp)
 have hzm:∀ x,x ∈ L.zip gs->x.1 ∈ L:=fun x hx=>(List.of_mem_zip (a:=x.1) (b:=x.2) hx).1
 have hex:∀ y ∈ L,∃ g,(y,g) ∈ L.zip gs:=by
  intro y hy
  obtain⟨i,hi,rfl⟩:=List.getElem_of_mem hy
  refine⟨gs[i]'(by exact Ar.r38 hlen hi),?_⟩
  apply List.mem_of_getElem? (i:=i)
  rw[List.getElem?_zip_eq_some]
  exact⟨List.getElem?_eq_getElem hi,List.getElem?_eq_getElem (by exact Ar.r38 hlen hi)⟩
 have hmemF:∀ b,b ∈ a :: G a <-> ∃ x ∈ L.zip gs,b=x.1.1\/b ∈ x.2:=fun b=>by
  rw[hfl,List.mem_flatMap];simp
 have hl1:∀ x ∈ L.zip gs,(Dm H L) x.1.1=some (.f x.1.2)/\(Fy G Z) x.1.1=x.2:=fun x hx=>by
  have e1:L.lookup x.1.1=some x.1.2:=Gx hndL (hzm x hx)
  have e2:Z.lookup x.1.1=some x.2:=Gx (by rw[hZ1];exact hndL) (List.mem_map.mpr ⟨x,hx,rfl⟩)
  exact⟨by simp only [Dm,e1],by simp only [Fy,e2]⟩
 have hout:∀ b,b ∉ L.map (·.1)->(Dm H L) b=H b/\(Fy G Z) b=G b:=fun b hb=>by
  have e1:L.lookup b=none:=lookup_none.mpr hb
  have e2:Z.lookup b=none:=lookup_none.mpr (by rw[hZ1];exact hb)
  exact⟨by simp only [Dm,e1],by simp only [Fy,e2]⟩
 have hin:∀ b,b ∈ L.map (·.1)->∃ x ∈ L.zip gs,x.1.1=b:=fun b hb=>by
  obtain⟨y,hy,rfl⟩:=List.mem_map.mp hb
  obtain⟨g,hg⟩:=hex y hy
  exact⟨_,hg,rfl⟩
 have hinner:∀ b ∈ L.map (·.1),b ≠ a->H b=none:=fun b hb hba=>by
  obtain⟨x,hx,rfl⟩:=hin b hb
  cases q:H x.1.1 with
  | none=>rfl
  | some o =>
   exfalso
   have hm:x.1.1 ∈ a :: G a:=(hmemF _).mpr ⟨x,hx,.inl rfl⟩
   exact R.dj a x.1.1 x.1.1 hne (by rw[q];simp) (Ne.symm hba) (by simpa using hm) (.inl rfl)
 have hain:a ∈ L.map (·.1):=by
  obtain⟨σ,_,hL,_⟩:=hS
  rw[hL];exact List.mem_map.mpr ⟨_,List.mem_append_left _ (List.mem_append_left _ (.head _)),rfl⟩
 have hown:own (Dm H L) (Fy G Z)=own H G:=by
  funext b
  apply propext
  constructor
  ·rintro⟨x,hx,hb⟩
   by_cases hxL:x ∈ L.map (·.1)
   ·obtain⟨z,hz,rfl⟩:=hin x hxL
    rw[(hl1 z hz).2]at hb
    exact⟨a,hne,by have:=(hmemF b).mpr ⟨z,hz,hb⟩;simpa using this⟩
   ·rw[(hout x hxL).1]at hx;rw[(hout x hxL).2]at hb
    exact⟨x,hx,hb⟩
  ·rintro⟨x,hx,hb⟩
   by_cases hxa:x=a
   ·subst hxa
    obtain⟨z,hz,hb'⟩:=(hmemF b).mp (by simpa using hb)
    exact⟨z.1.1,by rw[(hl1 z hz).1];simp,by rw[(hl1 z hz).2];exact hb'⟩
   ·have hxL:x ∉ L.map (·.1):=fun q=>hx (hinner x q hxa)
    exact⟨x,by rw[(hout x hxL).1];exact hx,by rw[(hout x hxL).2];exact hb⟩
 refine⟨L,Z,hS,hndL,hinner,hain,hown,?_,fun b hb=>(hout b hb).2⟩
 rw[hown]
 have off:∀ y z,H y ≠ none->y ≠ a->(z=y\/z ∈ G y)->∀ x ∈ L.zip gs,¬ (z=x.1.1\/z ∈ x.2):=fun y z hy hya hz x hx q =>
  R.dj y a z hy hne hya hz (by have:=(hmemF z).mpr ⟨x,hx,q⟩;simpa using this)
 refine⟨fun b hb=>hown ▸ hb,fun x o hx=>?_,fun x hx=>?_,fun x y z hx hy hxy hz=>?_,R.base,R.live⟩
 ·by_cases hxL:x ∈ L.map (·.1)
  ·obtain⟨z,hz,rfl⟩:=hin x hxL
   rw[(hl1 z hz).1]at hx;obtain rfl:=Option.some.inj hx
   rw[(hl1 z hz).2]
   exact ORelF.mono (fun b ob z0 z0 e z0 hb=>⟨e,hb⟩) (fun z0 z0 z0 e=>e) (hr z hz)
  ·rw[(hout x hxL).1]at hx;rw[(hout x hxL).2]
   exact ORel.mono (fun b ob z0 z0 e z0 hb=>⟨e,hb⟩) (fun z0 z0 z0 e=>e) (R.obj x o hx)
 ·by_cases hxL:x ∈ L.map (·.1)
  ·obtain⟨z,hz,rfl⟩:=hin x hxL
   rw[(hl1 z hz).2];exact nd1 z hz
  ·rw[(hout x hxL).1]at hx;rw[(hout x hxL).2];exact R.nd x hx
 ·by_cases hxL:x ∈ L.map (·.1)
  ·obtain⟨u,hu,rfl⟩:=hin x hxL
   rw[(hl1 u hu).2]at hz
   by_cases hyL:y ∈ L.map (·.1)
   ·obtain⟨v,hv,rfl⟩:=hin y hyL
    rw[(hl1 v hv).2]
    intro q
    have huv:u ≠ v:=fun e=>hxy (by rw[e])
    -- two different places of a list of pairwise apart ones
    obtain⟨i,hi,rfl⟩:=List.getElem_of_mem hu
    obtain⟨j,hj,rfl⟩:=List.getElem_of_mem hv
    have hij:i ≠ j:=by rintro rfl;exact huv rfl
    rw[List.pairwise_iff_getElem]at nd2
    rcases Nat.lt_or_gt_of_ne hij with l | l
    ·exact nd2 i j hi hj l z (by simpa using hz) z (by simpa using q) rfl
    ·exact nd2 j i hj hi l z (by simpa using q) z (by simpa using hz) rfl
   ·rw[(hout y hyL).1]at hy;rw[(hout y hyL).2]
    intro q
    exact off y z hy (fun e=>hyL (e ▸ hain)) q u hu hz
  ·rw[(hout x hxL).1]at hx;rw[(hout x hxL).2]at hz
   by_cases hyL:y ∈ L.map (·.1)
   ·obtain⟨v,hv,rfl⟩:=hin y hyL
    rw[(hl1 v hv).2]
    exact off x z hx (fun e=>hxL (e ▸ hain)) hz v hv
   ·rw[(hout y hyL).1]at hy;rw[(hout y hyL).2]
    exact R.dj x y z hx hy hxy hz
theorem Rel.pack {H:AH}{G:Gh}{h:Heap}{a:Addr}{S:SState}{L:FL}(R:Rel C H G (own H G) h)(hS:SFlat C a S L)(hnd:(L.map (·.1)).Nodup)(hL:∀ x ∈ L,H x.1=some (.f x.2)) :
  ∃ G',own (Dh H a S L) G' = own H G/\Rel C (Dh H a S L) G' (own (Dh H a S L) G') h/\∀ b,b ∉ L.map (·.1)->G' b=G b:=by
 have hain:∃ o T,L=(a,o) :: T:=by
  obtain⟨σ,_,hL,_⟩:=hS
  exact⟨_,_,hL⟩
 obtain⟨o0,T,hT⟩:=hain
 have haL:a ∈ L.map (·.1):=by rw[hT];simp
 let F:=L.flatMap fun x=>x.1 :: G x.1
 have hF:F=a :: (G a++T.flatMap fun x=>x.1 :: G x.1):=by simp only [F,hT,List.flatMap_cons,List.cons_append]
 let G':=Bx G a (G a++T.flatMap fun x=>x.1 :: G x.1)
 have hGa:a :: G' a=F:=by rw[hF];simp[G',Bx]
 have hGo:∀ b,b ≠ a->G' b=G b:=fun b hb=>by simp[G',Bx,hb]
 have hmF:∀ b,b ∈ a :: G' a <-> ∃ x ∈ L,b=x.1\/b ∈ G x.1:=fun b=>by
  rw[hGa];simp only [F,List.mem_flatMap];simp
 have hP:∀ b,Dh H a S L b ≠ none <-> b=a\/(b ∉ L.map (·.1)/\H b ≠ none):=fun b=>by
  unfold Dh
  by_cases e:b=a
  ·simp[e]
  ·by_cases e2:b ∈ L.map (·.1)
   ·simp only [e,if_false,e2,if_true];simp
   ·simp only [e,if_false,e2];simp
 have hPa:Dh H a S L a=some (.srt S):=by simp[Dh]
 have hPo:∀ b,b ≠ a->b ∉ L.map (·.1)->Dh H a S L b=H b:=fun b h1 h2=>by
  unfold Dh;simp only [h1,if_false,h2]
 have hLne:∀ x ∈ L,H x.1 ≠ none:=fun x hx=>by rw[hL x hx];simp
 have hown:own (Dh H a S L) G' = own H G:=by
  funext b
  apply propext
  constructor
  ·rintro⟨x,hx,hb⟩
   rcases(hP x).mp hx with e | ⟨e1,e2⟩
   ·clear R hF hGa hGo hL hP hPa hPo hS hT haL hnd hx;subst e
    obtain⟨z,hz,hb'⟩:=(hmF b).mp (by simpa using hb)
    exact⟨z.1,hLne z hz,hb'⟩
   ·have:x ≠ a:=fun q=>e1 (q ▸ haL)
    rw[hGo x this]at hb
    exact⟨x,e2,hb⟩
  ·rintro⟨x,hx,hb⟩
   by_cases hxL:x ∈ L.map (·.1)
   ·clear R hF hGa hGo hL hLne hP hPo hS hT haL hnd hx;obtain⟨z,hz,rfl⟩:=List.mem_map.mp hxL
    exact⟨a,by rw[hPa];simp,by have:=(hmF b).mpr ⟨z,hz,hb⟩;simpa using this⟩
   ·have:x ≠ a:=fun q=>hxL (q ▸ haL)
    exact⟨x,by rw[hPo x this hxL];exact hx,by rw[hGo x this];exact hb⟩
 refine⟨G',hown,?_,fun b hb=>hGo b fun q=>hb (q ▸ haL)⟩
 rw[hown]
 have hndF:F.Nodup:=by
  simp only [F]
  rw[List.Nodup,List.pairwise_flatMap]
  refine⟨fun x hx=>R.nd x.1 (hLne x hx),?_⟩
  rw[List.Nodup,List.pairwise_map]at hnd
  refine hnd.imp_of_mem ?_
  intro x y hx hy hxy u hu v hv huv
  clear hF hGa hGo hL hP hPa hPo hS hT haL hmF hnd hown;subst huv
  exact R.dj x.1 y.1 u (hLne x hx) (hLne y hy) hxy (by simpa using hu) (by simpa using hv)
 refine⟨fun b hb=>hown ▸ hb,fun x o hx=>?_,fun x hx=>?_,fun x y z hx hy hxy hz=>?_,R.base,R.live⟩
 ·by_cases e:x=a
  ·subst e
   rw[hPa]at hx;obtain rfl:=Option.some.inj hx
   refine⟨L,L.map fun y=>G y.1,hS,by simp,?_,?_⟩
   ·rw[hGa]
    simp only [F]
    rw[List.zip_map_right]
    have:L.zip L=L.map fun y=>(y,y):=by
     clear hGa hmF hP hPa hPo hLne hown hndF hF haL hT hL hnd hS R F G' hGo
     induction L with
     | nil=>rfl
     | cons y l ih=>simp[ih]
    rw[this,List.map_map,List.flatMap_map]
    rfl
   ·intro z hz
    rw[List.zip_map_right]at hz
    clear hF hGa hGo hLne hP hPa hPo hS hT haL hmF hnd hndF hown hx;obtain⟨w,hw,rfl⟩:=List.mem_map.mp hz
    have hw1:w.1 ∈ L:=(List.of_mem_zip (a:=w.1) (b:=w.2) hw).1
    have hw2:w.1=w.2:=by
     obtain⟨i,hi,e⟩:=List.getElem_of_mem hw
     rw[List.getElem_zip]at e
     rw[<- e]
    have:=R.obj w.1.1 _ (hL w.1 hw1)
    refine ORelF.mono (O:=own H G) (G:=G) (fun b ob z0 z0 e z0 hb=>⟨e,hb⟩) (fun z0 z0 z0 e=>e) ?_
    refine(?_:ORelF C h (own H G) G w.1.2 w.1.1 (G w.2.1))
    rw[<- hw2];exact this
  ·have hxL:x ∉ L.map (·.1):=by
    intro q
    have:Dh H a S L x=none:=by unfold Dh;simp only [e,if_false,q,if_true]
    rw[this]at hx;exact nqa hx
   rw[hPo x e hxL]at hx
   rw[hGo x e]
   exact ORel.mono (fun b ob z0 z0 e z0 hb=>⟨e,hb⟩) (fun z0 z0 z0 e=>e) (R.obj x o hx)
 ·rcases(hP x).mp hx with e | ⟨e1,e2⟩
  ·clear R hF hGo hL hLne hP hPa hPo hS hT haL hmF hnd hown hx;subst e;rw[hGa];exact hndF
  ·rw[hGo x fun q=>e1 (q ▸ haL)];exact R.nd x e2
 ·rcases(hP x).mp hx with ex | ⟨ex1,ex2⟩
  ·clear hF hGa hL hPa hPo hS hT haL hnd hndF hown hx;subst ex
   rcases(hP y).mp hy with ey | ⟨ey1,ey2⟩
   ·exact absurd ey.symm hxy
   ·rw[hGo y (Ne.symm hxy)]
    obtain⟨w,hw,hz'⟩:=(hmF z).mp (by simpa using hz)
    exact R.dj w.1 y z (hLne w hw) ey2 (fun q=>ey1 (q ▸ List.mem_map.mpr ⟨w,hw,rfl⟩)) hz'
  ·have hxa:x ≠ a:=fun q=>ex1 (q ▸ haL)
   rw[hGo x hxa]at hz
   rcases(hP y).mp hy with ey | ⟨ey1,ey2⟩
   ·clear hF hGa hGo hL hP hPa hPo hS hT haL hnd hndF hown hx hxa hxy hy;subst ey
    intro q
    obtain⟨w,hw,hz'⟩:=(hmF z).mp (by simpa using q)
    exact R.dj x w.1 z ex2 (hLne w hw) (fun q=>ex1 (q ▸ List.mem_map.mpr ⟨w,hw,rfl⟩)) hz hz'
   ·rw[hGo y fun q=>ey1 (q ▸ haL)]
    exact R.dj x y z ex2 ey2 hxy hz
end
end Mine
end
section
namespace Mine
section
variable {C:Cx} {k:Nat}
theorem Rel.forget {H H':AH}{G:Gh}{h:Heap}(R:Rel C H G (own H G) h)(hs:∀ b,H' b=H b\/H' b=none):Rel C H' G (own H' G) h:=by
 have un:∀ x,H' x ≠ none->H x ≠ none:=fun x hx=>by rcases hs x with q | q;rw[<- q];exact hx;exact absurd q hx
 have sub:∀ b,own H' G b->own H G b:=fun b ⟨x,hx,hb⟩=>⟨x,un x hx,hb⟩
 refine⟨fun z0 x=>x,fun x o hx=>?_,fun x hx=>R.nd x (un x hx),fun x y z hx hy=>R.dj x y z (un x hx) (un y hy),fun b o e=>⟨(R.base b o e).1,fun q=>(R.base b o e).2 (sub b q)⟩,fun b hb=>R.live b (sub b hb)⟩
 have hx':H x=some o:=by rcases hs x with q | q;rw[<- q];exact hx;rw[q]at hx;exact nqa hx
 exact ORel.mono (fun b ob z0 z0 e z0 hb=>⟨e,fun q=>hb (sub b q)⟩) (fun z0 z0 z0 e=>e) (R.obj x o hx')
inductive Pkd (C:Cx) (a:Addr) (H:AH) (Q:AV->AH->Prop) (v:AV) (H1:AH):Prop
 | mk (S':SState) (L':FL) (hS:SFlat C a S' L') (hnd:(L'.map (·.1)).Nodup) (hin:∀ x ∈ L',H1 x.1=some (.f x.2)) (hk:∀ b o,b ≠ a->H b=some o->H1 b=some o) (hfr:∀ b ∈ L'.map (·.1),b ≠ a->H b=none) (hq:Q v (upd H a (.srt S')))
inductive PkN (C:Cx) (S':SState) (H:AH) (Q:AV->AH->Prop) (v:AV) (H1:AH):Prop
 | mk (a:Addr) (L':FL) (e:v = .ref a) (ha:H a=none) (hS:SFlat C a S' L') (hnd:(L'.map (·.1)).Nodup) (hin:∀ x ∈ L',H1 x.1=some (.f x.2)) (hk:∀ b o,H b=some o->H1 b=some o) (hfr:∀ b ∈ L'.map (·.1),H b=none) (hq:Q (.ref a) (upd H a (.srt S')))
theorem CallR.packed {f:Value} {W W':FW} (h:CallR C k f W) (hW:∀ vs Q H,W' vs Q H->∃ a S,H a=some (.srt S)/\∀ (L:FL),SFlat C a S L->(L.map (·.1)).Nodup->(∀ b ∈ L.map (·.1),b ≠ a->H b=none) ->
   W vs (Pkd C a H Q) (Dm H L)):CallR C k f W':=by
 intro A s H G vs xs Q hA hF R hr hst hW'
 refine Ag fun PP ret=>?_
 obtain⟨a,S,ha,hL⟩:=hW vs Q H hW'
 obtain⟨L,Z,hS,hnd,hin,haL,hown,R0,hGo⟩:=R.unpack ha
 refine ret ?_
 have hne:H a ≠ none:=by rw[ha];simp
 have hr0:VRels s.heap (own (Dm H L) (Fy G Z)) (Fy G Z) vs xs:=hr.mono (fun b o z0 z0 e z0 hb=>⟨e,by rw[hown];exact hb⟩) hst
 refine codeAny_mono (h A s (Dm H L) (Fy G Z) vs xs _ hA (by rw[hown];exact hF) R0 hr0 hst (hL L hS hnd hin)) fun r s' hr'=>?_
 rcases r with e | (v | _ | _ | _) <;> first | exact hr'.elim | skip
 refine Ag fun PP ret=>?_
 obtain⟨v',H1,G1,⟨S',L',hS',hnd',hin',hk,hfr,hq⟩,hv,hsv,R1,S1⟩:=hr'
 obtain⟨G2,ho2,R2,hG2⟩:=R1.pack hS' hnd' hin'
 have haL':a ∈ L'.map (·.1):=by
  obtain⟨σ,_,hL,_⟩:=hS'
  rw[hL];exact List.mem_map.mpr ⟨_,List.mem_append_left _ (List.mem_append_left _ (.head _)),rfl⟩
 have R3:Rel C (upd H a (.srt S')) G2 (own (upd H a (.srt S')) G2) s'.heap:=by
  refine R2.forget fun b=>?_
  by_cases e:b=a
  ·clear R R0 R1 R2 S1 h hA hF hG2 hGo hL hS hS' hW hW' ha haL haL' hfr hin hin' hk hnd hnd' hne ho2 hown hq hr hr0 hst hsv hv ret;subst e;left;simp[Dh]
  ·rw[Ab e]
   clear R R0 R1 R2 S1 h hA hF hG2 hGo hL hS hS' hW hW' ha haL haL' hin hin' hnd hnd' hne ho2 hown hq hr hr0 hst hsv hv ret;cases q:H b with
   | none=>right;rfl
   | some o =>
    left
    have hbL:b ∉ L'.map (·.1):=fun z=>by rw[hfr b z e]at q;exact nqa q
    unfold Dh;simp only [e,if_false,hbL]
    exact(hk b o e q).symm
 have sub:∀ b,own (upd H a (.srt S')) G2 b->own H1 G1 b:=fun b ⟨x,hx,hb⟩=>by
  rw[<- ho2]
  refine⟨x,?_,hb⟩
  by_cases e:x=a
  ·clear R R0 R1 R2 R3 S1 h hA hF hG2 hGo hL hS hS' hW hW' ha haL haL' hb hfr hin hin' hk hnd hnd' hne ho2 hown hq hr hr0 hst hsv hv hx ret;subst e;simp[Dh]
  ·rw[Ab e]at hx
   clear R R0 R1 R2 R3 S1 h hA hF hG2 hGo hL hS hS' hW hW' ha haL haL' hb hin hin' hnd hnd' hne ho2 hown hq hr hr0 hst hsv hv ret;cases q:H x with
   | none=>rw[q]at hx;exact absurd rfl hx
   | some o =>
    have hbL:x ∉ L'.map (·.1):=fun z=>by rw[hfr x z e]at q;exact nqa q
    unfold Dh;simp only [e,if_false,hbL]
    rw[hk x o e q];simp
 refine ret ?_
 refine⟨v',upd H a (.srt S'),G2,hq,hv.mono (fun b o z0 z0 e z0 hb=>⟨e,fun q=>hb (sub b q)⟩) hsv,hsv,R3,S1.same,fun b o hb hP e=>S1.keep b o (by rw[hown];exact hb) hP e,fun z0 z0 z=>z.elim,fun b hb=>by
  have:=S1.fresh b (sub b hb);rwa [hown]at this,fun x o e l=>?_⟩
 have hxa:x ≠ a:=fun qq=>by first | (rw[<- qq,ha]at e;cases e) | (rw[qq,ha]at e;clear R R0 R1 R2 R3 h hA hF hL hS hS' hW hW' ha haL haL' hin' hk hnd hnd' hne ho2 hown hq hr hr0 hst hsv hv qq ret sub;cases e)
 have hxL:x ∉ L.map (·.1):=fun q=>by rw[hin x q hxa]at e;exact nqa e
 have hxL':x ∉ L'.map (·.1):=fun q=>by rw[hfr x q hxa]at e;exact nqa e
 have e0:Dm H L x=some (.f o):=by unfold Dm;rw[lookup_none.mpr hxL];exact e
 obtain⟨q1,q2,q3⟩:=S1.lock x o e0 l
 rw[hGo x hxL]at q2 q3
 exact⟨by rw[Ab hxa];exact e,by rw[hG2 x hxL'];exact q2,q3⟩
theorem CallR.packNew {f:Value}{W W':FW}{S':SState}(h:CallR C k f W)(hW:∀ vs Q H,W' vs Q H->W vs (PkN C S' H Q) H):CallR C k f W':=by
 intro A s H G vs xs Q hA hF R hr hst hW'
 refine codeAny_mono (h A s H G vs xs _ hA hF R hr hst (hW vs Q H hW')) fun r s' hr'=>?_
 rcases r with e | (v | _ | _ | _) <;> first | exact hr'.elim | skip
 refine Ag fun PP ret=>?_
 obtain⟨v',H1,G1,⟨a,L',rfl,ha,hS',hnd',hin',hk,hfr,hq⟩,hv,hsv,R1,S1⟩:=hr'
 obtain⟨G2,ho2,R2,hG2⟩:=R1.pack hS' hnd' hin'
 have R3:Rel C (upd H a (.srt S')) G2 (own (upd H a (.srt S')) G2) s'.heap:=by
  refine R2.forget fun b=>?_
  by_cases e:b=a
  ·subst e;left;simp[Dh]
  ·rw[Ab e]
   cases q:H b with
   | none=>right;rfl
   | some o =>
    left
    have hbL:b ∉ L'.map (·.1):=fun z=>by rw[hfr b z]at q;exact nqa q
    unfold Dh;simp only [e,if_false,hbL]
    exact(hk b o q).symm
 have sub:∀ b,own (upd H a (.srt S')) G2 b->own H1 G1 b:=fun b ⟨x,hx,hb⟩=>by
  rw[<- ho2]
  refine⟨x,?_,hb⟩
  by_cases e:x=a
  ·subst e;simp[Dh]
  ·rw[Ab e]at hx
   cases q:H x with
   | none=>rw[q]at hx;exact absurd rfl hx
   | some o =>
    have hbL:x ∉ L'.map (·.1):=fun z=>by rw[hfr x z]at q;exact nqa q
    unfold Dh;simp only [e,if_false,hbL]
    rw[hk x o q];simp
 refine ret ?_
 refine⟨.ref a,upd H a (.srt S'),G2,hq,hv.mono (fun b o z0 z0 e z0 hb=>⟨e,fun q=>hb (sub b q)⟩) hsv,hsv,R3,S1.same,S1.keep,fun z0 z0 z=>z.elim,fun b hb=>S1.fresh b (sub b hb),fun x o e l=>?_⟩
 have hxa:x ≠ a:=fun qq=>by first | (rw[<- qq,ha]at e;exact nqa e) | (rw[qq,ha]at e;exact nqa e)
 have hxL':x ∉ L'.map (·.1):=fun q=>by rw[hfr x q]at e;exact nqa e
 obtain⟨q1,q2,q3⟩:=S1.lock x o e l
 exact⟨by rw[Ab hxa];exact e,by rw[hG2 x hxL'];exact q2,q3⟩
end
end Mine
end
section
namespace Mine
structure Flat (C:Cx) (lkD:Bool) (lkA:Option Addr) (H:AH) (a:Addr) (σ:FSt):Prop where
 ha:H a=some (.f (.inst C.tsC (Dp σ.d σ.rdy σ.passed σ.fin)))
 hd:H σ.d=some (.f (.dic lkD σ.dicL))
 hr:∀ r,σ.ready=some r->H σ.ra=some (.f (.lst false (r.map .int)))
 hi:∀ n ∈ σ.nds,H n.info=some (.f (.slots C.niC (Et n)))
 hs:∀ n ∈ σ.nds,H n.succ=some (.f (.lst (decide (lkA=some n.succ)) (n.nd.succs.map .int)))
 ni:(σ.nds.map (·.info)).Nodup
 ns:(σ.nds.map (·.succ)).Nodup
 nk:(σ.nds.map (·.nd.key)).Nodup
 nr:σ.ready ≠ none->∀ n ∈ σ.nds,n.succ ≠ σ.ra
section
variable {C:Cx}
theorem Flat.ofL {H:AH}{a:Addr}{σ:FSt}(hnd:((σ.L C a).map (·.1)).Nodup)(hk:(σ.nds.map (·.nd.key)).Nodup)(hin:∀ x ∈ σ.L C a,H x.1=some (.f x.2)):Flat C false none H a σ:=by
 have mi:∀ n ∈ σ.nds,(n.info,FObj.slots C.niC (Et n)) ∈ σ.L C a:=fun n hn=>by
  unfold FSt.L;exact List.mem_append_left _ (List.mem_append_right _ (List.mem_map.mpr ⟨n,hn,rfl⟩))
 have ms:∀ n ∈ σ.nds,(n.succ,FObj.lst false (n.nd.succs.map .int)) ∈ σ.L C a:=fun n hn=>by
  unfold FSt.L;exact List.mem_append_right _ (List.mem_map.mpr ⟨n,hn,rfl⟩)
 have hnd':=hnd
 unfold FSt.L at hnd'
 rw[List.map_append,List.map_append,List.nodup_append,List.nodup_append]at hnd'
 obtain⟨⟨n1,n2,n3⟩,n4,n5⟩:=hnd'
 refine⟨hin (a,.inst C.tsC (Dp σ.d σ.rdy σ.passed σ.fin)) (by unfold FSt.L;simp),hin (σ.d,.dic false σ.dicL) (by unfold FSt.L;simp),fun r hr=>hin (σ.ra,.lst false (r.map .int)) (by unfold FSt.L;rw[hr];simp),fun n hn=>hin _ (mi n hn),fun n hn=>by have:=hin _ (ms n hn);simpa using this,?_,?_,hk,fun hne n hn q=>?_⟩
 ·rw[List.map_map]at n2;exact n2
 ·rw[List.map_map]at n4;exact n4
 ·cases hr:σ.ready with
  | none=>exact hne hr
  | some r =>
   refine n5 σ.ra ?_ σ.ra ?_ rfl
   ·rw[List.mem_append];left;rw[hr];simp
   ·rw[List.map_map];exact List.mem_map.mpr ⟨n,hn,q⟩
theorem Flat.toL {H:AH}{a:Addr}{σ:FSt}(F:Flat C false none H a σ):((σ.L C a).map (·.1)).Nodup/\∀ x ∈ σ.L C a,H x.1=some (.f x.2):=by
 have hin:∀ x ∈ σ.L C a,H x.1=some (.f x.2):=by
  intro x hx
  unfold FSt.L at hx
  rcases List.mem_append.mp hx with hx | hx
  ·rcases List.mem_append.mp hx with hx | hx
   ·rcases List.mem_cons.mp hx with rfl | hx
    ·exact F.ha
    ·rcases List.mem_cons.mp hx with rfl | hx
     ·exact F.hd
     ·cases hr:σ.ready with
      | none=>rw[hr]at hx;simp at hx
      | some r=>rw[hr]at hx;simp at hx;subst hx;exact F.hr r hr
   ·obtain⟨n,hn,rfl⟩:=List.mem_map.mp hx;exact F.hi n hn
  ·obtain⟨n,hn,rfl⟩:=List.mem_map.mp hx;have:=F.hs n hn;simpa using this
 refine⟨?_,hin⟩
 have had:a ≠ σ.d:=Aj F.ha F.hd rfl
 have hai:∀ n ∈ σ.nds,a ≠ n.info:=fun n hn q=>by have:=F.ha;rw[q,F.hi n hn]at this;cases this
 have has:∀ n ∈ σ.nds,a ≠ n.succ:=fun n hn q=>by have:=F.ha;rw[q,F.hs n hn]at this;cases this
 have hdi:∀ n ∈ σ.nds,σ.d ≠ n.info:=fun n hn q=>by have:=F.hd;rw[q,F.hi n hn]at this;cases this
 have hds:∀ n ∈ σ.nds,σ.d ≠ n.succ:=fun n hn q=>by have:=F.hd;rw[q,F.hs n hn]at this;cases this
 have his:∀ n ∈ σ.nds,∀ m ∈ σ.nds,n.info ≠ m.succ:=fun n hn m hm q=>by have:=F.hi n hn;rw[q,F.hs m hm]at this;cases this
 unfold FSt.L
 rw[List.map_append,List.map_append,List.nodup_append,List.nodup_append]
 refine⟨⟨?_,?_,?_⟩,?_,?_⟩
 ·cases hr:σ.ready with
  | none=>simp[had]
  | some r =>
   have har:a ≠ σ.ra:=fun q=>by have:=F.ha;rw[q,F.hr r hr]at this;cases this
   have hdr:σ.d ≠ σ.ra:=fun q=>by have:=F.hd;rw[q,F.hr r hr]at this;cases this
   simp[had,har,hdr]
 ·rw[List.map_map];exact F.ni
 ·intro u hu v hv huv
  subst huv
  rw[List.map_map]at hv
  obtain⟨n,hn,rfl⟩:=List.mem_map.mp hv
  obtain⟨y,hy,e⟩:=List.mem_map.mp hu
  rcases List.mem_cons.mp hy with rfl | hy
  ·exact hai n hn e
  ·rcases List.mem_cons.mp hy with rfl | hy
   ·exact hdi n hn e
   ·cases hr:σ.ready with
    | none=>rw[hr]at hy;simp at hy
    | some r =>
     rw[hr]at hy;simp at hy;subst hy
     have h1:=F.hr r hr
     have h2:=F.hi n hn
     have e':σ.ra=n.info:=e
     rw[e',h2]at h1;cases h1
 ·rw[List.map_map];exact F.ns
 ·intro u hu v hv huv
  subst huv
  rw[List.map_map]at hv
  obtain⟨n,hn,rfl⟩:=List.mem_map.mp hv
  rw[List.mem_append]at hu
  rcases hu with hu | hu
  ·obtain⟨y,hy,e⟩:=List.mem_map.mp hu
   rcases List.mem_cons.mp hy with rfl | hy
   ·exact has n hn e
   ·rcases List.mem_cons.mp hy with rfl | hy
    ·exact hds n hn e
    ·cases hr:σ.ready with
     | none=>rw[hr]at hy;simp at hy
     | some r =>
      rw[hr]at hy;simp at hy;subst hy
      exact F.nr (by rw[hr];simp) n hn e.symm
  ·rw[List.map_map]at hu
   obtain⟨m,hm,e⟩:=List.mem_map.mp hu
   exact his m hm n hn e
end
end Mine
end
section
namespace Mine
noncomputable def SState.keys (S:SState):List Int:=S.nodes.map (·.key)
noncomputable def SState.set (S:SState) (k:Int) (g:NodeS):SState:={ S with nodes:=S.nodes.map fun n=>if n.key=k then g else n }
noncomputable def SState.node (S:SState) (k:Int):NodeS:=(S.nodes.find? fun n=>decide (n.key=k)).getD ⟨k,0,[]⟩
noncomputable def SState.get (S:SState) (k:Int):SState:=if k ∈ S.keys then S else { S with nodes:=S.nodes++[⟨k,0,[]⟩] }
noncomputable def FSt.setN (σ:FSt) (k:Int) (g:NodeS):FSt:={ σ with nds:=σ.nds.map fun n=>if n.nd.key=k then { n with nd:=g } else n }
theorem FSt.setN_toS (σ:FSt)(k:Int)(g:NodeS):(σ.setN k g).toS=σ.toS.set k g:=by
 unfold FSt.setN FSt.toS SState.set
 dsimp only
 congr 1
 rw[List.map_map,List.map_map]
 apply List.map_congr_left
 intro n _
 refine(?_:(if n.nd.key=k then ({ n with nd:=g }:FN) else n).nd=if n.nd.key=k then g else n.nd)
 set_option tactic.hygienic true in split <;> rfl
theorem Ek {σ:FSt}(hk:(σ.nds.map (·.nd.key)).Nodup){n:FN}(hn:n ∈ σ.nds):σ.toS.node n.nd.key=n.nd:=by
 unfold SState.node FSt.toS
 dsimp only
 have:(σ.nds.map (·.nd)).find? (fun m=>decide (m.key=n.nd.key))=some n.nd:=by
  generalize σ.nds=l at hk hn
  induction l with
  | nil=>simp at hn
  | cons m l ih =>
   simp only [List.map_cons,List.nodup_cons]at hk
   rw[List.map_cons,List.find?_cons]
   rcases List.mem_cons.mp hn with rfl | hn
   ·simp
   ·have:¬ m.nd.key=n.nd.key:=fun e=>hk.1 (by rw[e];exact List.mem_map.mpr ⟨n,hn,rfl⟩)
    simp only [this,decide_false]
    exact ih hk.2 hn
 rw[this];rfl
section
variable {C:Cx} {lkD:Bool} {lkA:Option Addr} {H:AH} {a:Addr} {σ:FSt}
theorem Flat.n2i (F:Flat C lkD lkA H a σ):attrD C "_node2info" H (.ref a)=some (.ref σ.d):=by
 unfold attrD;dsimp only;rw[F.ha];simp only [if_true];rfl
theorem Flat.rdyA (F:Flat C lkD lkA H a σ):attrD C "_ready_nodes" H (.ref a)=some σ.rdy:=by
 unfold attrD;dsimp only;rw[F.ha];simp only [if_true]
 have:(Dp σ.d σ.rdy σ.passed σ.fin).lookup ("_ready_nodes":Str)=some σ.rdy:=rfl
 rw[this]
 have:Uy σ.rdy=true:=by unfold FSt.rdy;set_option tactic.hygienic true in split <;> rfl
 simp[this]
theorem Flat.passA (F:Flat C lkD lkA H a σ):attrD C "_npassedout" H (.ref a)=some (.int σ.passed):=by
 unfold attrD;dsimp only;rw[F.ha];simp only [if_true];rfl
theorem Flat.finA (F:Flat C lkD lkA H a σ):attrD C "_nfinished" H (.ref a)=some (.int σ.fin):=by
 unfold attrD;dsimp only;rw[F.ha];simp only [if_true];rfl
theorem Flat.keyA (F:Flat C lkD lkA H a σ){n:FN}(hn:n ∈ σ.nds):attrS C 0 H (.ref n.info)=some (.int n.nd.key):=by
 unfold attrS;dsimp only;rw[F.hi n hn];simp only [if_true];rfl
theorem Flat.npredA (F:Flat C lkD lkA H a σ){n:FN}(hn:n ∈ σ.nds):attrS C 1 H (.ref n.info)=some (.int n.nd.npred):=by
 unfold attrS;dsimp only;rw[F.hi n hn];simp only [if_true];rfl
theorem Flat.succA (F:Flat C lkD lkA H a σ){n:FN}(hn:n ∈ σ.nds):attrS C 2 H (.ref n.info)=some (.ref n.succ):=by
 unfold attrS;dsimp only;rw[F.hi n hn];simp only [if_true];rfl
theorem Nh {nds:List FN}(hk:(nds.map (·.nd.key)).Nodup){n:FN}(hn:n ∈ nds):(nds.map fun n=>(n.nd.key,AV.ref n.info)).lookup n.nd.key=some (.ref n.info):=by
 induction nds with
 | nil=>simp at hn
 | cons m l ih =>
  simp only [List.map_cons,List.nodup_cons]at hk
  rw[List.map_cons,List.lookup_cons]
  rcases List.mem_cons.mp hn with rfl | hn
  ·simp
  ·have:(n.nd.key == m.nd.key)=false:=by
    simp only [beq_eq_false_iff_ne,ne_eq]
    intro e;exact hk.1 (by rw[<- e];exact List.mem_map.mpr ⟨n,hn,rfl⟩)
   rw[this];exact ih hk.2 hn
theorem Ga {nds:List FN}{k:Int}(hk:k ∉ nds.map (·.nd.key)):(nds.map fun n=>(n.nd.key,AV.ref n.info)).lookup k=none:=by
 induction nds with
 | nil=>rfl
 | cons m l ih =>
  simp only [List.map_cons,List.mem_cons,not_or]at hk
  rw[List.map_cons,List.lookup_cons]
  have:(k == m.nd.key)=false:=by simpa using hk.1
  rw[this];exact ih hk.2
theorem Flat.dget (F:Flat C lkD lkA H a σ){n:FN}(hn:n ∈ σ.nds):La H (.ref σ.d) (.int n.nd.key)=some (.ref n.info):=by
 unfold La;simp only [F.hd];unfold FSt.dicL;rw[Nh F.nk hn];rfl
theorem Flat.dget_none (F:Flat C lkD lkA H a σ){k:Int}(hk:k ∉ σ.nds.map (·.nd.key)):La H (.ref σ.d) (.int k)=some .none:=by
 unfold La;simp only [F.hd];unfold FSt.dicL;rw[Ga hk];rfl
theorem Flat.didx (F:Flat C lkD lkA H a σ){n:FN}(hn:n ∈ σ.nds):idx H (.ref σ.d) (.int n.nd.key)=some (.ref n.info):=by
 simp only [Qs,F.hd];unfold FSt.dicL;exact Nh F.nk hn
theorem Flat.inst (F:Flat C lkD lkA H a σ):Bq C H a=some Bl:=by
 unfold Bq;rw[F.ha];simp only [if_true];rfl
noncomputable def Cq (C:Cx) (a:Addr) (σ:FSt) (b:Addr):Prop:=b ∈ (σ.L C a).map (·.1)
theorem parts_iff {b:Addr}:Cq C a σ b <-> b=a\/b=σ.d\/(σ.ready ≠ none/\b=σ.ra)\/∃ n ∈ σ.nds,b=n.info\/b=n.succ:=by
 unfold Cq FSt.L
 simp only [List.map_append,List.map_cons,List.mem_append,List.mem_cons,List.map_map,List.mem_map,Function.comp]
 constructor
 ·rintro((h | h) | ⟨n,hn,rfl⟩)
  ·rcases h with h | h | h
   ·exact .inl h
   ·exact .inr (.inl h)
   ·cases hr:σ.ready with
    | none=>rw[hr]at h;simp at h
    | some r=>rw[hr]at h;simp at h;exact .inr (.inr (.inl ⟨by simp,h.symm⟩))
  ·obtain⟨n,hn,rfl⟩:=h;exact .inr (.inr (.inr ⟨n,hn,.inl rfl⟩))
  ·exact .inr (.inr (.inr ⟨n,hn,.inr rfl⟩))
 ·rintro(h | h | ⟨h,e⟩ | ⟨n,hn,h | h⟩)
  ·exact .inl (.inl (.inl h))
  ·exact .inl (.inl (.inr (.inl h)))
  ·left;left;right;right
   cases hr:σ.ready with
   | none=>exact absurd hr h
   | some r=>simp[e]
  ·exact .inl (.inr ⟨n,hn,h.symm⟩)
  ·exact .inr ⟨n,hn,h.symm⟩
structure Frm (C:Cx) (a:Addr) (H:AH) (σ:FSt) (H':AH) (σ':FSt):Prop where
 out:∀ b,¬ Cq C a σ b->H b ≠ none->H' b=H b
 new:∀ b,Cq C a σ' b->Cq C a σ b\/H b=none
theorem Frm.refl:Frm C a H σ H σ:=⟨fun z0 z0 z0=>rfl,fun z0 h=>.inl h⟩
theorem Frm.trans {H' H'':AH}{σ' σ'':FSt}(x:Frm C a H σ H' σ')(y:Frm C a H' σ' H'' σ''):Frm C a H σ H'' σ'':=by
 refine⟨fun b hb hn=>?_,fun b hb=>?_⟩
 ·have h1:=x.out b hb hn
  rw[<- h1]
  refine y.out b (fun q=>(x.new b q).elim hb hn) ?_
  rw[h1];exact hn
 ·rcases y.new b hb with q | q
  ·exact x.new b q
  ·by_cases hp:Cq C a σ b
   ·exact .inl hp
   ·by_cases hn:H b=none
    ·exact .inr hn
    ·rw[x.out b hp hn]at q;exact absurd q hn
theorem Frm.upd1 {H':AH}{σ':FSt}(hP:∀ b,Cq C a σ' b->Cq C a σ b)(hH:∀ b,¬ Cq C a σ b->H' b=H b):Frm C a H σ H' σ':=⟨fun b hb z0=>hH b hb,fun b hb=>.inl (hP b hb)⟩
theorem setN_parts {k:Int}{g:NodeS}{b:Addr}:Cq C a (σ.setN k g) b <-> Cq C a σ b:=by
 rw[parts_iff,parts_iff]
 have:(∃ n ∈ (σ.setN k g).nds,b=n.info\/b=n.succ) <-> ∃ n ∈ σ.nds,b=n.info\/b=n.succ:=by
  unfold FSt.setN
  dsimp only
  constructor
  ·rintro⟨n,hn,h⟩
   obtain⟨m,hm,rfl⟩:=List.mem_map.mp hn
   refine⟨m,hm,?_⟩
   set_option tactic.hygienic true in split at h <;> exact h
  ·rintro⟨n,hn,h⟩
   refine⟨_,List.mem_map.mpr ⟨n,hn,rfl⟩,?_⟩
   set_option tactic.hygienic true in split <;> exact h
 rw[this];rfl
theorem Wa {k:Int}{g:NodeS}:(σ.setN k g).nds.map (·.info)=σ.nds.map (·.info):=by
 unfold FSt.setN;dsimp only;rw[List.map_map];apply List.map_congr_left;intro n _;show FN.info (if _ then _ else _)=_;set_option tactic.hygienic true in split <;> rfl
theorem Vy {k:Int}{g:NodeS}:(σ.setN k g).nds.map (·.succ)=σ.nds.map (·.succ):=by
 unfold FSt.setN;dsimp only;rw[List.map_map];apply List.map_congr_left;intro n _;show FN.succ (if _ then _ else _)=_;set_option tactic.hygienic true in split <;> rfl
theorem Yl {k:Int}{g:NodeS}(hg:g.key=k):(σ.setN k g).nds.map (·.nd.key)=σ.nds.map (·.nd.key):=by
 unfold FSt.setN;dsimp only;rw[List.map_map];apply List.map_congr_left;intro n _
 refine(?_:(if n.nd.key=k then ({ n with nd:=g }:FN) else n).nd.key=n.nd.key)
 set_option tactic.hygienic true in split
 ·rename_i h;rw[h];exact hg
 ·rfl
theorem Wb {k:Int}{g:NodeS}(hg:g.key=k):(σ.setN k g).dicL=σ.dicL:=by
 unfold FSt.dicL FSt.setN;dsimp only;rw[List.map_map];apply List.map_congr_left;intro n _
 refine(?_:((if n.nd.key=k then ({ n with nd:=g }:FN) else n).nd.key,AV.ref (if n.nd.key=k then ({ n with nd:=g }:FN) else n).info)=(n.nd.key,.ref n.info))
 set_option tactic.hygienic true in split
 ·rename_i h;rw[h];refine(?_:(g.key,_)=_);rw[hg]
 ·rfl
theorem Flat.node (F:Flat C lkD lkA H a σ){n0:FN}(hn0:n0 ∈ σ.nds){g:NodeS}(hg:g.key=n0.nd.key){H':AH}(hi':H' n0.info=some (.f (.slots C.niC (Et { n0 with nd:=g }))))(hs':H' n0.succ=some (.f (.lst (decide (lkA=some n0.succ)) (g.succs.map .int))))
  (ho:∀ b,b ≠ n0.info->b ≠ n0.succ->H' b=H b):Flat C lkD lkA H' a (σ.setN n0.nd.key g):=by
 have hne:∀ n ∈ σ.nds,n.nd.key ≠ n0.nd.key->n.info ≠ n0.info/\n.succ ≠ n0.succ:=fun n hn hk=>by
  have h1:=F.ni
  have h2:=F.ns
  refine⟨fun e=>hk ?_,fun e=>hk ?_⟩
  ·have:n=n0:=by
    rw[List.Nodup,List.pairwise_map]at h1
    clear F h2 hg hi' hk ho hs';obtain⟨i,hi,rfl⟩:=List.getElem_of_mem hn
    obtain⟨j,hj,rfl⟩:=List.getElem_of_mem hn0
    rw[List.pairwise_iff_getElem]at h1
    rcases Nat.lt_trichotomy i j with l | l | l
    ·exact absurd e (h1 i j hi hj l)
    ·subst l;rfl
    ·exact absurd e.symm (h1 j i hj hi l)
   rw[this]
  ·have:n=n0:=by
    rw[List.Nodup,List.pairwise_map]at h2
    clear F h1 hg hi' hk ho hs';obtain⟨i,hi,rfl⟩:=List.getElem_of_mem hn
    obtain⟨j,hj,rfl⟩:=List.getElem_of_mem hn0
    rw[List.pairwise_iff_getElem]at h2
    rcases Nat.lt_trichotomy i j with l | l | l
    ·exact absurd e (h2 i j hi hj l)
    ·subst l;rfl
    ·exact absurd e.symm (h2 j i hj hi l)
   rw[this]
 have hsame:∀ n ∈ σ.nds,n.nd.key=n0.nd.key->n=n0:=fun n hn hk=>by
  have h1:=F.nk
  rw[List.Nodup,List.pairwise_map]at h1
  clear F hg hi' hne ho hs';obtain⟨i,hi,rfl⟩:=List.getElem_of_mem hn
  obtain⟨j,hj,rfl⟩:=List.getElem_of_mem hn0
  rw[List.pairwise_iff_getElem]at h1
  rcases Nat.lt_trichotomy i j with l | l | l
  ·exact absurd hk (h1 i j hi hj l)
  ·subst l;rfl
  ·exact absurd hk.symm (h1 j i hj hi l)
 have his:∀ n ∈ σ.nds,n.info ≠ n0.succ:=fun n hn q=>by have:=F.hi n hn;rw[q,F.hs n0 hn0]at this;cases this
 have hsi:∀ n ∈ σ.nds,n.succ ≠ n0.info:=fun n hn q=>by have:=F.hs n hn;rw[q,F.hi n0 hn0]at this;cases this
 have hai:a ≠ n0.info:=fun q=>by have:=F.ha;rw[q,F.hi n0 hn0]at this;cases this
 have has:a ≠ n0.succ:=fun q=>by have:=F.ha;rw[q,F.hs n0 hn0]at this;cases this
 have hdi:σ.d ≠ n0.info:=fun q=>by have:=F.hd;rw[q,F.hi n0 hn0]at this;cases this
 have hds:σ.d ≠ n0.succ:=fun q=>by have:=F.hd;rw[q,F.hs n0 hn0]at this;cases this
 refine⟨?_,?_,fun r hr=>?_,fun n hn=>?_,fun n hn=>?_,by rw[Wa];exact F.ni,by rw[Vy];exact F.ns,by rw[Yl hg];exact F.nk,fun hr n hn=>?_⟩
 ·rw[ho a hai has];exact F.ha
 ·refine(?_:H' σ.d=_)
  rw[ho _ hdi hds,Wb hg];exact F.hd
 ·refine(?_:H' σ.ra=_)
  have h1:=F.hr r hr
  rw[ho _ (fun q=>by rw[q,F.hi n0 hn0]at h1;clear hai has hdi hds hg hi' his hne ho hs' hsame hsi;cases h1) (fun q=>F.nr (by rw[show σ.ready=some r from hr];simp) n0 hn0 q.symm)]
  exact h1
 ·clear hai has hdi hds hg hn0 hs' hsi;obtain⟨m,hm,rfl⟩:=List.mem_map.mp hn
  by_cases hk:m.nd.key=n0.nd.key
  ·have:=hsame m hm hk;subst this
   simp only [if_true];exact hi'
  ·simp only [hk,if_false]
   rw[ho _ (hne m hm hk).1 (his m hm)];exact F.hi m hm
 ·clear hai has hdi hds hg hi' his hn0;obtain⟨m,hm,rfl⟩:=List.mem_map.mp hn
  by_cases hk:m.nd.key=n0.nd.key
  ·have:=hsame m hm hk;subst this
   simp only [if_true];exact hs'
  ·simp only [hk,if_false]
   rw[ho _ (hsi m hm) (hne m hm hk).2];exact F.hs m hm
 ·clear hai has hdi hds hg hi' his hn0 hne ho hs' hsame hsi;obtain⟨m,hm,rfl⟩:=List.mem_map.mp hn
  have:=F.nr hr m hm
  set_option tactic.hygienic true in split <;> exact this
end
end Mine
end
section
namespace Mine
section
variable {C:Cx} {lkD:Bool} {lkA:Option Addr} {H:AH} {a:Addr} {σ:FSt}
theorem Gu {i:Nat}{x:Addr}{vs:List (Option AV)}{v:AV}(h:H x=some (.f (.slots C.niC vs)))(hv:v.sto=true):He C i H (.ref x) v=some (upd H x (.f (.slots C.niC (Gd vs i v)))):=by
 unfold He;dsimp only;rw[h];dsimp only;rw[if_pos ⟨rfl,hv⟩]
theorem Fg {name:Str}{at':List (Str × AV)}{v:AV}(h:H a=some (.f (.inst C.tsC at')))(hv:v.sto=true)(hz:(Dx at' name v).length<=1000):Ia C name H (.ref a) v=some (upd H a (.f (.inst C.tsC (Dx at' name v)))):=by
 unfold Ia;dsimp only;rw[h];dsimp only;rw[if_pos ⟨rfl,hv,hz⟩]
theorem Pf {x:Addr}{k:Int}{Q:AV->AH->Prop}(hx:H x=some (.f (.slots C.niC [])))
  (hQ:∀ y,H y=none->Q .none (upd (upd H y (.f (.lst false []))) x (.f (.slots C.niC [some (.int k),some (.int 0),some (.ref y)])))):Hc C [.ref x,.int k] Q H:=by
 unfold Hc Cc
 refine⟨_,rfl,?_⟩
 unfold Kf
 generalize hρ:(fun i=>([.ref x,.int k]:List AV).getD i .undef)=ρ0
 change Rho at ρ0
 have r0:ρ0 0 = .ref x:=by rw[<- hρ];rfl
 have r1:ρ0 1 = .int k:=by rw[<- hρ];rfl
 refine⟨.int k,Ae r1,rfl,.ref x,_,Ah r0,Gu hx rfl,?_⟩
 refine⟨.int 0,rfl,rfl,.ref x,_,Ah r0,Gu Af rfl,?_⟩
 refine⟨.lst false [],rfl,fun y hy=>?_⟩
 have hyx:y ≠ x:=by first | exact Aj Af hy rfl | exact Aj hy Af rfl
 rw[Ab hyx,Ab hyx]at hy
 refine⟨.ref x,_,Ah r0,Gu (vs:=Gd (Gd [] 0 (.int k)) 1 (.int 0)) (by rw[Ab (Ne.symm hyx),Af]) rfl,?_⟩
 have:=hQ y hy
 refine(?_:Q .none _)
 have e:upd (upd (upd (upd H x (.f (.slots C.niC (Gd [] 0 (.int k))))) x (.f (.slots C.niC (Gd (Gd [] 0 (.int k)) 1 (.int 0))))) y (.f (.lst false []))) x (.f (.slots C.niC (Gd (Gd (Gd [] 0 (.int k)) 1 (.int 0)) 2 (.ref y))))
   = upd (upd H y (.f (.lst false []))) x (.f (.slots C.niC [some (.int k),some (.int 0),some (.ref y)])):=by
  funext b
  unfold upd
  by_cases h1:b=x
  ·simp only [h1,if_true];rfl
  ·simp only [h1,if_false]
 rw[e];exact this
noncomputable def FSt.addN (σ:FSt) (n:FN):FSt:={ σ with nds:=σ.nds++[n] }
theorem Xd {n:FN}{Q:AV->AH->Prop}(F:Flat C lkD lkA H a σ)(hn:n ∈ σ.nds)(hQ:Q (.ref n.info) H):Ap C [.ref a,.int n.nd.key] Q H:=by
 unfold Ap Cc
 refine⟨_,rfl,?_⟩
 unfold Cj
 generalize hρ:(fun i=>([.ref a,.int n.nd.key]:List AV).getD i .undef)=ρ0
 change Rho at ρ0
 have r0:ρ0 0 = .ref a:=by rw[<- hρ];rfl
 have r1:ρ0 1 = .int n.nd.key:=by rw[<- hρ];rfl
 refine⟨.ref n.info,false,?_,rfl,rfl,?_⟩
 ·simp only [opP,Au,Ah r0,F.n2i,Ae r1];exact F.dget hn
 simp only [Bool.false_eq_true,if_false]
 exact⟨.ref n.info,Ah (by simp),rfl,hQ⟩
theorem dR {k:Int}{Q:AV->AH->Prop}(F:Flat C false lkA H a σ)(hk:k ∉ σ.nds.map (·.nd.key))(hz:σ.nds.length < lim)(hlA:∀ y,H y=none->lkA ≠ some y)
  (hQ:∀ x y H',H x=none->H y=none->x ≠ y->Flat C false lkA H' a (σ.addN ⟨x,y,⟨k,0,[]⟩⟩)->Frm C a H σ H' (σ.addN ⟨x,y,⟨k,0,[]⟩⟩)->Q (.ref x) H'):Ap C [.ref a,.int k] Q H:=by
 unfold Ap Cc
 refine⟨_,rfl,?_⟩
 unfold Cj
 generalize hρ:(fun i=>([.ref a,.int k]:List AV).getD i .undef)=ρ0
 change Rho at ρ0
 have r0:ρ0 0 = .ref a:=by rw[<- hρ];rfl
 have r1:ρ0 1 = .int k:=by rw[<- hρ];rfl
 refine⟨.none,true,?_,rfl,rfl,?_⟩
 ·simp only [opP,Au,Ah r0,F.n2i,Ae r1];exact F.dget_none hk
 simp only [if_true]
 have q0:(ρ0.set 2 .none) 0 = .ref a:=by simp[Rho.set,r0]
 have q1:(ρ0.set 2 .none) 1 = .int k:=by simp[Rho.set,r1]
 refine⟨[.int k],by simp only [Aa,Ak,Ae q1],rfl,?_⟩
 intro x hx
 refine Pf Af fun y hy=>⟨rfl,?_⟩
 have hyx:y ≠ x:=by first | exact Aj Af hy rfl | exact Aj hy Af rfl
 rw[Ab hyx]at hy
 have hdx:σ.d ≠ x:=Aj F.hd hx rfl
 have hdy:σ.d ≠ y:=Aj F.hd hy rfl
 have hax:a ≠ x:=Aj F.ha hx rfl
 have hay:a ≠ y:=Aj F.ha hy rfl
 have had:a ≠ σ.d:=Aj F.ha F.hd rfl
 generalize hH1:upd (upd (upd H x (.f (.slots C.niC []))) y (.f (.lst false []))) x (.f (.slots C.niC [some (.int k),some (.int 0),some (.ref y)]))=H1
 have e1:∀ b,b ≠ x->b ≠ y->H1 b=H b:=fun b h1 h2=>by rw[<- hH1,Ab h1,Ab h2,Ab h1]
 have e2:H1 x=some (.f (.slots C.niC [some (.int k),some (.int 0),some (.ref y)])):=by rw[<- hH1,Af]
 have e3:H1 y=some (.f (.lst false [])):=by rw[<- hH1,Ab hyx,Af]
 have hH1a:attrD C "_node2info" H1 (.ref a)=some (.ref σ.d):=by
  have:=F.n2i
  unfold attrD at this ⊢
  dsimp only at this ⊢
  rw[e1 a hax hay];exact this
 have hset:Hl H1 (.ref σ.d) (.int k) (.ref x)=some (upd H1 σ.d (.f (.dic false (σ.dicL++[(k,.ref x)])))):=by
  rw[Ng]
  simp only [e1 σ.d hdx hdy,F.hd]
  rw[if_pos ⟨by unfold FSt.dicL;rw[Ga hk];rfl,rfl,by simpa [FSt.dicL]using hz⟩]
 refine⟨.ref σ.d,.int k,_,?_,Ae q1,hset,?_⟩
 ·simp only [Au,Ah q0];exact hH1a
 refine⟨.ref x,Ah (by simp),rfl,?_⟩
 have g1:∀ b,b ≠ x->b ≠ y->b ≠ σ.d->upd H1 σ.d (.f (.dic false (σ.dicL++[(k,.ref x)]))) b=H b:=fun b h1 h2 h3=>by rw[Ab h3,e1 b h1 h2]
 have gx:upd H1 σ.d (.f (.dic false (σ.dicL++[(k,.ref x)]))) x=some (.f (.slots C.niC [some (.int k),some (.int 0),some (.ref y)])):=by rw[Ab (Ne.symm hdx),e2]
 have gy:upd H1 σ.d (.f (.dic false (σ.dicL++[(k,.ref x)]))) y=some (.f (.lst false [])):=by rw[Ab (Ne.symm hdy),e3]
 have ixn:∀ n ∈ σ.nds,n.info ≠ x/\n.info ≠ y/\n.info ≠ σ.d/\n.succ ≠ x/\n.succ ≠ y/\n.succ ≠ σ.d:=fun n hn=>by
  have h1:=F.hi n hn
  have h2:=F.hs n hn
  refine⟨fun q=>?_,fun q=>?_,fun q=>?_,fun q=>?_,fun q=>?_,fun q=>?_⟩
  ·rw[q,hx]at h1;exact nqa h1
  ·rw[q,hy]at h1;exact nqa h1
  ·rw[q,F.hd]at h1;clear F e1 e2 e3 g1 gx gy h2 hH1 hH1a hQ had hax hay hdx hdy hk hlA hn hset hx hy hyx hz hρ q q0 q1 r0 r1;cases h1
  ·rw[q,hx]at h2;exact nqa h2
  ·rw[q,hy]at h2;exact nqa h2
  ·rw[q,F.hd]at h2;clear F e1 e2 e3 g1 gx gy h1 hH1 hH1a hQ had hax hay hdx hdy hk hlA hn hset hx hy hyx hz hρ q q0 q1 r0 r1;cases h2
 refine hQ x y _ hx hy (Ne.symm hyx) ⟨?_,?_,fun r hr=>?_,fun n hn=>?_,fun n hn=>?_,?_,?_,?_,fun hr n hn=>?_⟩ ⟨fun b hb hne=>?_,fun b hb=>?_⟩
 ·rw[g1 a hax hay had];exact F.ha
 ·refine(?_:upd H1 σ.d _ σ.d=_)
  rw[Af]
  simp[FSt.addN,FSt.dicL]
 ·refine(?_:upd H1 σ.d _ σ.ra=_)
  have h1:=F.hr r hr
  rw[g1 σ.ra (Aj h1 hx rfl) (Aj h1 hy rfl) (Aj h1 F.hd rfl)]
  exact h1
 ·rcases List.mem_append.mp hn with hn | hn
  ·refine Ag fun PP ret=>?_
   obtain⟨i1,i2,i3,_⟩:=ixn n hn
   refine ret ?_
   rw[g1 _ i1 i2 i3];exact F.hi n hn
  ·simp at hn;clear F e1 e2 e3 g1 gy hH1 hH1a hQ had hax hay hdx hdy hk hlA hset hx hy hyx hz hρ ixn q0 q1 r0 r1;subst hn;exact gx
 ·rcases List.mem_append.mp hn with hn | hn
  ·refine Ag fun PP ret=>?_
   obtain⟨_,_,_,i1,i2,i3⟩:=ixn n hn
   refine ret ?_
   rw[g1 _ i1 i2 i3];exact F.hs n hn
  ·simp at hn;clear F e1 e2 e3 g1 gx hH1 hH1a hQ had hax hay hdx hdy hk hset hx hyx hz hρ ixn q0 q1 r0 r1;subst hn
   refine(?_:upd H1 σ.d _ y=_)
   rw[gy]
   have:lkA ≠ some y:=hlA y hy
   simp[this]
 ·refine(?_:((σ.nds++[_]).map _).Nodup)
  rw[List.map_append,List.nodup_append]
  refine⟨F.ni,by simp,fun u hu v hv=>?_⟩
  simp at hv;clear F e1 e2 e3 g1 gx gy hH1 hH1a hQ had hax hay hdx hdy hk hlA hset hx hy hyx hz hρ q0 q1 r0 r1;subst hv
  refine Ag fun PP ret=>?_
  obtain⟨n,hn,rfl⟩:=List.mem_map.mp hu
  refine ret ?_
  exact(ixn n hn).1
 ·refine(?_:((σ.nds++[_]).map _).Nodup)
  rw[List.map_append,List.nodup_append]
  refine⟨F.ns,by simp,fun u hu v hv=>?_⟩
  simp at hv;clear F e1 e2 e3 g1 gx gy hH1 hH1a hQ had hax hay hdx hdy hk hlA hset hx hy hyx hz hρ q0 q1 r0 r1;subst hv
  refine Ag fun PP ret=>?_
  obtain⟨n,hn,rfl⟩:=List.mem_map.mp hu
  refine ret ?_
  exact(ixn n hn).2.2.2.2.1
 ·refine(?_:((σ.nds++[_]).map _).Nodup)
  rw[List.map_append,List.nodup_append]
  refine⟨F.nk,by simp,fun u hu v hv=>?_⟩
  simp at hv;clear F e1 e2 e3 g1 gx gy hH1 hH1a hQ had hax hay hdx hdy hlA hset hx hy hyx hz hρ ixn q0 q1 r0 r1;subst hv
  exact fun e=>hk (e ▸ hu)
 ·rcases List.mem_append.mp hn with hn | hn
  ·exact F.nr hr n hn
  ·simp at hn;clear e1 e2 e3 g1 gx gy hH1 hH1a hQ had hax hay hdx hdy hk hlA hset hx hyx hz hρ ixn q0 q1 r0 r1;subst hn
   refine(?_:y ≠ σ.ra)
   intro e
   cases q:σ.ready with
   | none=>exact hr q
   | some r=>have:=F.hr r q;rw[<- e,hy]at this;exact nqa this
 ·refine g1 b (fun q=>?_) (fun q=>?_) (fun q=>hb (parts_iff.mpr (.inr (.inl q))))
  ·rw[q]at hne;exact hne hx
  ·rw[q]at hne;exact hne hy
 ·rcases parts_iff.mp hb with q | q | q | ⟨n,hn,q⟩
  ·exact .inl (parts_iff.mpr (.inl q))
  ·exact .inl (parts_iff.mpr (.inr (.inl q)))
  ·exact .inl (parts_iff.mpr (.inr (.inr (.inl q))))
  ·rcases List.mem_append.mp hn with hn | hn
   ·exact .inl (parts_iff.mpr (.inr (.inr (.inr ⟨n,hn,q⟩))))
   ·simp at hn;clear F e1 e2 e3 g1 gx gy hH1 hH1a hQ had hax hay hb hdx hdy hk hlA hset hyx hz hρ ixn q0 q1 r0 r1;subst hn
    rcases q with q | q
    ·right;rw[q];exact hx
    ·right;rw[q];exact hy
theorem Qu {k:Int}{Q:AV->AH->Prop}(F:Flat C false none H a σ)(hz:σ.nds.length < lim)
  (hQ:∀ H' σ' n,Flat C false none H' a σ'->Frm C a H σ H' σ'->n ∈ σ'.nds->n.nd.key=k->σ'.toS=σ.toS.get k->Q (.ref n.info) H'):Ap C [.ref a,.int k] Q H:=by
 by_cases hk:k ∈ σ.nds.map (·.nd.key)
 ·obtain⟨n,hn,rfl⟩:=List.mem_map.mp hk
  refine Xd F hn (hQ H σ n F .refl hn rfl ?_)
  unfold SState.get
  rw[if_pos (by simpa [SState.keys,FSt.toS,List.map_map,Function.comp_def]using hk)]
 ·refine dR F hk hz (fun z0 z0 q=>by exact nqa q) fun x y H' hx hy hxy F' fr=>hQ H' _ ⟨x,y,⟨k,0,[]⟩⟩ F' fr (by simp[FSt.addN]) rfl ?_
  unfold SState.get
  rw[if_neg (by simpa [SState.keys,FSt.toS,List.map_map,Function.comp_def]using hk)]
  simp[FSt.toS,FSt.addN]
end
end Mine
end
section
namespace Mine
noncomputable def SState.Bd (S:SState) (B:Nat):Prop:=S.nodes.length<=B/\∀ n ∈ S.nodes,n.succs.length<=B
noncomputable def SState.arc (k:Int) (S:SState) (p:Int):SState:=(S.get p).set p { (S.get p).node p with succs:=((S.get p).node p).succs++[k] }
noncomputable def SState.add (S:SState) (k:Int) (ps:List Int):SState:=ps.foldl (SState.arc k) ((S.get k).set k { (S.get k).node k with npred:=((S.get k).node k).npred + ps.length })
theorem SState.Bd.mono {S:SState}{B B':Nat}(h:S.Bd B)(hB:B<=B'):S.Bd B':=⟨Nat.le_trans h.1 hB,fun n hn=>Nat.le_trans (h.2 n hn) hB⟩
theorem SState.Bd.get {S:SState}{B:Nat}(h:S.Bd B)(k:Int):(S.get k).Bd (B + 1):=by
 unfold SState.get
 split
 ·exact h.mono (Nat.le_succ _)
 ·refine⟨by simp;exact h.1,fun n hn=>?_⟩
  rcases List.mem_append.mp hn with q | q
  ·exact Nat.le_succ_of_le (h.2 n q)
  ·simp at q;clear h hn;subst q;simp
theorem SState.Bd.set {S:SState}{B:Nat}(h:S.Bd B){k:Int}{g:NodeS}(hg:g.succs.length<=B):(S.set k g).Bd B:=by
 refine⟨by simp[SState.set];exact h.1,fun n hn=>?_⟩
 obtain⟨m,hm,rfl⟩:=List.mem_map.mp hn
 split
 ·exact hg
 ·exact h.2 m hm
theorem SState.node_succs {S:SState}{B:Nat}(h:S.Bd B)(k:Int):(S.node k).succs.length<=B:=by
 unfold SState.node
 cases q:S.nodes.find? (fun n=>decide (n.key=k)) with
 | none=>simp
 | some n=>exact h.2 n (List.mem_of_find?_eq_some q)
theorem SState.Bd.arc {S:SState}{B:Nat}(h:S.Bd B)(k p:Int):(S.arc k p).Bd (B + 2):=by
 unfold SState.arc
 have h1:=h.get p
 refine(h1.mono (Nat.le_succ _)).set ?_
 have:=SState.node_succs h1 p
 simp;exact Ar.r72 this
theorem SState.ready_get {S:SState}{k:Int}:(S.get k).ready=S.ready:=by unfold SState.get;split <;> rfl
section
variable {C:Cx} {lkD:Bool} {lkA:Option Addr} {H:AH} {a:Addr} {σ:FSt}
theorem Qc {i:Nat}{W:Wp AV}{T':Wp AFlow}{Q:AFlow->Rho->AH->Prop}{ρ:Rho}{H:AH}(h:W (fun v ρ H=>T' Q (ρ.set i v) H) ρ H):Ad (Bh i W) T' Q ρ H:=h
theorem Qd {c:CF}{T T':Wp AFlow}{Q:AFlow->Rho->AH->Prop}{ρ:Rho}{H:AH}(hc:c ρ H=some false)(h:T' Q ρ H):Ad (ifT (Bg c) T Ai) T' Q ρ H:=⟨false,hc,h⟩
theorem Ay (l:List Int):AV.stos (l.map .int)=true:=by rw[stos_iff];intro v hv;obtain⟨x,_,rfl⟩:=List.mem_map.mp hv;rfl
theorem Qp {vs:List AV}:Er H [.tup vs]=some (.int vs.length):=rfl
theorem Flat.app (F:Flat C false none H a σ){n:FN}(hn:n ∈ σ.nds){k:Int}:Flat C false none (upd H n.succ (.f (.lst false ((n.nd.succs++[k]).map .int)))) a (σ.setN n.nd.key { n.nd with succs:=n.nd.succs++[k] }) /\
  Frm C a H σ (upd H n.succ (.f (.lst false ((n.nd.succs++[k]).map .int)))) (σ.setN n.nd.key { n.nd with succs:=n.nd.succs++[k] }):=by
 have hsi:n.info ≠ n.succ:=fun q=>by have:=F.hi n hn;rw[q,F.hs n hn]at this;cases this
 refine⟨F.node (g:={ n.nd with succs:=n.nd.succs++[k] }) (H':=upd H n.succ (.f (.lst false ((n.nd.succs++[k]).map .int)))) hn rfl ?_ ?_ fun b h1 h2=>Ab h2,.upd1 (fun b hb=>setN_parts.mp hb) fun b hb=>Ab fun q=>hb (parts_iff.mpr (.inr (.inr (.inr ⟨n,hn,.inr q⟩))))⟩
 ·rw[Ab hsi];exact F.hi n hn
 ·rw[Af];simp
theorem Flat.npred (F:Flat C lkD lkA H a σ){n:FN}(hn:n ∈ σ.nds){v:Int}:Flat C lkD lkA (upd H n.info (.f (.slots C.niC (Gd (Et n) 1 (.int v))))) a (σ.setN n.nd.key { n.nd with npred:=v }) /\
  Frm C a H σ (upd H n.info (.f (.slots C.niC (Gd (Et n) 1 (.int v))))) (σ.setN n.nd.key { n.nd with npred:=v }):=by
 have hsi:n.succ ≠ n.info:=fun q=>by have:=F.hi n hn;rw[<- q,F.hs n hn]at this;cases this
 refine⟨F.node (g:={ n.nd with npred:=v }) (H':=upd H n.info (.f (.slots C.niC (Gd (Et n) 1 (.int v))))) hn rfl ?_ ?_ fun b h1 h2=>Ab h1,.upd1 (fun b hb=>setN_parts.mp hb) fun b hb=>Ab fun q=>hb (parts_iff.mpr (.inr (.inr (.inr ⟨n,hn,.inl q⟩))))⟩
 ·rw[Af];rfl
 ·rw[Ab hsi];exact F.hs n hn
theorem Qo {f:PF}{ρ:Rho}{k:Int}{fs:LF}{Q:AV->Rho->AH->Prop}(F:Flat C lkD lkA H a σ)(hf:f ρ H=some (.ref a))(hfs:fs ρ H=some [.int k])(hW:Ap C [.ref a,.int k] (fun v H'=>Q v ρ H') H):Eu C "_get_nodeinfo" f fs (Ap C) Q ρ H :=
 ⟨a,Bl,[.int k],hf,F.inst,by decide,hfs,rfl,hW⟩
theorem bW {k:Int}{ps:List Int}{B:Nat}{Q:AV->AH->Prop}(F:Flat C false none H a σ)(hr:σ.ready=none)(hB:σ.toS.Bd B)(hz:B + 2 * ps.length + 2 < lim)
  (hQ:∀ H' σ',Flat C false none H' a σ'->Frm C a H σ H' σ'->σ'.toS=σ.toS.add k ps->Q .none H'):Jd C (.ref a :: .int k :: ps.map .int) Q H:=by
 unfold Jd Cc
 refine⟨[.ref a,.int k,.tup (ps.map .int)],?_,?_⟩
 ·unfold Lb;rw[if_pos ⟨by simp,by simp;exact Ar.r126 hz⟩];rfl
 unfold Nm
 generalize hρ:(fun i=>([.ref a,.int k,.tup (ps.map .int)]:List AV).getD i .undef)=ρ0
 change Rho at ρ0
 have r0:ρ0 0 = .ref a:=by rw[<- hρ];rfl
 have r1:ρ0 1 = .int k:=by rw[<- hρ];rfl
 have r2:ρ0 2 = .tup (ps.map .int):=by rw[<- hρ];rfl
 refine Qd ?_ ?_
 ·simp only [Aw,Au,Ah r0,F.rdyA,cP]
  unfold FSt.rdy;rw[hr];rfl
 refine Qc (Qo (k:=k) F (Ah r0) (by simp only [Aa,Ak,Ae r1]) ?_)
 refine Qu F (by have:=hB.1;simp[FSt.toS]at this;exact Ar.r125 hz this) fun H1 σ1 n F1 fr1 hn1 hk1 hS1=>?_
 have q3:(ρ0.set 3 (.ref n.info)) 3 = .ref n.info:=by simp
 have q2:(ρ0.set 3 (.ref n.info)) 2 = .tup (ps.map .int):=by simp[Rho.set,r2]
 have q0:(ρ0.set 3 (.ref n.info)) 0 = .ref a:=by simp[Rho.set,r0]
 have q1:(ρ0.set 3 (.ref n.info)) 1 = .int k:=by simp[Rho.set,r1]
 have v2:∀ H,vP 2 (ρ0.set 3 (.ref n.info)) H=some (.tup (ps.map .int)):=fun H=>by unfold vP;rw[q2]
 refine⟨.ref n.info,.int n.nd.npred,.int ps.length,.int (n.nd.npred + ps.length),_,Ah q3,F1.npredA hn1,?_,rfl,Gu (F1.hi n hn1) rfl,?_⟩
 ·simp only [bP',Aa,Ak,v2,Qp,List.length_map]
 obtain⟨F2,fr2⟩:=F1.npred hn1 (v:=n.nd.npred + ps.length)
 generalize upd H1 n.info (.f (.slots C.niC (Gd (Et n) 1 (.int (n.nd.npred + ps.length)))))=H2 at F2 fr2 ⊢
 have hS2:(σ1.setN n.nd.key { n.nd with npred:=n.nd.npred + ps.length }).toS=(σ.toS.get k).set k { (σ.toS.get k).node k with npred:=((σ.toS.get k).node k).npred + ps.length }:=by
  rw[FSt.setN_toS,hS1]
  have:n.nd=(σ.toS.get k).node k:=by rw[<- hS1,<- hk1];exact(Ek F1.nk hn1).symm
  rw[hk1,this]
 generalize σ1.setN n.nd.key { n.nd with npred:=n.nd.npred + ps.length }=σ2 at F2 fr2 hS2
 have fr12:=fr1.trans fr2
 refine⟨ps.map .int,?_,Ay ps,?_⟩
 ·unfold Hf;rw[v2];rfl
 have hB2:σ2.toS.Bd (B + 1):=by
  rw[hS2]
  exact(hB.get k).set (SState.node_succs (hB.get k) k)
 unfold SState.add at hQ
 rw[<- hS2]at hQ
 clear hS2 F1 fr1 fr2 hS1
 generalize hρ1:ρ0.set 3 (.ref n.info)=ρ1 at q0 q1 ⊢
 clear hρ1
 have main:∀ (l:List Int) (B:Nat) (ρ:Rho) (H2:AH) (σ2:FSt),Flat C false none H2 a σ2->Frm C a H σ H2 σ2->σ2.toS.Bd B->B + 2 * l.length < lim->ρ 0 = .ref a->ρ 1 = .int k->(∀ H' σ',Flat C false none H' a σ'->Frm C a H σ H' σ'->σ'.toS=l.foldl (SState.arc k) σ2.toS->Q .none H') ->
   Dz (.one 4) (Ad (Bh 5 (Eu C "_get_nodeinfo" (vP 0) (Aa (vP 4) Ak) (Ap C))) (Ad (Bm (Kd (Au (attrS C 2) (vP 5)) (vP 1))) Ai)) (fun f ρ H=>match f with
    | .next=>Ai (fun fl z0 H'=>match fl with | .ret v=>Q v H' | .next=>Q .none H' | _=>False) ρ H
    | f=>(match f with | .ret v=>Q v H | .next=>Q .none H | _=>False)) (l.map .int) ρ H2:=by
  intro l
  induction l with
  | nil=>intro B ρ H2 σ2 F2 fr2 hB hz e0 e1 hQ;exact hQ H2 σ2 F2 fr2 rfl
  | cons p l ih =>
   intro B ρ H2 σ2 F2 fr2 hB hz e0 e1 hQ
   simp only [List.length_cons]at hz
   refine⟨ρ.set 4 (.int p),rfl,?_⟩
   refine Qc (Qo (k:=p) F2 (Ah (by simp[Rho.set,e0])) (by simp only [Aa,Ak,Ae (i:=4) (ρ:=ρ.set 4 (.int p)) (x:=p) (by simp)]) ?_)
   refine Qu F2 (by have:=hB.1;simp[FSt.toS]at this;exact Ar.r141 hz this) fun H3 σ3 m F3 fr3 hm hmk hS3=>?_
   have hB3:σ3.toS.Bd (B + 1):=by rw[hS3];exact hB.get p
   have hml:m.nd.succs.length<=B + 1:=hB3.2 m.nd (List.mem_map.mpr ⟨m,hm,rfl⟩)
   obtain⟨F4,fr4⟩:=F3.app hm (k:=k)
   refine⟨.ref m.succ,m.nd.succs.map .int,.int k,upd H3 m.succ (.f (.lst false (m.nd.succs.map .int++[.int k]))),?_,?_,Ae (by simp[Rho.set,e1]),?_,?_⟩
   ·simp only [Au,Ah (i:=5) (ρ:=(ρ.set 4 (.int p)).set 5 (.ref m.info)) (x:=m.info) (by simp)];exact F3.succA hm
   ·have:=F3.hs m hm;simp at this;simp[Fh,Hp,this]
   ·have:=F3.hs m hm
    simp at this
    unfold Ih;simp only [this]
    rw[if_pos ⟨by simp;exact Ar.r140 hz hml,by rw[stos_iff];intro v hv;simp at hv;rcases hv with ⟨x,_,rfl⟩ | rfl <;> rfl⟩]
   have e:m.nd.succs.map AV.int++[.int k]=(m.nd.succs++[k]).map .int:=by simp
   rw[e]
   have hS4:(σ3.setN m.nd.key { m.nd with succs:=m.nd.succs++[k] }).toS=SState.arc k σ2.toS p:=by
    rw[FSt.setN_toS,hS3]
    unfold SState.arc
    have:m.nd=(σ2.toS.get p).node p:=by rw[<- hS3,<- hmk];exact(Ek F3.nk hm).symm
    rw[hmk,this]
   refine ih (B + 2) _ _ _ F4 ((fr2.trans fr3).trans fr4) ?_ (by exact Ar.r142 hz) (by simp[Rho.set,e0]) (by simp[Rho.set,e1]) ?_
   ·rw[hS4];exact hB.arc k p
   ·intro H' σ' F' fr' hS'
    refine hQ H' σ' F' fr' ?_
    rw[hS',hS4];rfl
 exact main ps (B + 1) _ H2 σ2 F2 fr12 hB2 (by exact Ar.r127 hz) q0 q1 hQ
end
end Mine
end
section
namespace Mine
section
variable {C:Cx} {i:Nat} {f f' fv fo fi:PF} {fs:LF} {W:FW} {T T' T1 T2:Wp AFlow} {Q:AFlow->Rho->AH->Prop} {ρ:Rho} {H:AH} {v:AV} {vs:List AV} {c:CF} {tg:Tgt} {a:Addr}
theorem Jr (hv:f ρ H=some v)(hs:v.sto=true)(h:T' Q (ρ.set i v) H):Ad (Bh i (Aq f)) T' Q ρ H:=⟨v,hv,hs,h⟩
theorem Fv {m:Rho->AH->Option FObj}{o:FObj}(hm:m ρ H=some o)(h:∀ a,H a=none->T' Q (ρ.set i (.ref a)) (upd H a (.f o))):Ad (Bh i (Ch m)) T' Q ρ H:=⟨o,hm,h⟩
theorem Yp (hfs:fs ρ H=some vs)(hst:AV.stos vs=true)(h:W vs (fun v H'=>T' Q (ρ.set i v) H') H):Ad (Bh i (Hm fs W)) T' Q ρ H:=⟨vs,hfs,hst,h⟩
theorem jU {name:Str}{ns:List Str}(hf:f ρ H=some (.ref a))(hi:Bq C H a=some ns)(hn:name ∉ ns)(hfs:fs ρ H=some vs)(hst:AV.stos vs=true)(h:W (.ref a :: vs) (fun v H'=>T' Q (ρ.set i v) H') H):Ad (Bh i (Eu C name f fs W)) T' Q ρ H:=⟨a,ns,vs,hf,hi,hn,hfs,hst,h⟩
theorem Sj {name:Str}{ns:List Str}(hf:f ρ H=some (.ref a))(hi:Bq C H a=some ns)(hn:name ∉ ns)(hfs:fs ρ H=some vs)(hst:AV.stos vs=true)(h:W (.ref a :: vs) (fun v H'=>T' Q ρ H') H):Ad (Bm (Eu C name f fs W)) T' Q ρ H:=⟨a,ns,vs,hf,hi,hn,hfs,hst,h⟩
theorem jT {ov iv:AV}{H':AH}(hv:f ρ H=some v)(hs:v.sto=true)(ho:fo ρ H=some ov)(hi:fi ρ H=some iv)(hset:Sd H ov iv v=some H')(h:T' Q ρ H'):Ad (Vx (Aq f) fo fi) T' Q ρ H:=⟨v,hv,hs,ov,iv,H',ho,hi,hset,h⟩
theorem cO {vs:List AV}{x:AV}{H':AH}(hv:f ρ H=some v)(hs:Av H v=some vs)(hx:f' ρ H=some x)(hp:Ih H v (vs++[x])=some H')(h:T' Q ρ H'):Ad (Bm (Kd f f')) T' Q ρ H:=⟨v,vs,x,H',hv,hs,hx,hp,h⟩
theorem Wi (hc:c ρ H=some true)(h:Ad T1 T' Q ρ H):Ad (ifT (Bg c) T1 T2) T' Q ρ H:=⟨true,hc,h⟩
theorem lH (hc:c ρ H=some false)(h:Ad T2 T' Q ρ H):Ad (ifT (Bg c) T1 T2) T' Q ρ H:=⟨false,hc,h⟩
theorem Ma (hc:c ρ H=some false)(h:T' Q ρ H):Ad (ifT (Bg c) T1 Ai) T' Q ρ H:=⟨false,hc,h⟩
noncomputable def Bf (T':Wp AFlow) (Q:AFlow->Rho->AH->Prop):AFlow->Rho->AH->Prop:=fun f ρ H=>match f with
 | .next=>T' Q ρ H
 | f=>Q f ρ H
theorem Js (h:Ad T1 (Ad T2 T') Q ρ H):Ad (Ad T1 T2) T' Q ρ H:=by
 have e:Bf (Ad T2 T') Q=Bf T2 (Bf T' Q):=by funext f ρ H;cases f <;> rfl
 have h':T1 (Bf (Ad T2 T') Q) ρ H:=h
 rw[e]at h'
 exact h'
theorem eP (h:T' Q ρ H):Ad Ai T' Q ρ H:=h
theorem Uf (hv:f ρ H=some v)(hs:v.sto=true)(h:Q (.ret v) ρ H):Ad (Lg (Aq f)) T' Q ρ H:=⟨v,hv,hs,h⟩
theorem Yo (hfs:fs ρ H=some vs)(hst:AV.stos vs=true)(h:Dz tg T (fun f ρ H=>match f with | .next=>T' Q ρ H | f=>Q f ρ H) vs ρ H):Ad (Ja fs tg T) T' Q ρ H:=⟨vs,hfs,hst,h⟩
theorem Qf {o:FObj}(ha:H a=some (.f o))(hl:o.hold.lk=true)(h:T (fun fl ρ' H'=>(match fl with | .next=>T' Q ρ' (upd H' a (.f o)) | f=>Q f ρ' (upd H' a (.f o)))) ρ (upd H a (.f o.hold))):Ad (Mq T) T' Q ρ H:=⟨a,o,ha,hl,by
 have e:(fun (fl:AFlow) (ρ':Rho) (H':AH)=>(match fl with | .next=>T' Q ρ' (upd H' a (.f o)) | f=>Q f ρ' (upd H' a (.f o))))=fun fl ρ' H'=>(fun (f:AFlow) (ρ:Rho) (H:AH)=>match f with | .next=>T' Q ρ H | f=>Q f ρ H) fl ρ' (upd H' a (.f o)):=by funext fl ρ' H';cases fl <;> rfl
 rw[e]at h;exact h⟩
theorem Fa {K:AFlow->Rho->AH->Prop}(I:Nat->Rho->AH->Prop)(h0:I 0 ρ H)
  (step:∀ (i:Nat) (v:AV) (ρ:Rho) (H:AH) (K':AFlow->Rho->AH->Prop),vs[i]? = some v->I i ρ H->(∀ ρ2 H2,I (i + 1) ρ2 H2->K' .next ρ2 H2/\K' .cont ρ2 H2)->∃ ρ',tg.put H v ρ=some ρ'/\T K' ρ' H)
  (fin:∀ ρ H,I vs.length ρ H->K .next ρ H):Dz tg T K vs ρ H:=by
 have main:∀ (l:List AV) (j:Nat) (ρ:Rho) (H:AH),(∀ i,l[i]? = vs[j + i]?)->j + l.length=vs.length->I j ρ H->Dz tg T K l ρ H:=by
  intro l
  induction l with
  | nil=>intro j ρ H hl hj hI;simp at hj;subst hj;exact fin ρ H hI
  | cons v l ih =>
   intro j ρ H hl hj hI
   obtain⟨ρ',hput,hT⟩:=step j v ρ H (fun f ρ2 H2=>match f with
    | .next=>Dz tg T K l ρ2 H2
    | .cont=>Dz tg T K l ρ2 H2
    | .brk=>K .next ρ2 H2
    | .ret v=>K (.ret v) ρ2 H2) (by have:=hl 0;simpa using this.symm) hI (fun ρ2 H2 hI2=>by
     have:=ih (j + 1) ρ2 H2 (fun i=>by have:=hl (i + 1);rw[List.getElem?_cons_succ]at this;rw[this];congr 1;exact Ar.r4) (by simp at hj;exact Ar.r7 hj) hI2
     exact⟨this,this⟩)
   exact⟨ρ',hput,hT⟩
 exact main vs 0 ρ H (fun i=>by simp) (by simp) h0
theorem Fp {l:List Int}{x:Nat}{K:AFlow->Rho->AH->Prop}(I:Nat->Rho->AH->Prop)(h0:I 0 ρ H)
  (step:∀ (i:Nat) (k:Int) (ρ:Rho) (H:AH) (K':AFlow->Rho->AH->Prop),l[i]? = some k->I i ρ H->(∀ ρ2 H2,I (i + 1) ρ2 H2->K' .next ρ2 H2/\K' .cont ρ2 H2)->T K' (ρ.set x (.int k)) H)
  (fin:∀ ρ H,I l.length ρ H->K .next ρ H):Dz (.one x) T K (l.map .int) ρ H:=by
 refine Fa I h0 (fun i v ρ H K' hv hI hK=>?_) (by simpa using fin)
 rw[List.getElem?_map]at hv
 obtain⟨k,hk,rfl⟩:=Option.map_eq_some_iff.mp hv
 exact⟨_,rfl,step i k ρ H K' hk hI hK⟩
end
end Mine
end
section
namespace Mine
noncomputable def SState.empty:SState:=⟨[],none,0,0⟩
noncomputable def SState.out (S:SState) (k:Int):SState:=S.set k { S.node k with npred:=-1 }
noncomputable def SState.getReady (S:SState) (r:List Int):SState:={ r.foldl SState.out S with ready:=some [],passed:=S.passed + r.length }
noncomputable def SState.dec (S:SState) (s:Int):SState :=
 let S':=S.set s { S.node s with npred:=(S.node s).npred - 1 }
 if (S.node s).npred - 1=0 then { S' with ready:=S'.ready.map (·++[s]) } else S'
noncomputable def SState.done1 (S:SState) (k:Int):SState :=
 let S2:=(S.node k).succs.foldl SState.dec (S.set k { S.node k with npred:=-2 })
 { S2 with fin:=S2.fin + 1 }
section
variable {C:Cx} {lkD:Bool} {lkA:Option Addr} {H:AH} {a:Addr} {σ:FSt}
theorem Flat.setR (F:Flat C lkD lkA H a σ){r r':List Int}(hr:σ.ready=some r):Flat C lkD lkA (upd H σ.ra (.f (.lst false (r'.map .int)))) a { σ with ready:=some r' }/\Frm C a H σ (upd H σ.ra (.f (.lst false (r'.map .int)))) { σ with ready:=some r' }:=by
 have hR:=F.hr r hr
 have hne:σ.ready ≠ none:=by rw[hr];simp
 have hp:Cq C a σ σ.ra:=parts_iff.mpr (.inr (.inr (.inl ⟨hne,rfl⟩)))
 refine⟨⟨?_,?_,fun q hq=>?_,fun n hn=>?_,fun n hn=>?_,F.ni,F.ns,F.nk,fun z0 n hn=>F.nr hne n hn⟩,.upd1 (fun b hb=>?_) fun b hb=>Ab fun q=>hb (q ▸ hp)⟩
 ·rw[Ab (fun q=>by rw[<- q,F.ha]at hR;cases hR)]
  have:=F.ha
  unfold FSt.rdy at this ⊢
  rw[hr]at this
  exact this
 ·refine(?_:upd H σ.ra _ σ.d=_)
  rw[Ab (fun q=>by rw[<- q,F.hd]at hR;cases hR)];exact F.hd
 ·obtain rfl:=Option.some.inj hq;exact Af
 ·rw[Ab (fun q=>by rw[<- q,F.hi n hn]at hR;cases hR)];exact F.hi n hn
 ·rw[Ab (F.nr hne n hn)];exact F.hs n hn
 ·rcases parts_iff.mp hb with q | q | ⟨_,q⟩ | q
  ·exact parts_iff.mpr (.inl q)
  ·exact parts_iff.mpr (.inr (.inl q))
  ·exact parts_iff.mpr (.inr (.inr (.inl ⟨hne,q⟩)))
  ·exact parts_iff.mpr (.inr (.inr (.inr q)))
theorem Flat.setPass (F:Flat C lkD lkA H a σ){p:Int}:Flat C lkD lkA (upd H a (.f (.inst C.tsC (Dx (Dp σ.d σ.rdy σ.passed σ.fin) "_npassedout" (.int p))))) a { σ with passed:=p }/\Frm C a H σ (upd H a (.f (.inst C.tsC (Dx (Dp σ.d σ.rdy σ.passed σ.fin) "_npassedout" (.int p))))) { σ with passed:=p }:=by
 refine⟨⟨Af,?_,fun r hr=>?_,fun n hn=>?_,fun n hn=>?_,F.ni,F.ns,F.nk,F.nr⟩,.upd1 (fun b hb=>hb) fun b hb=>Ab fun q=>hb (parts_iff.mpr (.inl q))⟩
 ·refine(?_:upd H a _ σ.d=_)
  rw[Ab (fun q=>by have:=F.ha;rw[<- q,F.hd]at this;cases this)];exact F.hd
 ·refine(?_:upd H a _ σ.ra=_)
  rw[Ab (fun q=>by have:=F.ha;rw[<- q,F.hr r hr]at this;cases this)];exact F.hr r hr
 ·rw[Ab (fun q=>by have:=F.ha;rw[<- q,F.hi n hn]at this;cases this)];exact F.hi n hn
 ·rw[Ab (fun q=>by have:=F.ha;rw[<- q,F.hs n hn]at this;cases this)];exact F.hs n hn
theorem Flat.setFin (F:Flat C lkD lkA H a σ){p:Int}:Flat C lkD lkA (upd H a (.f (.inst C.tsC (Dx (Dp σ.d σ.rdy σ.passed σ.fin) "_nfinished" (.int p))))) a { σ with fin:=p }/\Frm C a H σ (upd H a (.f (.inst C.tsC (Dx (Dp σ.d σ.rdy σ.passed σ.fin) "_nfinished" (.int p))))) { σ with fin:=p }:=by
 refine⟨⟨Af,?_,fun r hr=>?_,fun n hn=>?_,fun n hn=>?_,F.ni,F.ns,F.nk,F.nr⟩,.upd1 (fun b hb=>hb) fun b hb=>Ab fun q=>hb (parts_iff.mpr (.inl q))⟩
 ·refine(?_:upd H a _ σ.d=_)
  rw[Ab (fun q=>by have:=F.ha;rw[<- q,F.hd]at this;cases this)];exact F.hd
 ·refine(?_:upd H a _ σ.ra=_)
  rw[Ab (fun q=>by have:=F.ha;rw[<- q,F.hr r hr]at this;cases this)];exact F.hr r hr
 ·rw[Ab (fun q=>by have:=F.ha;rw[<- q,F.hi n hn]at this;cases this)];exact F.hi n hn
 ·rw[Ab (fun q=>by have:=F.ha;rw[<- q,F.hs n hn]at this;cases this)];exact F.hs n hn
theorem Flat.key_of (F:Flat C lkD lkA H a σ){k:Int}(hk:k ∈ σ.toS.keys):∃ n ∈ σ.nds,n.nd.key=k:=by
 simp only [SState.keys,FSt.toS,List.map_map,List.mem_map,Function.comp]at hk
 exact hk
theorem Cz {S:SState}{k:Int}{g:NodeS}(hg:g.key=k):(S.set k g).keys=S.keys:=by
 unfold SState.keys SState.set;dsimp only;rw[List.map_map];apply List.map_congr_left;intro n _
 refine(?_:(if n.key=k then g else n).key=n.key)
 set_option tactic.hygienic true in split
 ·rename_i h;rw[h,hg]
 ·rfl
theorem Il {S:SState}{k:Int}(hk:k ∈ S.keys):(S.node k).key=k:=by
 unfold SState.node
 cases q:S.nodes.find? (fun n=>decide (n.key=k)) with
 | none=>rfl
 | some n=>have:=List.find?_some q;simpa using this
theorem Mr {r:List Int}{Q:AV->AH->Prop}(F:Flat C false none H a σ)(hr:σ.ready=some r)(hz:r.length<=lim)(hk:∀ k ∈ r,k ∈ σ.toS.keys)
  (hQ:∀ H' σ',Flat C false none H' a σ'->Frm C a H σ H' σ'->σ'.toS=σ.toS.getReady r->Q (.tup (r.map .int)) H'):Dq C [.ref a] Q H:=by
 unfold Dq Cc
 refine⟨_,rfl,?_⟩
 unfold Eo
 generalize hρ:(fun i=>([.ref a]:List AV).getD i .undef)=ρ0
 change Rho at ρ0
 have r0:ρ0 0 = .ref a:=by rw[<- hρ];rfl
 have hrd:σ.rdy = .ref σ.ra:=by unfold FSt.rdy;rw[hr]
 refine Qd ?_ ?_
 ·simp only [Aw,Au,Ah r0,F.rdyA,cP,hrd];rfl
 refine Jr (v:=.tup (r.map .int)) ?_ (by simpa [AV.sto]using Ay r) ?_
 ·simp only [bP',Aa,Ak,Au,Ah r0,F.rdyA,hrd,cI,Fh,Hp,F.hr r hr,Option.map_some]
 refine Jr (v:=.ref σ.d) ?_ rfl ?_
 ·simp only [Au,Ah (i:=0) (ρ:=ρ0.set 1 (.tup (r.map .int))) (x:=a) (by simp[Rho.set,r0])];exact F.n2i
 have q0:((ρ0.set 1 (.tup (r.map .int))).set 2 (.ref σ.d)) 0 = .ref a:=by simp[Rho.set,r0]
 have q1:((ρ0.set 1 (.tup (r.map .int))).set 2 (.ref σ.d)) 1 = .tup (r.map .int):=by simp[Rho.set]
 have q2:((ρ0.set 1 (.tup (r.map .int))).set 2 (.ref σ.d)) 2 = .ref σ.d:=by simp
 generalize (ρ0.set 1 (.tup (r.map .int))).set 2 (.ref σ.d)=ρ1 at q0 q1 q2 ⊢
 refine Yo (vs:=r.map .int) ?_ (Ay r) ?_
 ·have:vP 1 ρ1 H=some (.tup (r.map .int)):=by unfold vP;rw[q1]
  simp only [Hf,this,Zu,eU,eV]
 have fin:∀ (ρ:Rho) (H2:AH) (σ2:FSt),Flat C false none H2 a σ2->Frm C a H σ H2 σ2->σ2.toS=r.foldl SState.out σ.toS->σ2.ready=some r->ρ 0 = .ref a->ρ 1 = .tup (r.map .int) ->
   (Ad (Bm (Pp (Au (attrD C "_ready_nodes") (vP 0)))) (Ad (Jc (attrD C "_npassedout") (Ia C "_npassedout") (vP 0) (bP' Er (Aa (vP 1) Ak)) (iop Es)) (Ad (Lg (Aq (vP 1))) Ai))) (fun fl z0 H'=>match fl with | .ret v=>Q v H' | .next=>Q .none H' | _=>False) ρ H2:=by
  intro ρ H2 σ2 F2 fr2 hS2 hr2 e0 e1
  have hrd2:σ2.rdy = .ref σ2.ra:=by unfold FSt.rdy;rw[hr2]
  obtain⟨F3,fr3⟩:=F2.setR (r':=[]) hr2
  refine⟨.ref σ2.ra,r.map .int,upd H2 σ2.ra (.f (.lst false [])),?_,by simp[Fh,Hp,F2.hr r hr2],?_,?_⟩
  ·simp only [Au,Ah e0,F2.rdyA,hrd2]
  ·unfold Ih;simp only [F2.hr r hr2];rw[if_pos ⟨Nat.zero_le _,rfl⟩]
  simp only [List.map_nil]at F3 fr3
  obtain⟨F4,fr4⟩:=F3.setPass (p:=σ2.passed + r.length)
  have v1:∀ H,vP 1 ρ H=some (.tup (r.map .int)):=fun H=>by unfold vP;rw[e1]
  refine⟨.ref a,.int σ2.passed,.int r.length,.int (σ2.passed + r.length),_,Ah e0,F3.passA,?_,rfl,Fg F3.ha rfl (Nat.le_of_ble_eq_true rfl),?_⟩
  ·simp only [bP',Aa,Ak,v1,Qp,List.length_map]
  refine⟨.tup (r.map .int),v1 _,by simpa [AV.sto]using Ay r,?_⟩
  refine hQ _ _ F4 ((fr2.trans fr3).trans fr4) ?_
  unfold SState.getReady
  rw[<- hS2]
  have:σ2.passed=σ.passed:=by
   have h1:σ2.toS.passed=(r.foldl SState.out σ.toS).passed:=by rw[hS2]
   have h2:∀ (l:List Int) (S:SState),(l.foldl SState.out S).passed=S.passed:=by
    intro l;induction l with
    | nil=>intro S;rfl
    | cons k l ih=>intro S;rw[List.foldl_cons,ih];rfl
   rw[h2]at h1;exact h1
  unfold FSt.toS
  dsimp only
  rw[this]
 have main:∀ (l:List Int) (ρ:Rho) (H2:AH) (σ2:FSt),(∀ k ∈ l,k ∈ σ2.toS.keys)->Flat C false none H2 a σ2->Frm C a H σ H2 σ2->l.foldl SState.out σ2.toS=r.foldl SState.out σ.toS->σ2.ready=some r->σ2.d=σ.d->ρ 0 = .ref a->ρ 1 = .tup (r.map .int)->ρ 2 = .ref σ.d ->
   Dz (.one 3) (Ad (Fu (He C 1) (Aq (cP (.int (-1)))) (opP idx (vP 2) (vP 3))) Ai) (fun f ρ H=>match f with
    | .next=>(Ad (Bm (Pp (Au (attrD C "_ready_nodes") (vP 0)))) (Ad (Jc (attrD C "_npassedout") (Ia C "_npassedout") (vP 0) (bP' Er (Aa (vP 1) Ak)) (iop Es)) (Ad (Lg (Aq (vP 1))) Ai))) (fun fl z0 H'=>match fl with | .ret v=>Q v H' | .next=>Q .none H' | _=>False) ρ H
    | f=>(match f with | .ret v=>Q v H | .next=>Q .none H | _=>False)) (l.map .int) ρ H2:=by
  intro l
  induction l with
  | nil=>intro ρ H2 σ2 hk F2 fr2 hS2 hr2 hd2 e0 e1 e2;exact fin ρ H2 σ2 F2 fr2 hS2 hr2 e0 e1
  | cons k l ih =>
   intro ρ H2 σ2 hk F2 fr2 hS2 hr2 hd2 e0 e1 e2
   obtain⟨n,hn,hnk⟩:=F2.key_of (hk k (by simp))
   refine⟨ρ.set 3 (.int k),rfl,?_⟩
   refine⟨.int (-1),rfl,rfl,.ref n.info,_,?_,Gu (F2.hi n hn) rfl,?_⟩
   ·simp only [opP,Ah (i:=2) (ρ:=ρ.set 3 (.int k)) (x:=σ.d) (by simp[Rho.set,e2]),Ae (i:=3) (ρ:=ρ.set 3 (.int k)) (x:=k) (by simp)]
    rw[<- hd2,<- hnk];exact F2.didx hn
   obtain⟨F3,fr3⟩:=F2.npred hn (v:=-1)
   have hS3:(σ2.setN n.nd.key { n.nd with npred:=-1 }).toS=σ2.toS.out k:=by
    have e:n.nd=σ2.toS.node k:=by rw[<- hnk];exact(Ek F2.nk hn).symm
    rw[FSt.setN_toS,hnk,e];rfl
   refine ih _ _ _ (fun j hj=>?_) F3 (fr2.trans fr3) ?_ hr2 hd2 (by simp[Rho.set,e0]) (by simp[Rho.set,e1]) (by simp[Rho.set,e2])
   ·rw[hS3];unfold SState.out;rw[Cz];exact hk j (by simp[hj]);exact Il (hk k (by simp))
   ·rw[hS3];exact hS2
 exact main r ρ1 H σ hk F .refl rfl hr rfl q0 q1 q2
end
end Mine
end
section
namespace Mine
noncomputable def Ps:SState->List Int->Prop
 | _,[]=>True
 | S,k :: ks=>k ∈ S.keys/\(S.node k).npred = -1/\(∀ s ∈ (S.node k).succs,s ∈ S.keys)/\Ps (S.done1 k) ks
theorem Mj {S:SState}{s:Int}(hs:s ∈ S.keys):(S.dec s).keys=S.keys:=by
 unfold SState.dec
 dsimp only
 split
 ·exact Cz (Il hs)
 ·exact Cz (Il hs)
theorem Oe:∀ (l:List Int) {S:SState},(∀ s ∈ l,s ∈ S.keys)->(l.foldl SState.dec S).keys=S.keys
 | [],_,_=>rfl
 | s :: l,S,h=>by
  rw[List.foldl_cons,Oe l (fun t ht=>by rw[Mj (h s (by simp))];exact h t (by simp[ht])),Mj (h s (by simp))]
theorem SState.Bd.np {S:SState}{B:Nat}(h:S.Bd B)(k v:Int):(S.set k { S.node k with npred:=v }).Bd B:=h.set (SState.node_succs h k)
theorem SState.Bd.dec {S:SState}{B:Nat}(h:S.Bd B)(s:Int):(S.dec s).Bd B:=by
 unfold SState.dec;dsimp only;split
 ·exact h.np s _
 ·exact h.np s _
theorem SState.Bd.decs {B:Nat}:∀ (l:List Int) {S:SState},S.Bd B->(l.foldl SState.dec S).Bd B
 | [],_,h=>h
 | s :: l,S,h=>SState.Bd.decs l (h.dec s)
theorem SState.Bd.done1 {S:SState}{B:Nat}(h:S.Bd B)(k:Int):(S.done1 k).Bd B:=SState.Bd.decs _ (h.np k (-2))
section
variable {C:Cx} {lkD:Bool} {lkA:Option Addr} {H:AH} {a:Addr} {σ:FSt}
theorem Flat.succ_inj (F:Flat C lkD lkA H a σ){n m:FN}(hn:n ∈ σ.nds)(hm:m ∈ σ.nds)(e:n.succ=m.succ):n=m:=by
 have h2:=F.ns
 rw[List.Nodup,List.pairwise_map]at h2
 obtain⟨i,hi,rfl⟩:=List.getElem_of_mem hn
 obtain⟨j,hj,rfl⟩:=List.getElem_of_mem hm
 rw[List.pairwise_iff_getElem]at h2
 rcases Nat.lt_trichotomy i j with l | l | l
 ·exact absurd e (h2 i j hi hj l)
 ·subst l;rfl
 ·exact absurd e.symm (h2 j i hj hi l)
theorem Flat.key_inj (F:Flat C lkD lkA H a σ){n m:FN}(hn:n ∈ σ.nds)(hm:m ∈ σ.nds)(e:n.nd.key=m.nd.key):n=m:=by
 have h2:=F.nk
 rw[List.Nodup,List.pairwise_map]at h2
 obtain⟨i,hi,rfl⟩:=List.getElem_of_mem hn
 obtain⟨j,hj,rfl⟩:=List.getElem_of_mem hm
 rw[List.pairwise_iff_getElem]at h2
 rcases Nat.lt_trichotomy i j with l | l | l
 ·exact absurd e (h2 i j hi hj l)
 ·subst l;rfl
 ·exact absurd e.symm (h2 j i hj hi l)
theorem Flat.lockS (F:Flat C lkD none H a σ){n:FN}(hn:n ∈ σ.nds):Flat C lkD (some n.succ) (upd H n.succ (.f (.lst true (n.nd.succs.map .int)))) a σ:=by
 have hS:=F.hs n hn
 refine⟨?_,?_,fun r hr=>?_,fun m hm=>?_,fun m hm=>?_,F.ni,F.ns,F.nk,F.nr⟩
 ·rw[Ab (fun q=>by rw[<- q,F.ha]at hS;clear hn q;cases hS)];exact F.ha
 ·rw[Ab (fun q=>by rw[<- q,F.hd]at hS;clear hn q;cases hS)];exact F.hd
 ·rw[Ab (Ne.symm (F.nr (by rw[hr];simp) n hn))];exact F.hr r hr
 ·rw[Ab (fun q=>by rw[<- q,F.hi m hm]at hS;clear hn q;cases hS)];exact F.hi m hm
 ·by_cases e:m.succ=n.succ
  ·have:=F.succ_inj hm hn e;clear F e hS hm hn;subst this;rw[Af];simp
  ·rw[Ab e]
   have:=F.hs m hm
   simp at this
   have e':¬ (some n.succ=some m.succ):=fun q=>e (Option.some.inj q).symm
   simp only [e',decide_false];exact this
theorem Flat.unlockS {x:Addr}(F:Flat C lkD (some x) H a σ){n:FN}(hn:n ∈ σ.nds)(hx:n.succ=x):Flat C lkD none (upd H x (.f (.lst false (n.nd.succs.map .int)))) a σ:=by
 subst hx
 have hS:=F.hs n hn
 refine⟨?_,?_,fun r hr=>?_,fun m hm=>?_,fun m hm=>?_,F.ni,F.ns,F.nk,F.nr⟩
 ·rw[Ab (fun q=>by rw[<- q,F.ha]at hS;clear hn q;cases hS)];exact F.ha
 ·rw[Ab (fun q=>by rw[<- q,F.hd]at hS;clear hn q;cases hS)];exact F.hd
 ·rw[Ab (Ne.symm (F.nr (by rw[hr];simp) n hn))];exact F.hr r hr
 ·rw[Ab (fun q=>by rw[<- q,F.hi m hm]at hS;clear hn q;cases hS)];exact F.hi m hm
 ·by_cases e:m.succ=n.succ
  ·have:=F.succ_inj hm hn e;clear F e hS hm hn;subst this;rw[Af];simp
  ·rw[Ab e]
   have:=F.hs m hm
   have e':¬ (some n.succ=some m.succ):=fun q=>e (Option.some.inj q).symm
   simp only [e',decide_false]at this;simp[this]
theorem Vz {k:Int}{g:NodeS}{n:FN}(hn:n ∈ σ.nds)(hk:n.nd.key ≠ k):n ∈ (σ.setN k g).nds:=List.mem_map.mpr ⟨n,hn,by simp[hk]⟩
theorem setN_node' {k:Int}{g:NodeS}{n:FN}(hn:n ∈ σ.nds)(hk:n.nd.key=k):{ n with nd:=g } ∈ (σ.setN k g).nds:=List.mem_map.mpr ⟨n,hn,by simp[hk]⟩
theorem Flat.np (F:Flat C lkD lkA H a σ){n:FN}(hn:n ∈ σ.nds){k:Int}(hk:n.nd.key=k){v:Int}:∃ H' σ',He C 1 H (.ref n.info) (.int v)=some H'/\Flat C lkD lkA H' a σ'/\Frm C a H σ H' σ'/\σ'.toS=σ.toS.set k { σ.toS.node k with npred:=v }/\σ'.d=σ.d/\σ'.ready=σ.ready/\σ'.fin=σ.fin /\
  { n with nd:={ n.nd with npred:=v } } ∈ σ'.nds/\∀ x l,(∃ m ∈ σ.nds,m.succ=x/\m.nd.succs=l)->∃ m ∈ σ'.nds,m.succ=x/\m.nd.succs=l:=by
 obtain⟨F2,fr2⟩:=F.npred hn (v:=v)
 refine⟨_,σ.setN n.nd.key { n.nd with npred:=v },Gu (F.hi n hn) rfl,F2,fr2,?_,rfl,rfl,rfl,setN_node' hn rfl,?_⟩
 ·rw[FSt.setN_toS]
  have:n.nd=σ.toS.node k:=by rw[<- hk];exact(Ek F.nk hn).symm
  rw[hk,this]
 ·rintro x l ⟨m,hm,h1,h2⟩
  by_cases e:m.nd.key=n.nd.key
  ·have:=F.key_inj hm hn e;clear F F2 e fr2 hk hn;subst this
   exact⟨_,setN_node' hm rfl,h1,h2⟩
  ·exact⟨m,Vz hm e,h1,h2⟩
theorem Th {x:Addr}{l:List Int}{S1:SState}{B N:Nat}{Q:AFlow->Rho->AH->Prop}{ρ:Rho}{H0:AH}{σ0:FSt}(F:Flat C false (some x) H a σ)(fr:Frm C a H0 σ0 H σ)(hS:σ.toS=S1)(hk:∀ s ∈ l,s ∈ S1.keys)(r:List Int)(hr:σ.ready=some r)(hz:r.length + l.length<=lim)
  (h0:ρ 0 = .ref a) (h2:ρ 2 = .ref σ.d) (hx:∃ m ∈ σ.nds,m.succ=x/\m.nd.succs=l)
  (hQ:∀ ρ' H' σ' r',Flat C false (some x) H' a σ'->Frm C a H0 σ0 H' σ'->σ'.toS=l.foldl SState.dec S1->σ'.ready=some r'->r'.length<=r.length + l.length->σ'.d=σ.d->(∀ i,i ≠ 6->i ≠ 7->ρ' i=ρ i)->(∃ m ∈ σ'.nds,m.succ=x/\m.nd.succs=l)->Q .next ρ' H') :
  Dz (.one 6) (Ad (Bh 7 (Aq (opP idx (vP 2) (vP 6)))) (Ad (Jc (attrS C 1) (He C 1) (vP 7) (cP (.int 1)) (iop subI)) (Ad (ifT (Bg (Aw eqV (Au (attrS C 1) (vP 7)) (cP (.int 0)))) (Ad (Bm (Kd (Au (attrD C "_ready_nodes") (vP 0)) (vP 6))) Ai) Ai) Ai))) Q (l.map .int) ρ H:=by
 refine Fp (I:=fun i ρ' H'=>∃ σ' r',Flat C false (some x) H' a σ'/\Frm C a H0 σ0 H' σ'/\σ'.toS=(l.take i).foldl SState.dec S1/\σ'.ready=some r'/\r'.length<=r.length + i/\σ'.d=σ.d/\(∀ i,i ≠ 6->i ≠ 7->ρ' i=ρ i)/\∃ m ∈ σ'.nds,m.succ=x/\m.nd.succs=l) ⟨σ,r,F,fr,by simpa using hS,hr,by simp,rfl,fun z0 z0 z0=>rfl,hx⟩ ?_ ?_
 ·rintro i s ρ1 H1 K' hs ⟨σ1,r1,F1,fr1,hS1,hr1,hz1,hd1,hρ1,hx1⟩ hK
  have hil:i < l.length:=(List.getElem?_eq_some_iff.mp hs).1
  have hsl:s ∈ l:=List.mem_of_getElem? hs
  have htake:∀ t ∈ l.take i,t ∈ S1.keys:=fun t ht=>hk t (List.mem_of_mem_take ht)
  have hsk:s ∈ σ1.toS.keys:=by rw[hS1,Oe _ htake];exact hk s hsl
  obtain⟨n,hn,hnk⟩:=F1.key_of hsk
  have e0:ρ1 0 = .ref a:=by rw[hρ1 0 (by decide) (by decide)];exact h0
  have e2:ρ1 2 = .ref σ1.d:=by rw[hρ1 2 (by decide) (by decide),hd1];exact h2
  refine Jr (v:=.ref n.info) ?_ rfl ?_
  ·simp only [opP,Ah (i:=2) (ρ:=ρ1.set 6 (.int s)) (x:=σ1.d) (by simp[Rho.set,e2]),Ae (i:=6) (ρ:=ρ1.set 6 (.int s)) (x:=s) (by simp)]
   rw[<- hnk];exact F1.didx hn
  refine Ag fun PP ret=>?_
  obtain⟨H2,σ2,hset,F2,fr2,hS2,hd2,hr2,_,hm2,hx2⟩:=F1.np hn hnk (v:=n.nd.npred - 1)
  refine ret ?_
  have hnode:σ1.toS.node s=n.nd:=by rw[<- hnk];exact Ek F1.nk hn
  rw[hnode]at hS2
  dsimp only at hS2
  refine⟨.ref n.info,.int n.nd.npred,.int 1,.int (n.nd.npred - 1),H2,Ah (by simp),F1.npredA hn,rfl,rfl,hset,?_⟩
  have hcond:Aw eqV (Au (attrS C 1) (vP 7)) (cP (.int 0)) ((ρ1.set 6 (.int s)).set 7 (.ref n.info)) H2=some (decide (n.nd.npred - 1=0)):=by
   have:=F2.npredA hm2
   simp only [Aw,Au,Ah (i:=7) (ρ:=(ρ1.set 6 (.int s)).set 7 (.ref n.info)) (x:=n.info) (by simp),cP,this]
   show some (_ == _)=_
   congr 1
  have htk:l.take (i + 1)=l.take i++[s]:=by rw[List.take_succ,hs];rfl
  by_cases hz0:n.nd.npred - 1=0
  ·have hr2':σ2.ready=some r1:=by rw[hr2];exact hr1
   obtain⟨F3,fr3⟩:=F2.setR (r':=r1++[s]) hr2'
   refine Wi (by rw[hcond];simp[hz0]) ?_
   refine Js (cO (v:=.ref σ2.ra) (vs:=r1.map .int) (x:=.int s) (H':=upd H2 σ2.ra (.f (.lst false ((r1++[s]).map .int)))) ?_ (by simp[Fh,Hp,F2.hr r1 hr2']) (Ae (by simp[Rho.set])) ?_ ?_)
   ·simp only [Au,Ah (i:=0) (ρ:=(ρ1.set 6 (.int s)).set 7 (.ref n.info)) (x:=a) (by simp[Rho.set,e0]),F2.rdyA]
    unfold FSt.rdy;rw[hr2']
   ·unfold Ih;simp only [F2.hr r1 hr2']
    rw[if_pos ⟨by simp;exact Ar.r68 hz hz1 hil,by rw[stos_iff];intro v hv;simp at hv;rcases hv with ⟨y,_,rfl⟩ | rfl <;> rfl⟩]
    simp
   refine(hK _ _ ⟨{ σ2 with ready:=some (r1++[s]) },r1++[s],F3,(fr1.trans fr2).trans fr3,?_,rfl,by simp;exact Ar.r74 hz1,hd2.trans hd1,fun j h6 h7=>by simp[Rho.set,h6,h7,hρ1 j h6 h7],hx2 x l hx1⟩).1
   rw[htk,List.foldl_append,<- hS1]
   refine(?_:_=σ1.toS.dec s)
   unfold SState.dec
   dsimp only
   rw[hnode,if_pos hz0,<- hS2]
   refine(?_:(⟨σ2.nds.map (·.nd),some (r1++[s]),σ2.passed,σ2.fin⟩:SState)={ σ2.toS with ready:=σ2.toS.ready.map (·++[s]) })
   unfold FSt.toS
   dsimp only
   rw[hr2'];rfl
  ·refine Ma (by rw[hcond];simp[hz0]) ?_
   refine(hK _ _ ⟨σ2,r1,F2,fr1.trans fr2,?_,by rw[hr2];exact hr1,by exact Ar.r75 hz1,hd2.trans hd1,fun j h6 h7=>by simp[Rho.set,h6,h7,hρ1 j h6 h7],hx2 x l hx1⟩).1
   rw[htk,List.foldl_append,<- hS1]
   refine(?_:_=σ1.toS.dec s)
   unfold SState.dec
   dsimp only
   rw[hnode,if_neg hz0,<- hS2]
 ·rintro ρ' H' ⟨σ',r',F',fr',hS',hr',hz',hd',hρ',hx'⟩
  exact hQ ρ' H' σ' r' F' fr' (by simpa using hS') hr' hz' hd' hρ' hx'
theorem Xg {ks:List Int}{B:Nat}{r:List Int}{Q:AV->AH->Prop}(F:Flat C false none H a σ)(hr:σ.ready=some r)(hok:Ps σ.toS ks)(hB:σ.toS.Bd B)(hz:r.length + ks.length * B + ks.length + 2<=lim)
  (hQ:∀ H' σ',Flat C false none H' a σ'->Frm C a H σ H' σ'->σ'.toS=ks.foldl SState.done1 σ.toS->Q .none H'):Ha C (.ref a :: ks.map .int) Q H:=by
 unfold Ha Cc
 refine⟨[.ref a,.tup (ks.map .int)],?_,?_⟩
 ·unfold Lb;rw[if_pos ⟨by simp,by simp;exact Ar.r46 hz⟩];rfl
 unfold Ke
 generalize hρ:(fun i=>([.ref a,.tup (ks.map .int)]:List AV).getD i .undef)=ρ0
 change Rho at ρ0
 have r0:ρ0 0 = .ref a:=by rw[<- hρ];rfl
 have r1:ρ0 1 = .tup (ks.map .int):=by rw[<- hρ];rfl
 refine Ma ?_ ?_
 ·simp only [Aw,Au,Ah r0,F.rdyA,cP];unfold FSt.rdy;rw[hr];rfl
 refine Jr (v:=.ref σ.d) ?_ rfl ?_
 ·simp only [Au,Ah r0];exact F.n2i
 refine Yo (vs:=ks.map .int) ?_ (Ay ks) ?_
 ·have:vP 1 (ρ0.set 2 (.ref σ.d)) H=some (.tup (ks.map .int)):=by unfold vP;simp only [Rho.set];simp[r1]
  simp only [Hf,this,Zu,eU,eV]
 refine Fp (I:=fun i ρ' H'=>∃ σ' r',Flat C false none H' a σ'/\Frm C a H σ H' σ'/\σ'.toS=(ks.take i).foldl SState.done1 σ.toS/\Ps σ'.toS (ks.drop i)/\σ'.toS.Bd B/\σ'.ready=some r'/\r'.length<=r.length + i * B/\ρ' 0 = .ref a/\ρ' 2 = .ref σ'.d) ⟨σ,r,F,.refl,rfl,by simpa using hok,hB,hr,by simp,by simp[Rho.set,r0],by simp⟩ ?_ ?_
 ·rintro i k ρ1 H1 K' hki ⟨σ1,r1',F1,fr1,hS1,hok1,hB1,hr1,hz1,e0,e2⟩ hK
  refine Ag fun PP ret=>?_
  have hil:i < ks.length:=(List.getElem?_eq_some_iff.mp hki).1
  have hdrop:ks.drop i=k :: ks.drop (i + 1):=by
   obtain⟨hlt,e⟩:=List.getElem?_eq_some_iff.mp hki
   rw[List.drop_eq_getElem_cons hlt,e]
  rw[hdrop]at hok1
  obtain⟨hkk,hnp,hsk,hok2⟩:=hok1
  obtain⟨n,hn,hnk⟩:=F1.key_of hkk
  refine ret ?_
  have hnode:σ1.toS.node k=n.nd:=by rw[<- hnk];exact Ek F1.nk hn
  rw[hnode]at hnp hsk
  have hml:n.nd.succs.length<=B:=hB1.2 n.nd (List.mem_map.mpr ⟨n,hn,rfl⟩)
  refine⟨.ref n.info,false,?_,rfl,rfl,?_⟩
  ·simp only [opP,Ah (i:=2) (ρ:=ρ1.set 3 (.int k)) (x:=σ1.d) (by simp[Rho.set,e2]),Ae (i:=3) (ρ:=ρ1.set 3 (.int k)) (x:=k) (by simp)]
   rw[<- hnk];exact F1.dget hn
  simp only [Bool.false_eq_true,if_false]
  refine(?_:Ad (Bh 5 _) _ _ _ _)
  refine Jr (v:=.int (-1)) ?_ rfl ?_
  ·simp only [Au,Ah (i:=4) (ρ:=(ρ1.set 3 (.int k)).set 4 (.ref n.info)) (x:=n.info) (by simp)]
   rw[F1.npredA hn,hnp]
  refine Ma ?_ ?_
  ·simp only [Aw,Ae (i:=5) (ρ:=((ρ1.set 3 (.int k)).set 4 (.ref n.info)).set 5 (.int (-1))) (x:=-1) (by simp),cP];rfl
  refine Ag fun PP ret=>?_
  obtain⟨H2,σ2,hset,F2,fr2,hS2,hd2,hr2,hf2,hm2,hx2⟩:=F1.np hn hnk (v:=-2)
  refine ret ?_
  refine⟨.int (-2),rfl,rfl,.ref n.info,H2,Ah (by simp[Rho.set]),hset,?_⟩
  have F3:=F2.lockS hm2
  have hsl:=F2.hs _ hm2
  refine Qf (a:=n.succ) (o:=.lst false (n.nd.succs.map .int)) (by simpa using hsl) rfl ?_
  have hp2:Cq C a σ2 n.succ:=parts_iff.mpr (.inr (.inr (.inr ⟨_,hm2,.inr rfl⟩)))
  have fr3:Frm C a H2 σ2 (upd H2 n.succ (.f (.lst true (n.nd.succs.map .int)))) σ2:=.upd1 (fun b hb=>hb) fun b hb=>Ab fun q=>hb (q ▸ hp2)
  have hkeys2:σ2.toS.keys=σ1.toS.keys:=by rw[hS2];exact Cz (Il hkk)
  refine⟨n.nd.succs.map .int,?_,Ay _,?_⟩
  ·simp only [Hf,Au,Ah (i:=4) (ρ:=((ρ1.set 3 (.int k)).set 4 (.ref n.info)).set 5 (.int (-1))) (x:=n.info) (by simp[Rho.set])]
   have h4:=F3.succA hm2
   have h5:=F3.hs _ hm2
   simp at h5
   have h4':attrS C 2 (upd H2 n.succ (.f (.lst true (n.nd.succs.map .int)))) (.ref n.info)=some (.ref n.succ):=h4
   refine(?_:(match attrS C 2 (upd H2 n.succ (.f (.lst true (n.nd.succs.map .int)))) (.ref n.info)with | some v=>Mm _ v | none=>none)=_)
   rw[h4']
   refine(?_:Mm _ (.ref n.succ)=_)
   rw[Zu,Af];rfl
  refine Th (S1:=σ2.toS) (B:=B) (N:=0) F3 (((fr1.trans fr2).trans fr3)) rfl (fun s hs=>by rw[hkeys2];exact hsk s hs) r1' (by rw[hr2];exact hr1) ?_ (by simp[Rho.set,e0]) (by simp[Rho.set,e2,hd2]) ⟨_,hm2,rfl,rfl⟩ ?_
  ·have:i * B<=ks.length * B:=Nat.mul_le_mul_right B (by exact Ar.r190 hil)
   have h2:(i + 1) * B<=ks.length * B:=Nat.mul_le_mul_right B hil
   rw[Nat.add_mul]at h2
   exact Ar.r45 hz hz1 hml h2
  intro ρ4 H4 σ4 r4 F4 fr4 hS4 hr4 hz4 hd4 hρ4 hx4
  refine Ag fun PP ret=>?_
  obtain⟨m4,hm4,hms,hml4⟩:=hx4
  have F5:=F4.unlockS hm4 hms
  rw[hml4]at F5
  have hp4:Cq C a σ4 n.succ:=parts_iff.mpr (.inr (.inr (.inr ⟨m4,hm4,.inr hms.symm⟩)))
  have fr5:Frm C a H4 σ4 (upd H4 n.succ (.f (.lst false (n.nd.succs.map .int)))) σ4:=.upd1 (fun b hb=>hb) fun b hb=>Ab fun q=>hb (q ▸ hp4)
  obtain⟨F6,fr6⟩:=F5.setFin (p:=σ4.fin + 1)
  refine ret ?_
  refine(?_:Jc _ _ _ _ _ _ _ _)
  have e40:ρ4 0 = .ref a:=by rw[hρ4 0 (by decide) (by decide)];simp[Rho.set,e0]
  have e42:ρ4 2 = .ref σ4.d:=by rw[hρ4 2 (by decide) (by decide),hd4,hd2];simp[Rho.set,e2]
  refine⟨.ref a,.int σ4.fin,.int 1,.int (σ4.fin + 1),_,Ah e40,F5.finA,rfl,rfl,Fg F5.ha rfl (Nat.le_of_ble_eq_true rfl),?_⟩
  have hS6:({ σ4 with fin:=σ4.fin + 1 }:FSt).toS=σ1.toS.done1 k:=by
   unfold SState.done1
   dsimp only
   rw[hnode]
   rw[hnode]at hS2
   rw[<- hS2,<- hS4]
   rfl
  refine(hK _ _ ⟨{ σ4 with fin:=σ4.fin + 1 },r4,F6,(fr4.trans fr5).trans fr6,?_,?_,?_,hr4,?_,e40,e42⟩).1
  ·rw[hS6,hS1]
   have htk:ks.take (i + 1)=ks.take i++[k]:=by rw[List.take_succ,hki];rfl
   rw[htk,List.foldl_append];rfl
  ·rw[hS6];exact hok2
  ·rw[hS6];exact hB1.done1 k
  ·rw[Nat.add_mul];exact Ar.r73 hz1 hml hz4
 ·rintro ρ' H' ⟨σ',r',F',fr',hS',_⟩
  exact hQ H' σ' F' fr' (by simpa using hS')
end
end Mine
end
section
namespace Mine
noncomputable abbrev Ent:=Int × Addr × Nat
noncomputable def FSt.lenOf (σ:FSt) (k:Int):Nat:=(σ.toS.node k).succs.length
noncomputable def Dj (σ:FSt) (stk:List Ent):Nat:=(stk.map fun e=>σ.lenOf e.1 - e.2.2).sum
noncomputable def Hn (σ:FSt) (seen:List Int):Nat:=((σ.toS.keys.filter fun k=>decide (k ∉ seen)).map fun k=>σ.lenOf k + 1).sum
section
variable {C:Cx} (H:AH) (a:Addr) (σ:FSt) (rk:Int->Nat) (aS aI aE aD:Addr)
structure DInv (H':AH) (stk:List Ent) (seen:List Int):Prop where
 k:∀ b,H b ≠ none->b ≠ σ.d->H' b=H b
 d:H' σ.d=some (.f (.dic true σ.dicL))
 hS:H' aS=some (.f (.lst false (stk.map fun e=>AV.int e.1)))
 hI:H' aI=some (.f (.lst false (stk.map fun e=>AV.ref e.2.1)))
 hE:H' aE=some (.f (.iset seen))
 hD:∃ es,H' aD=some (.f (.dic false es))/\es.map (·.1)=stk.map (·.1)
 nx:∀ e ∈ stk,∃ n ∈ σ.nds,n.nd.key=e.1/\H' e.2.1=some (.f (.nxt n.succ e.2.2))/\e.2.2<=n.nd.succs.length
 nd:(stk.map (·.2.1)).Nodup
 fS:H aS=none
 fI:H aI=none
 fE:H aE=none
 fD:H aD=none
 fX:∀ e ∈ stk,H e.2.1=none
 si:aS ≠ aI
 rk:(stk.map (·.1)).Pairwise fun x y=>rk x < rk y
 sn:seen.Nodup
 sk:∀ x ∈ seen,x ∈ σ.toS.keys
 ss:∀ e ∈ stk,e.1 ∈ seen
end
theorem Cd {α:Type}[DecidableEq α]:∀ {l m:List α},l.Nodup->(∀ x ∈ l,x ∈ m)->l.length<=m.length
 | [],_,_,_=>Nat.zero_le _
 | x :: l,m,hn,hs=>by
  rw[List.nodup_cons]at hn
  have h1:=hs x (by simp)
  have h2:l.length<=(m.erase x).length:=Cd hn.2 fun y hy=>by
   have hne:y ≠ x:=fun q=>hn.1 (q ▸ hy)
   exact(List.mem_erase_of_ne hne).mpr (hs y (by simp[hy]))
  rw[List.length_erase_of_mem h1]at h2
  have:=List.length_pos_of_mem h1
  simp;exact Ar.r94 h2 this
theorem cG {σ:FSt}{seen:List Int}{x:Int}(hk:σ.toS.keys.Nodup)(hx:x ∈ σ.toS.keys)(hn:x ∉ seen):Hn σ seen=Hn σ (seen++[x]) + (σ.lenOf x + 1):=by
 unfold Hn
 generalize σ.toS.keys=l at hk hx
 induction l with
 | nil=>simp at hx
 | cons y l ih =>
  rw[List.nodup_cons]at hk
  by_cases e:y=x
  ·clear hx ih;subst e
   have h1:(l.filter fun k=>decide (k ∉ seen++[y]))=l.filter fun k=>decide (k ∉ seen):=by
    apply List.filter_congr
    intro z hz
    have:z ≠ y:=fun q=>hk.1 (q ▸ hz)
    simp[this]
   rw[List.filter_cons,List.filter_cons]
   simp only [hn,not_false_eq_true,decide_true,if_true]
   have:decide (y ∉ seen++[y])=false:=by simp
   rw[this]
   simp only [Bool.false_eq_true,if_false,List.map_cons,List.sum_cons]
   rw[h1];exact Ar.r2
  ·have hx':x ∈ l:=by rcases List.mem_cons.mp hx with q | q;exact absurd q.symm e;exact q
   have:=ih hk.2 hx'
   rw[List.filter_cons,List.filter_cons]
   by_cases hy:y ∈ seen
   ·have h1:decide (y ∉ seen)=false:=by simp[hy]
    have h2:decide (y ∉ seen++[x])=false:=by simp[hy]
    rw[h1,h2];exact this
   ·have h1:decide (y ∉ seen)=true:=by simp[hy]
    have h2:decide (y ∉ seen++[x])=true:=by simp[hy,e]
    rw[h1,h2]
    simp only [if_true,List.map_cons,List.sum_cons]
    rw[this];exact Ar.r1
theorem Ln {σ:FSt}{stk:List Ent}{e:Ent}:Dj σ (stk++[e])=Dj σ stk + (σ.lenOf e.1 - e.2.2):=by
 unfold Dj;rw[List.map_append,List.sum_append];simp
section
variable {C:Cx} {H:AH} {a:Addr} {σ:FSt} {rk:Int->Nat} {aS aI aE aD:Addr}
theorem Lq {H':AH}{x:Int}{ks:List Int}(h:H' a=some (.f (.iset ks))):inV H' (.int x) (.ref a)=some (decide (x ∈ ks)):=by
 unfold inV;rw[Fh,h];dsimp only;rw[h]
theorem dM {H':AH}{x:Int}{lk:Bool}{es:List (Int × AV)}(h:H' a=some (.f (.dic lk es))):inV H' (.int x) (.ref a)=some (es.lookup x).isSome:=by
 unfold inV;rw[Fh,h];dsimp only;rw[h]
theorem Cb {β:Type}:∀ {l:List (Int × β)} {b:Int},b ∉ l.map (·.1)->l.lookup b=none
 | [],b,_=>rfl
 | (d,w) :: r,b,h=>by
  simp only [List.map_cons,List.mem_cons,not_or]at h
  rw[List.lookup_cons]
  have:(b == d)=false:=by simpa using h.1
  rw[this];exact Cb h.2
theorem Fx {β:Type}:∀ {l:List (Int × β)} {b:Int},b ∈ l.map (·.1)->(l.lookup b).isSome=true
 | [],b,h=>by simp at h
 | (d,w) :: r,b,h=>by
  rw[List.lookup_cons]
  cases q:b == d with
  | true=>rfl
  | false =>
   have:¬ b=d:=by simpa using q
   simp only [List.map_cons,List.mem_cons,this,false_or]at h
   exact Fx h
theorem Rd {es:List (Int × AV)}{l:List Int}{x:Int}(h:es.map (·.1)=l++[x])(hx:x ∉ l):(es.filter fun p=>decide (p.1 ≠ x)).map (·.1)=l:=by
 have e:(es.filter fun p=>decide (p.1 ≠ x)).map (·.1)=(es.map (·.1)).filter fun y=>decide (y ≠ x):=by
  rw[List.filter_map];rfl
 rw[e,h,List.filter_append]
 have h1:l.filter (fun y=>decide (y ≠ x))=l:=by
  rw[List.filter_eq_self];intro y hy;simp;clear e h;rintro rfl;exact hx hy
 rw[h1];simp
structure Dag (σ:FSt) (rk:Int->Nat):Prop where
 ok:∀ n ∈ σ.nds,∀ s ∈ n.nd.succs,s ∈ σ.toS.keys/\rk n.nd.key < rk s
 few:σ.nds.length + 2 < scanBound
variable (F:Flat C false none H a σ) (hdag:Dag σ rk)
include F in
theorem DInv.flat {H':AH}{stk:List Ent}{seen:List Int}(D:DInv H σ rk aS aI aE aD H' stk seen):Flat C true none H' a σ:=by
 have kk:∀ b o,H b=some o->b ≠ σ.d->H' b=some o:=fun b o e hb=>by rw[D.k b (by rw[e];simp) hb];exact e
 refine⟨kk _ _ F.ha fun q=>?_,D.d,fun r hr=>kk _ _ (F.hr r hr) fun q=>?_,fun n hn=>kk _ _ (F.hi n hn) fun q=>?_,fun n hn=>kk _ _ (F.hs n hn) fun q=>?_,F.ni,F.ns,F.nk,F.nr⟩
 ·have:=F.ha;rw[q,F.hd]at this;cases this
 ·have:=F.hr r hr;rw[q,F.hd]at this;cases this
 ·have:=F.hi n hn;rw[q,F.hd]at this;cases this
 ·have:=F.hs n hn;rw[q,F.hd]at this;cases this
include F in
theorem bJ {H':AH}{stk:List Ent}{seen:List Int}{x:Int}{ρ:Rho}{T':Wp AFlow}{Q:AFlow->Rho->AH->Prop}(D:DInv H σ rk aS aI aE aD H' stk seen)(hx:x ∈ σ.toS.keys)(hns:x ∉ seen)(hr:∀ e ∈ stk,rk e.1 < rk x)(hdag:Dag σ rk)
  (h1:ρ 1 = .ref σ.d) (h2:ρ 2 = .ref aS) (h3:ρ 3 = .ref aI) (h4:ρ 4 = .ref aE) (h5:ρ 5 = .ref aD) (h6:ρ 6 = .int x)
  (hQ:∀ H2 nx,DInv H σ rk aS aI aE aD H2 (stk++[(x,nx,0)]) (seen++[x])->T' Q ρ H2) :
  Ad (Bm (Ue (vP 4) (vP 6))) (Ad (Bm (Oq (vP 3) (Ch (Wr (Au (attrS C 2) (opP idx (vP 1) (vP 6))))))) (Ad (Rf (Aq (bP' Er (Aa (vP 2) Ak))) (vP 5) (vP 6)) (Ad (Bm (Kd (vP 2) (vP 6))) T'))) Q ρ H':=by
 have G:=D.flat F
 obtain⟨n,hn,hnk⟩:=G.key_of hx
 have hlen:seen.length<=σ.nds.length:=by
  have h1:seen.length<=σ.toS.keys.length:=Cd D.sn (fun y hy=>D.sk y hy)
  simpa [SState.keys,FSt.toS]using h1
 have hfew:=hdag.few
 have hstkl:stk.length<=σ.nds.length:=by
  have hnd:(stk.map (·.1)).Nodup:=by
   rw[List.Nodup];exact D.rk.imp fun h e=>by rw[e]at h;exact Ar.r180 h
  have h1:(stk.map (·.1)).length<=σ.toS.keys.length:=Cd hnd (fun y hy=>by
   clear F G h1 h2 h3 h4 h5 h6 hQ hdag hfew hlen hn hnd hnk hns hr hx;obtain⟨e,he,rfl⟩:=List.mem_map.mp hy;exact D.sk _ (D.ss e he))
  simpa [SState.keys,FSt.toS]using h1
 have hsb:scanBound=4096:=rfl
 rw[hsb]at hfew
 -- distinct places
 refine Ag fun PP ret=>?_
 obtain⟨es,hes,hesk⟩:=D.hD
 have dSE:aS ≠ aE:=Aj D.hS D.hE rfl
 have dIE:aI ≠ aE:=Aj D.hI D.hE rfl
 have dDE:aD ≠ aE:=Aj hes D.hE rfl
 have dSD:aS ≠ aD:=Aj D.hS hes rfl
 have dID:aI ≠ aD:=Aj D.hI hes rfl
 have ddS:σ.d ≠ aS:=Aj D.d D.hS rfl
 have ddI:σ.d ≠ aI:=Aj D.d D.hI rfl
 have ddE:σ.d ≠ aE:=Aj D.d D.hE rfl
 have ddD:σ.d ≠ aD:=fun q=>by have:=D.d;rw[q,hes]at this;clear F hdag;cases this
 have dX:∀ e ∈ stk,e.2.1 ≠ aS/\e.2.1 ≠ aI/\e.2.1 ≠ aE/\e.2.1 ≠ aD/\e.2.1 ≠ σ.d:=fun e he=>by
  obtain⟨m,_,_,hm,_⟩:=D.nx e he
  refine⟨fun q=>?_,fun q=>?_,fun q=>?_,fun q=>?_,fun q=>?_⟩
  ·rw[q,D.hS]at hm;clear D F G dDE dID dIE dSD dSE ddD ddE ddI ddS h1 h2 h3 h4 h5 h6 hQ hdag he hes hesk hfew hlen hn hnk hns hr hsb hstkl hx left left_1 q ret right;cases hm
  ·rw[q,D.hI]at hm;clear D F G dDE dID dIE dSD dSE ddD ddE ddI ddS h1 h2 h3 h4 h5 h6 hQ hdag he hes hesk hfew hlen hn hnk hns hr hsb hstkl hx left left_1 q ret right;cases hm
  ·rw[q,D.hE]at hm;clear D F G dDE dID dIE dSD dSE ddD ddE ddI ddS h1 h2 h3 h4 h5 h6 hQ hdag he hes hesk hfew hlen hn hnk hns hr hsb hstkl hx left left_1 q ret right;cases hm
  ·rw[q,hes]at hm;clear D F G dDE dID dIE dSD dSE ddD ddE ddI ddS h1 h2 h3 h4 h5 h6 hQ hdag he hes hesk hfew hlen hn hnk hns hr hsb hstkl hx left left_1 q ret right;cases hm
  ·rw[q,D.d]at hm;clear D F G dDE dID dIE dSD dSE ddD ddE ddI ddS h1 h2 h3 h4 h5 h6 hQ hdag he hes hesk hfew hlen hn hnk hns hr hsb hstkl hx left left_1 q ret right;cases hm
 refine ret ?_
 -- seen.add
 refine⟨.ref aE,.int x,upd H' aE (.f (.iset (seen++[x]))),Ah h4,Ae h6,?_,?_⟩
 ·unfold Yn;simp only [D.hE];rw[if_pos ⟨hns,by rw[hsb];exact Ar.r102 hlen hfew⟩]
 -- itstack.append
 refine(?_:Ad (Bm (Oq _ _)) _ _ _ _)
 have e1:∀ b,b ≠ aE->upd H' aE (.f (.iset (seen++[x]))) b=H' b:=fun b hb=>Ab hb
 have iS:n.succ ≠ aE:=Aj (G.hs n hn) D.hE rfl
 have iI:n.info ≠ aE:=Aj (G.hi n hn) D.hE rfl
 refine⟨.ref aI,stk.map fun e=>AV.ref e.2.1,Ah h3,rfl,by simp[Fh,Hp,e1 aI dIE,D.hI],.nxt n.succ 0,?_,fun nx hnx=>?_⟩
 ·have g1:idx (upd H' aE (.f (.iset (seen++[x])))) (.ref σ.d) (.int x)=some (.ref n.info):=by
   have:=G.didx hn
   rw[hnk]at this
   rw[Qs,e1 σ.d ddE,<- Qs];exact this
  have g2:attrS C 2 (upd H' aE (.f (.iset (seen++[x])))) (.ref n.info)=some (.ref n.succ):=by
   have:=G.succA hn
   unfold attrS at this ⊢
   dsimp only at this ⊢
   rw[e1 _ iI];exact this
  have g3:=G.hs n hn
  unfold Wr
  rw[show Au (attrS C 2) (opP idx (vP 1) (vP 6)) _ _=some (.ref n.succ) by simp only [Au,opP,Ah h1,Ae h6,g1,g2]]
  dsimp only
  rw[e1 _ iS,g3]
 have nE:nx ≠ aE:=by first | exact Aj Af hnx rfl | exact Aj hnx Af rfl
 rw[e1 nx nE]at hnx
 have nS:nx ≠ aS:=Aj hnx D.hS rfl
 have nI:nx ≠ aI:=Aj hnx D.hI rfl
 have nD:nx ≠ aD:=Aj hnx hes rfl
 have nd':nx ≠ σ.d:=Aj hnx D.d rfl
 have nX:∀ e ∈ stk,e.2.1 ≠ nx:=fun e he q=>by obtain⟨m,_,_,hm,_⟩:=D.nx e he;rw[q,hnx]at hm;exact nqa hm
 have hHnx:H nx=none:=by
  clear F G dDE dID dIE dSD dSE dX ddD ddE ddI ddS e1 h1 h2 h3 h4 h5 h6 hQ hdag hes hesk hfew hlen hn hnk hns hr hsb hstkl hx iI iS nD nE nI nS nX ret;cases q:H nx with
  | none=>rfl
  | some o=>have:=D.k nx (by rw[q];simp) nd';rw[hnx,q]at this;exact nqa this
 refine⟨stk.map fun e=>AV.ref e.2.1,upd (upd (upd H' aE (.f (.iset (seen++[x])))) nx (.f (.nxt n.succ 0))) aI (.f (.lst false ((stk.map fun e=>AV.ref e.2.1)++[.ref nx]))),?_,?_,?_⟩
 ·simp only [Fh,Hp];rw[Ab (Ne.symm nI),e1 aI dIE,D.hI]
 ·unfold Ih
  dsimp only
  rw[Ab (Ne.symm nI),e1 aI dIE,D.hI]
  dsimp only
  rw[if_pos ⟨by simp[An];exact Ar.r137 hfew hstkl,by rw[stos_iff];intro v hv;simp at hv;clear D F G dDE dID dIE dSD dSE dX ddD ddE ddI ddS e1 h1 h2 h3 h4 h5 h6 hHnx hQ hdag hes hesk hfew hlen hn hnk hns hnx hr hsb hstkl hx iI iS nD nE nI nS nX nd' ret;rcases hv with ⟨_,_,_,_,rfl⟩ | rfl <;> rfl⟩]
 -- node2stacki[node]=len(stack)
 generalize hH3:upd (upd (upd H' aE (.f (.iset (seen++[x])))) nx (.f (.nxt n.succ 0))) aI (.f (.lst false ((stk.map fun e=>AV.ref e.2.1)++[.ref nx])))=H3
 have f3:∀ b,b ≠ aE->b ≠ nx->b ≠ aI->H3 b=H' b:=fun b q1 q2 q3=>by rw[<- hH3,Ab q3,Ab q2,Ab q1]
 have f3E:H3 aE=some (.f (.iset (seen++[x]))):=by rw[<- hH3,Ab (Ne.symm dIE),Ab (Ne.symm nE),Af]
 have f3n:H3 nx=some (.f (.nxt n.succ 0)):=by rw[<- hH3,Ab nI,Af]
 have f3I:H3 aI=some (.f (.lst false ((stk.map fun e=>AV.ref e.2.1)++[.ref nx]))):=by rw[<- hH3,Af]
 have f3S:H3 aS=some (.f (.lst false (stk.map fun e=>AV.int e.1))):=by rw[f3 aS dSE (Ne.symm nS) D.si];exact D.hS
 have f3D:H3 aD=some (.f (.dic false es)):=by rw[f3 aD dDE (Ne.symm nD) (Ne.symm dID)];exact hes
 have hxs:x ∉ stk.map (·.1):=fun q=>by clear F G dIE e1 h1 h3 h4 hH3 hdag hes hlen hnx hsb iI iS nE nI;obtain⟨e,he,rfl⟩:=List.mem_map.mp q;exact hns (D.ss e he)
 refine⟨.int stk.length,?_,rfl,.ref aD,.int x,upd H3 aD (.f (.dic false (es++[(x,.int stk.length)]))),Ah h5,Ae h6,?_,?_⟩
 ·simp only [bP',Aa,Ak,Ah h2,eT,eS,f3S,Option.map_some,List.length_map]
 ·rw[Ng]
  simp only [f3D]
  have hl:es.length=stk.length:=by have:=congrArg List.length hesk;simpa using this
  rw[if_pos ⟨by rw[Cb (by rw[hesk];exact hxs)];rfl,rfl,by rw[hl,An];exact Ar.r138 hfew hstkl⟩]
 -- stack.append
 refine⟨.ref aS,stk.map fun e=>AV.int e.1,.int x,upd (upd H3 aD (.f (.dic false (es++[(x,.int stk.length)])))) aS (.f (.lst false ((stk.map fun e=>AV.int e.1)++[.int x]))),Ah h2,?_,Ae h6,?_,?_⟩
 ·simp only [Fh,Hp];rw[Ab dSD,f3S]
 ·unfold Ih
  dsimp only
  rw[Ab dSD,f3S]
  dsimp only
  rw[if_pos ⟨by simp[An];exact Ar.r137 hfew hstkl,by rw[stos_iff];intro v hv;simp at hv;clear D F G dDE dID dIE dSD dSE dX ddD ddE ddI ddS e1 f3 f3D f3E f3I f3S f3n h1 h2 h3 h4 h5 h6 hH3 hHnx hQ hdag hes hesk hfew hlen hn hnk hns hnx hr hsb hstkl hx hxs iI iS nD nE nI nS nX nd' ret;rcases hv with ⟨_,_,rfl⟩ | rfl <;> rfl⟩]
 generalize hH4:upd (upd H3 aD (.f (.dic false (es++[(x,.int stk.length)])))) aS (.f (.lst false ((stk.map fun e=>AV.int e.1)++[.int x])))=H4
 have f4:∀ b,b ≠ aD->b ≠ aS->H4 b=H3 b:=fun b q1 q2=>by rw[<- hH4,Ab q2,Ab q1]
 refine hQ H4 nx ⟨fun b hb hbd=>?_,?_,?_,?_,?_,⟨es++[(x,.int stk.length)],?_,?_⟩,fun e he=>?_,?_,D.fS,D.fI,D.fE,D.fD,fun e he=>?_,D.si,?_,?_,fun y hy=>?_,fun e he=>?_⟩
 ·have nb:∀ c,H c=none->b ≠ c:=fun c hc q=>hb (q ▸ hc)
  rw[f4 b (nb _ D.fD) (nb _ D.fS),f3 b (nb _ D.fE) (nb _ hHnx) (nb _ D.fI)]
  exact D.k b hb hbd
 ·rw[f4 _ ddD ddS,f3 _ ddE (Ne.symm nd') ddI];exact D.d
 ·rw[<- hH4,Af];simp
 ·rw[f4 _ dID (Ne.symm D.si),f3I];simp
 ·rw[f4 _ (Ne.symm dDE) (Ne.symm dSE),f3E]
 ·rw[<- hH4,Ab (Ne.symm dSD),Af]
 ·simp[hesk]
 ·rcases List.mem_append.mp he with he | he
  ·refine Ag fun PP ret=>?_
   obtain⟨m,hm,hmk,hmx,hml⟩:=D.nx e he
   obtain⟨x1,x2,x3,x4,x5⟩:=dX e he
   refine ret ?_
   refine⟨m,hm,hmk,?_,hml⟩
   rw[f4 _ x4 x1,f3 _ x3 (nX e he) x2];exact hmx
  ·simp at he;clear D F G dDE dID dIE dSD dSE dX ddD ddE ddI ddS e1 f3 f3D f3E f3I f3S h1 h2 h3 h4 h5 h6 hH3 hH4 hHnx hQ hdag hes hesk hfew hlen hns hnx hr hsb hstkl hx hxs iI iS nE nI nX nd' ret;subst he
   refine⟨n,hn,hnk,?_,Nat.zero_le _⟩
   refine(?_:H4 nx=_)
   rw[f4 _ nD nS,f3n]
 ·rw[List.map_append,List.nodup_append]
  refine⟨D.nd,by simp,fun u hu v hv=>?_⟩
  simp at hv;clear D F G dDE dID dIE dSD dSE dX ddD ddE ddI ddS e1 f3 f3D f3E f3I f3S f3n f4 h1 h2 h3 h4 h5 h6 hH3 hH4 hHnx hQ hdag hes hesk hfew hlen hn hnk hns hnx hr hsb hstkl hx hxs iI iS nD nE nI nS nd';subst hv
  refine Ag fun PP ret=>?_
  obtain⟨e,he,rfl⟩:=List.mem_map.mp hu
  refine ret ?_
  exact nX e he
 ·rcases List.mem_append.mp he with he | he
  ·exact D.fX e he
  ·simp at he;clear D F G dDE dID dIE dSD dSE dX ddD ddE ddI ddS e1 f3 f3D f3E f3I f3S f3n f4 h1 h2 h3 h4 h5 h6 hH3 hH4 hQ hdag hes hesk hfew hlen hn hnk hns hnx hr hsb hstkl hx hxs iI iS nD nE nI nS nX nd' ret;subst he;exact hHnx
 ·rw[List.map_append,List.pairwise_append]
  refine⟨D.rk,by simp,fun u hu v hv=>?_⟩
  simp at hv;clear D F G dDE dID dIE dSD dSE dX ddD ddE ddI ddS e1 f3 f3D f3E f3I f3S f3n f4 h1 h2 h3 h4 h5 h6 hH3 hH4 hHnx hQ hdag hes hesk hfew hlen hn hnk hns hnx hsb hstkl hx hxs iI iS nD nE nI nS nX nd';subst hv
  refine Ag fun PP ret=>?_
  obtain⟨e,he,rfl⟩:=List.mem_map.mp hu
  refine ret ?_
  exact hr e he
 ·rw[List.nodup_append]
  exact⟨D.sn,by simp,fun u hu v hv=>by simp at hv;clear D F G dDE dID dIE dSD dSE dX ddD ddE ddI ddS e1 f3 f3D f3E f3I f3S f3n f4 h1 h2 h3 h4 h5 h6 hH3 hH4 hHnx hQ hdag hes hesk hfew hlen hn hnk hnx hr hsb hstkl hx hxs iI iS nD nE nI nS nX nd' ret;subst hv;exact fun e=>hns (e ▸ hu)⟩
 ·rcases List.mem_append.mp hy with hy | hy
  ·exact D.sk y hy
  ·simp at hy;clear D F G dDE dID dIE dSD dSE dX ddD ddE ddI ddS e1 f3 f3D f3E f3I f3S f3n f4 h1 h2 h3 h4 h5 h6 hH3 hH4 hHnx hQ hdag hes hesk hfew hlen hn hnk hns hnx hr hsb hstkl hxs iI iS nD nE nI nS nX nd' ret;subst hy;exact hx
 ·rcases List.mem_append.mp he with he | he
  ·exact List.mem_append_left _ (D.ss e he)
  ·simp at he;clear D F G dDE dID dIE dSD dSE dX ddD ddE ddI ddS e1 f3 f3D f3E f3I f3S f3n f4 h1 h2 h3 h4 h5 h6 hH3 hH4 hHnx hQ hdag hes hesk hfew hlen hn hnk hns hnx hr hsb hstkl hx hxs iI iS nD nE nI nS nX nd' ret;subst he;simp
end
end Mine
end
section
namespace Mine
section
variable {C:Cx} {H:AH} {a:Addr} {σ:FSt} {rk:Int->Nat} {aS aI aE aD:Addr}
theorem Sv (hk:(σ.nds.map (·.nd.key)).Nodup){n:FN}(hn:n ∈ σ.nds){k:Int}(e:n.nd.key=k):σ.lenOf k=n.nd.succs.length:=by
 unfold FSt.lenOf;rw[<- e,Ek hk hn]
theorem Sw {α:Type}(l:List α):l=[]\/∃ s e,l=s++[e]:=by
 rcases List.eq_nil_or_concat l with h | ⟨s,e,h⟩
 ·exact .inl h
 ·exact .inr ⟨s,e,by simpa using h⟩
variable (F:Flat C false none H a σ) (hdag:Dag σ rk)
include F hdag in
theorem Xi {H':AH}{stk:List Ent}{seen:List Int}{ρ:Rho}{Q:AFlow->Rho->AH->Prop}(D:DInv H σ rk aS aI aE aD H' stk seen)
  (h2:ρ 2 = .ref aS) (h3:ρ 3 = .ref aI) (h5:ρ 5 = .ref aD)
  (hbrk:∀ H2 stk2 y,DInv H σ rk aS aI aE aD H2 stk2 seen->y ∈ σ.toS.keys->(∀ e ∈ stk2,rk e.1 < rk y)->Dj σ stk2 + 1<=Dj σ stk->Q .next (ρ.set 6 (.int y)) H2)
  (hend:∀ H2,DInv H σ rk aS aI aE aD H2 [] seen->Q .brk ρ H2) :
  Fd (Bg (Hy (vP 2))) (Ad (Rz 3 2 5 6) Ai) (Ad Xm Ai) Q ρ H':=by
 refine⟨fun m ρ' H2=>ρ' = ρ/\∃ stk2,m=stk2.length/\DInv H σ rk aS aI aE aD H2 stk2 seen/\Dj σ stk2<=Dj σ stk,stk.length,⟨rfl,stk,rfl,D,Nat.le_refl _⟩,?_⟩
 rintro m ρ' H2 ⟨rfl,stk2,rfl,D2,hrem⟩
 rcases Sw stk2 with rfl | ⟨st,e,rfl⟩
 ·refine⟨false,?_,?_⟩
  ·simp only [Hy,Ah h2,Xy,D2.hS];rfl
  ·simp only [Bool.false_eq_true,if_false]
   exact hend H2 D2
 ·refine⟨true,?_,?_⟩
  ·simp only [Hy,Ah h2,Xy,D2.hS];simp
  simp only [if_true]
  refine Ag fun PP ret=>?_
  have G:=D2.flat F
  obtain⟨n,hn,hnk,hnx,hpos⟩:=D2.nx e (by simp)
  obtain⟨es,hes,hesk⟩:=D2.hD
  have hsrc:=G.hs n hn
  have hlen:σ.lenOf e.1=n.nd.succs.length:=Sv F.nk hn hnk
  have dXS:e.2.1 ≠ aS:=Aj hnx D2.hS rfl
  have dXI:e.2.1 ≠ aI:=Aj hnx D2.hI rfl
  have dXE:e.2.1 ≠ aE:=Aj hnx D2.hE rfl
  have dXD:e.2.1 ≠ aD:=Aj hnx hes rfl
  have dXd:e.2.1 ≠ σ.d:=Aj hnx D2.d rfl
  have hfX:H e.2.1=none:=D2.fX e (by simp)
  have hnd2:=D2.nd
  rw[List.map_append,List.nodup_append]at hnd2
  have dXX:∀ e' ∈ st,e'.2.1 ≠ e.2.1:=fun e' he'=>hnd2.2.2 e'.2.1 (List.mem_map.mpr ⟨e',he',rfl⟩) e.2.1 (by simp)
  have hrk2:=D2.rk
  rw[List.map_append,List.pairwise_append]at hrk2
  refine ret ?_
  refine(?_:Rz 3 2 5 6 _ _ _)
  refine⟨aI,st.map fun e=>AV.ref e.2.1,e.2.1,n.succ,e.2.2,_,n.nd.succs.map .int,h3,by rw[D2.hI];simp,hnx,hsrc,?_⟩
  rcases Nat.lt_or_ge e.2.2 n.nd.succs.length with hlt | hge
  ·left
   refine⟨.int (n.nd.succs[e.2.2]),by simp[hlt],?_⟩
   obtain⟨hyk,hyr⟩:=hdag.ok n hn _ (List.getElem_mem hlt)
   rw[hnk]at hyr
   refine hbrk _ (st++[(e.1,e.2.1,e.2.2 + 1)]) _ ⟨fun b hb hbd=>?_,?_,?_,?_,?_,⟨es,?_,?_⟩,fun e' he'=>?_,?_,D2.fS,D2.fI,D2.fE,D2.fD,fun e' he'=>?_,D2.si,?_,D2.sn,D2.sk,fun e' he'=>?_⟩ hyk (fun e' he'=>?_) ?_
   ·rw[Ab (fun q=>hb (by rw[q];exact hfX))];exact D2.k b hb hbd
   ·rw[Ab (Ne.symm dXd)];exact D2.d
   ·rw[Ab (Ne.symm dXS),D2.hS];simp
   ·rw[Ab (Ne.symm dXI),D2.hI];simp
   ·rw[Ab (Ne.symm dXE)];exact D2.hE
   ·rw[Ab (Ne.symm dXD)];exact hes
   ·rw[hesk];simp
   ·rcases List.mem_append.mp he' with he' | he'
    ·refine Ag fun PP ret=>?_
     obtain⟨m,hm,hmk,hmx,hml⟩:=D2.nx e' (by simp[he'])
     refine ret ?_
     exact⟨m,hm,hmk,by rw[Ab (dXX e' he')];exact hmx,hml⟩
    ·simp at he';subst he'
     exact⟨n,hn,hnk,Af,hlt⟩
   ·have:=D2.nd;simpa using this
   ·rcases List.mem_append.mp he' with he' | he'
    ·exact D2.fX e' (by simp[he'])
    ·simp at he';subst he';exact hfX
   ·have:=D2.rk;simpa using this
   ·rcases List.mem_append.mp he' with he' | he'
    ·exact D2.ss e' (by simp[he'])
    ·simp at he';subst he';exact D2.ss e (by simp)
   ·rcases List.mem_append.mp he' with he' | he'
    ·exact Nat.lt_trans (hrk2.2.2 e'.1 (List.mem_map.mpr ⟨e',he',rfl⟩) e.1 (by simp)) hyr
    ·simp at he';subst he';exact hyr
   ·refine Nat.le_trans ?_ hrem
    rw[Ln,Ln]
    dsimp only
    rw[hlen];exact Ar.r187 hlt
  ·right
   have hp:e.2.2=n.nd.succs.length:=Nat.le_antisymm hpos hge
   have dSD:aS ≠ aD:=Aj D2.hS hes rfl
   have dID:aI ≠ aD:=Aj D2.hI hes rfl
   have dSE:aS ≠ aE:=Aj D2.hS D2.hE rfl
   have dIE:aI ≠ aE:=Aj D2.hI D2.hE rfl
   have dDE:aD ≠ aE:=Aj hes D2.hE rfl
   have ddS:σ.d ≠ aS:=Aj D2.d D2.hS rfl
   have ddI:σ.d ≠ aI:=Aj D2.d D2.hI rfl
   have ddD:σ.d ≠ aD:=fun q=>by have:=D2.d;rw[q,hes]at this;cases this
   have hxl:e.1 ∉ st.map (·.1):=fun q=>by
    have:=hrk2.2.2 e.1 q e.1 (by simp);exact Ar.r180 this
   have hl:es.length=st.length + 1:=by have:=congrArg List.length hesk;simpa using this
   have hfew:=hdag.few
   have hsb:scanBound=4096:=rfl
   rw[hsb]at hfew
   have hstkl:st.length + 1<=σ.nds.length:=by
    have hnd:((st++[e]).map (·.1)).Nodup:=by
     rw[List.Nodup];exact D2.rk.imp fun h e=>by rw[e]at h;exact Ar.r180 h
    have h1:((st++[e]).map (·.1)).length<=σ.toS.keys.length:=Cd hnd (fun y hy=>by
     obtain⟨e,he,rfl⟩:=List.mem_map.mp hy;exact D2.sk _ (D2.ss e he))
    simpa [SState.keys,FSt.toS]using h1
   refine⟨by simp[hp],aS,aD,st.map (fun e=>AV.int e.1),e.1,es,h2,h5,by rw[D2.hS];simp,hes,Fx (by rw[hesk];simp),by rw[hl,An];exact Ar.r136 hfew hstkl,D2.si,?_⟩
   refine(?_:∃ m,_)
   refine⟨st.length,by simp,rfl,st,rfl,?_,?_⟩
   ·have f:∀ b,b ≠ e.2.1->b ≠ aS->b ≠ aD->b ≠ aI->upd (upd (upd (del H2 e.2.1) aS (.f (.lst false (st.map fun e=>AV.int e.1)))) aD (.f (.dic false (es.filter fun p=>decide (p.1 ≠ e.1))))) aI (.f (.lst false (st.map fun e=>AV.ref e.2.1))) b=H2 b:=fun b q1 q2 q3 q4=>by
     rw[Ab q4,Ab q3,Ab q2];simp[del,q1]
    refine⟨fun b hb hbd=>?_,?_,?_,?_,?_,⟨es.filter fun p=>decide (p.1 ≠ e.1),?_,?_⟩,fun e' he'=>?_,hnd2.1,D2.fS,D2.fI,D2.fE,D2.fD,fun e' he'=>D2.fX e' (by simp[he']),D2.si,hrk2.1,D2.sn,D2.sk,fun e' he'=>D2.ss e' (by simp[he'])⟩
    ·have nb:∀ c,H c=none->b ≠ c:=fun c hc q=>hb (q ▸ hc)
     rw[f b (nb _ hfX) (nb _ D2.fS) (nb _ D2.fD) (nb _ D2.fI)];exact D2.k b hb hbd
    ·rw[f _ (Ne.symm dXd) ddS ddD ddI];exact D2.d
    ·rw[Ab D2.si,Ab dSD,Af]
    ·rw[Af]
    ·rw[f _ (Ne.symm dXE) (Ne.symm dSE) (Ne.symm dDE) (Ne.symm dIE)];exact D2.hE
    ·rw[Ab (Ne.symm dID),Af]
    ·exact Rd (by rw[hesk];simp) hxl
    ·refine Ag fun PP ret=>?_
     obtain⟨m,hm,hmk,hmx,hml⟩:=D2.nx e' (by simp[he'])
     refine ret ?_
     refine⟨m,hm,hmk,?_,hml⟩
     rw[f _ (dXX e' he') (Aj hmx D2.hS rfl) (Aj hmx hes rfl) (Aj hmx D2.hI rfl)]
     exact hmx
   ·refine Nat.le_trans ?_ hrem
    rw[Ln];exact Ar.r205
include F hdag in
theorem Xh {H':AH}{seen:List Int}{x:Int}{ρ:Rho}{Q:AFlow->Rho->AH->Prop}(D:DInv H σ rk aS aI aE aD H' [] seen)(hx:x ∈ σ.toS.keys)
  (h1:ρ 1 = .ref σ.d) (h2:ρ 2 = .ref aS) (h3:ρ 3 = .ref aI) (h4:ρ 4 = .ref aE) (h5:ρ 5 = .ref aD) (h6:ρ 6 = .int x)
  (hQ:∀ ρ' H2 seen2,DInv H σ rk aS aI aE aD H2 [] seen2->(∀ i,i ≠ 6->ρ' i=ρ i)->Q .next ρ' H2) :
  Fd (Bg (Hy (cP (.bool true)))) (Ad (ifT (Bg (Aw inV (vP 6) (vP 4))) (Ad (ifT (Bg (Aw inV (vP 6) (vP 5))) noT Ai) Ai) (Ad (Bm (Ue (vP 4) (vP 6))) (Ad (Bm (Oq (vP 3) (Ch (Wr (Au (attrS C 2) (opP idx (vP 1) (vP 6))))))) (Ad (Rf (Aq (bP' Er (Aa (vP 2) Ak))) (vP 5) (vP 6)) (Ad (Bm (Kd (vP 2) (vP 6))) Ai))))) (Ad (Fd (Bg (Hy (vP 2))) (Ad (Rz 3 2 5 6) Ai) (Ad Xm Ai)) Ai)) Ai Q ρ H':=by
 refine⟨fun N ρ' H2=>∃ stk2 seen2 x,N=Hn σ seen2 + Dj σ stk2/\DInv H σ rk aS aI aE aD H2 stk2 seen2/\ρ' 6 = .int x/\(∀ i,i ≠ 6->ρ' i=ρ i)/\x ∈ σ.toS.keys/\∀ e ∈ stk2,rk e.1 < rk x,_,⟨[],seen,x,rfl,D,h6,fun z0 z0=>rfl,hx,by simp⟩,?_⟩
 rintro N ρ1 H2 ⟨stk2,seen2,x,rfl,D2,e6,eρ,hx2,hr2⟩
 have e1:ρ1 1 = .ref σ.d:=by rw[eρ 1 (by decide)];exact h1
 have e2:ρ1 2 = .ref aS:=by rw[eρ 2 (by decide)];exact h2
 have e3:ρ1 3 = .ref aI:=by rw[eρ 3 (by decide)];exact h3
 have e4:ρ1 4 = .ref aE:=by rw[eρ 4 (by decide)];exact h4
 have e5:ρ1 5 = .ref aD:=by rw[eρ 5 (by decide)];exact h5
 have hkn:σ.toS.keys.Nodup:=by
  have:=F.nk;simpa [SState.keys,FSt.toS,List.map_map,Function.comp_def]using this
 refine⟨true,rfl,?_⟩
 simp only [if_true]
 -- behind the choice
 have rest:∀ H3 stk3 seen3,DInv H σ rk aS aI aE aD H3 stk3 seen3->Hn σ seen3 + Dj σ stk3<=Hn σ seen2 + Dj σ stk2 ->
   (Ad (Fd (Bg (Hy (vP 2))) (Ad (Rz 3 2 5 6) Ai) (Ad Xm Ai)) Ai) (fun f ρ2 H2=>match f with
    | .next=>∃ m,m < Hn σ seen2 + Dj σ stk2/\∃ stk2 seen2 x,m=Hn σ seen2 + Dj σ stk2/\DInv H σ rk aS aI aE aD H2 stk2 seen2/\ρ2 6 = .int x/\(∀ i,i ≠ 6->ρ2 i=ρ i)/\x ∈ σ.toS.keys/\∀ e ∈ stk2,rk e.1 < rk x
    | .cont=>∃ m,m < Hn σ seen2 + Dj σ stk2/\∃ stk2 seen2 x,m=Hn σ seen2 + Dj σ stk2/\DInv H σ rk aS aI aE aD H2 stk2 seen2/\ρ2 6 = .int x/\(∀ i,i ≠ 6->ρ2 i=ρ i)/\x ∈ σ.toS.keys/\∀ e ∈ stk2,rk e.1 < rk x
    | .brk=>Q .next ρ2 H2
    | .ret v=>Q (.ret v) ρ2 H2) ρ1 H3:=by
  intro H3 stk3 seen3 D3 hle
  refine Xi F hdag D3 e2 e3 e5 (fun H4 stk4 y D4 hy hr4 hrem=>?_) fun H4 D4=>?_
  ·refine⟨Hn σ seen3 + Dj σ stk4,by exact Ar.r67 hle hrem,stk4,seen3,y,rfl,D4,by simp,fun i hi=>by simp[Rho.set,hi,eρ i hi],hy,hr4⟩
  ·exact hQ ρ1 H4 seen3 D4 eρ
 by_cases hs:x ∈ seen2
 ·refine Wi ?_ ?_
  ·simp only [Aw,Ae e6,Ah e4];rw[Lq D2.hE];simp[hs]
  obtain⟨es,hes,hesk⟩:=D2.hD
  refine Js (Ma ?_ (eP (rest H2 stk2 seen2 D2 (Nat.le_refl _))))
  simp only [Aw,Ae e6,Ah e5]
  rewrite [dM hes,Cb ?_];rfl
  rw[hesk]
  intro q
  obtain⟨e,he,q⟩:=List.mem_map.mp q
  have:=hr2 e he
  rw[q]at this;exact Ar.r180 this
 ·refine lH ?_ ?_
  ·simp only [Aw,Ae e6,Ah e4];rw[Lq D2.hE];simp[hs]
  refine Js ?_
  have hpush:=bJ (C:=C) F (T':=Ad Ai (Ad (Fd (Bg (Hy (vP 2))) (Ad (Rz 3 2 5 6) Ai) (Ad Xm Ai)) Ai)) (Q:=fun f ρ2 H2=>match f with
    | .next=>∃ m,m < Hn σ seen2 + Dj σ stk2/\∃ stk2 seen2 x,m=Hn σ seen2 + Dj σ stk2/\DInv H σ rk aS aI aE aD H2 stk2 seen2/\ρ2 6 = .int x/\(∀ i,i ≠ 6->ρ2 i=ρ i)/\x ∈ σ.toS.keys/\∀ e ∈ stk2,rk e.1 < rk x
    | .cont=>∃ m,m < Hn σ seen2 + Dj σ stk2/\∃ stk2 seen2 x,m=Hn σ seen2 + Dj σ stk2/\DInv H σ rk aS aI aE aD H2 stk2 seen2/\ρ2 6 = .int x/\(∀ i,i ≠ 6->ρ2 i=ρ i)/\x ∈ σ.toS.keys/\∀ e ∈ stk2,rk e.1 < rk x
    | .brk=>Q .next ρ2 H2
    | .ret v=>Q (.ret v) ρ2 H2) D2 hx2 hs hr2 hdag e1 e2 e3 e4 e5 e6 (fun H3 nx D3=>eP (rest H3 _ _ D3 (by
     rw[Ln,cG hkn hx2 hs];simp only [Nat.sub_zero];exact Ar.r202)))
  have as4:∀ {A B D E G:Wp AFlow} {Q:AFlow->Rho->AH->Prop} {ρ:Rho} {H:AH},Ad A (Ad B (Ad D (Ad E G))) Q ρ H->Ad A (Ad (Ad B (Ad D E)) G) Q ρ H:=by
   intro A B D E G Q ρ H h
   have e:Ad (Ad B (Ad D E)) G=Ad B (Ad D (Ad E G)):=by
    funext Q ρ H
    apply propext
    constructor
    ·intro h
     have e1:Bf (Ad D E) (Bf G Q)=Bf (Ad (Ad D E) G) Q:=by funext f ρ H;cases f <;> rfl
     have h1:B (Bf (Ad D E) (Bf G Q)) ρ H:=h
     rw[e1]at h1
     have e2:Bf E (Bf G Q)=Bf (Ad E G) Q:=by funext f ρ H;cases f <;> rfl
     have e3:Bf (Ad (Ad D E) G) Q=Bf (Ad D (Ad E G)) Q:=by
      funext f ρ H
      cases f with
      | next =>
       refine(?_:D (Bf E (Bf G Q)) ρ H=D (Bf (Ad E G) Q) ρ H)
       rw[e2]
      | _=>rfl
     rw[e3]at h1;exact h1
    ·intro h
     have e2:Bf E (Bf G Q)=Bf (Ad E G) Q:=by funext f ρ H;cases f <;> rfl
     have e3:Bf (Ad D E) (Bf G Q)=Bf (Ad D (Ad E G)) Q:=by
      funext f ρ H
      cases f with
      | next =>
       refine(?_:D (Bf E (Bf G Q)) ρ H=D (Bf (Ad E G) Q) ρ H)
       rw[e2]
      | _=>rfl
     have h1:B (Bf (Ad D (Ad E G)) Q) ρ H:=h
     rw[<- e3]at h1;exact h1
   rw[e];exact h
  refine as4 ?_
  have e:∀ {A G:Wp AFlow},Ad (Ad A Ai) G=Ad A (Ad Ai G):=by
   intro A G
   funext Q ρ H
   have:Bf Ai (Bf G Q)=Bf (Ad Ai G) Q:=by funext f ρ H;cases f <;> rfl
   refine(?_:A (Bf Ai (Bf G Q)) ρ H=A (Bf (Ad Ai G) Q) ρ H)
   rw[this]
  rw[e]
  exact hpush
end
end Mine
end
section
namespace Mine
section
variable {C:Cx} {H:AH} {a:Addr} {σ:FSt} {rk:Int->Nat}
theorem Li {Q:AV->AH->Prop}(F:Flat C false none H a σ)(hdag:Dag σ rk)
  (hQ:∀ H',Flat C false none H' a σ->Frm C a H σ H' σ->Q .none H'):Df C [.ref a] Q H:=by
 unfold Df Cc
 refine⟨_,rfl,?_⟩
 unfold Eg
 generalize hρ:(fun i=>([.ref a]:List AV).getD i .undef)=ρ0
 change Rho at ρ0
 have r0:ρ0 0 = .ref a:=by rw[<- hρ];rfl
 refine Jr (v:=.ref σ.d) ?_ rfl ?_
 ·simp only [Au,Ah r0];exact F.n2i
 refine Fv (o:=.lst false []) rfl fun aS hS=>?_
 refine Fv (o:=.lst false []) rfl fun aI hI=>?_
 refine Fv (o:=.iset []) rfl fun aE hE=>?_
 refine Fv (o:=.dic false []) rfl fun aD hD=>?_
 have nIS:aI ≠ aS:=by first | exact Aj Af hI rfl | exact Aj hI Af rfl
 have nEI:aE ≠ aI:=by first | exact Aj Af hE rfl | exact Aj hE Af rfl
 have nES:aE ≠ aS:=fun qq=>by first | (rw[<- qq,Ab nEI,Af]at hE;exact nqb hE) | (rw[qq,Ab nEI,Af]at hE;exact nqb hE)
 have nDE:aD ≠ aE:=by first | exact Aj Af hD rfl | exact Aj hD Af rfl
 have nDI:aD ≠ aI:=fun qq=>by first | (rw[<- qq,Ab nDE,Af]at hD;exact nqb hD) | (rw[qq,Ab nDE,Af]at hD;exact nqb hD)
 have nDS:aD ≠ aS:=fun qq=>by first | (rw[<- qq,Ab nDE,Ab nDI,Af]at hD;exact nqb hD) | (rw[qq,Ab nDE,Ab nDI,Af]at hD;exact nqb hD)
 rw[Ab nIS]at hI
 rw[Ab nEI,Ab nES]at hE
 rw[Ab nDE,Ab nDI,Ab nDS]at hD
 have dS:σ.d ≠ aS:=Aj F.hd hS rfl
 have dI:σ.d ≠ aI:=Aj F.hd hI rfl
 have dE:σ.d ≠ aE:=Aj F.hd hE rfl
 have dD:σ.d ≠ aD:=Aj F.hd hD rfl
 generalize hH5:upd (upd (upd (upd H aS (.f (.lst false []))) aI (.f (.lst false []))) aE (.f (.iset []))) aD (.f (.dic false []))=H5
 have e5:∀ b,b ≠ aS->b ≠ aI->b ≠ aE->b ≠ aD->H5 b=H b:=fun b q1 q2 q3 q4=>by rw[<- hH5,Ab q4,Ab q3,Ab q2,Ab q1]
 have e5d:H5 σ.d=some (.f (.dic false σ.dicL)):=by rw[e5 _ dS dI dE dD];exact F.hd
 refine Qf e5d rfl ?_
 have D0:DInv H σ rk aS aI aE aD (upd H5 σ.d (.f (.dic true σ.dicL))) [] []:=by
  refine⟨fun b hb hbd=>?_,Af,?_,?_,?_,⟨[],?_,rfl⟩,by simp,by simp,hS,hI,hE,hD,by simp,Ne.symm nIS,by simp,by simp,by simp,by simp⟩
  ·have nb:∀ c,H c=none->b ≠ c:=fun c hc q=>hb (q ▸ hc)
   rw[Ab hbd,e5 b (nb _ hS) (nb _ hI) (nb _ hE) (nb _ hD)]
  ·rw[Ab (Ne.symm dS),<- hH5,Ab (Ne.symm nDS),Ab (Ne.symm nES),Ab (Ne.symm nIS),Af];rfl
  ·rw[Ab (Ne.symm dI),<- hH5,Ab (Ne.symm nDI),Ab (Ne.symm nEI),Af];rfl
  ·rw[Ab (Ne.symm dE),<- hH5,Ab (Ne.symm nDE),Af]
  ·rw[Ab (Ne.symm dD),<- hH5,Af]
 generalize hρ5:((((ρ0.set 1 (.ref σ.d)).set 2 (.ref aS)).set 3 (.ref aI)).set 4 (.ref aE)).set 5 (.ref aD)=ρ5
 have h1:ρ5 1 = .ref σ.d:=by rw[<- hρ5];simp[Rho.set]
 have h2:ρ5 2 = .ref aS:=by rw[<- hρ5];simp[Rho.set]
 have h3:ρ5 3 = .ref aI:=by rw[<- hρ5];simp[Rho.set]
 have h4:ρ5 4 = .ref aE:=by rw[<- hρ5];simp[Rho.set]
 have h5:ρ5 5 = .ref aD:=by rw[<- hρ5];simp[Rho.set]
 have hfew:=hdag.few
 have hsb:scanBound=4096:=rfl
 rw[hsb]at hfew
 refine⟨σ.toS.keys.map .int,?_,Ay _,?_⟩
 ·unfold dC
  rw[Ah h1]
  refine(?_:cZ (upd H5 σ.d (.f (.dic true σ.dicL))) (.ref σ.d)=_)
  unfold cZ
  simp only [D0.d]
  rw[if_pos (by simp[FSt.dicL,An];exact Ar.r139 hfew)]
  simp[FSt.dicL,SState.keys,FSt.toS,Function.comp_def]
 refine Fp (fun z0 ρ H2=>(∃ seen,DInv H σ rk aS aI aE aD H2 [] seen)/\ρ 1 = .ref σ.d/\ρ 2 = .ref aS/\ρ 3 = .ref aI/\ρ 4 = .ref aE/\ρ 5 = .ref aD) ⟨⟨[],D0⟩,h1,h2,h3,h4,h5⟩ ?_ ?_
 ·rintro i x ρ H2 K' hx ⟨⟨seen,D⟩,g1,g2,g3,g4,g5⟩ hK
  have hxk:x ∈ σ.toS.keys:=List.mem_of_getElem? hx
  have s1:(ρ.set 6 (.int x)) 1 = .ref σ.d:=by simp[Rho.set,g1]
  have s2:(ρ.set 6 (.int x)) 2 = .ref aS:=by simp[Rho.set,g2]
  have s3:(ρ.set 6 (.int x)) 3 = .ref aI:=by simp[Rho.set,g3]
  have s4:(ρ.set 6 (.int x)) 4 = .ref aE:=by simp[Rho.set,g4]
  have s5:(ρ.set 6 (.int x)) 5 = .ref aD:=by simp[Rho.set,g5]
  have s6:(ρ.set 6 (.int x)) 6 = .int x:=by simp
  by_cases hs:x ∈ seen
  ·refine Wi ?_ ?_
   ·simp only [Aw,Ae s6,Ah s4];rw[Lq D.hE];simp[hs]
   exact(hK _ _ ⟨⟨seen,D⟩,s1,s2,s3,s4,s5⟩).2
  ·refine Ma ?_ ?_
   ·simp only [Aw,Ae s6,Ah s4];rw[Lq D.hE];simp[hs]
   refine Xh F hdag D hxk s1 s2 s3 s4 s5 s6 fun ρ' H3 seen2 D3 hρ'=>?_
   exact(hK _ _ ⟨⟨seen2,D3⟩,by rw[hρ' 1 (by decide)];exact s1,by rw[hρ' 2 (by decide)];exact s2,by rw[hρ' 3 (by decide)];exact s3,by rw[hρ' 4 (by decide)];exact s4,by rw[hρ' 5 (by decide)];exact s5⟩).1
 ·rintro ρ H2 ⟨⟨seen,D⟩,_⟩
  refine Uf (v:=.none) rfl rfl ?_
  have G:=D.flat F
  refine hQ _ ⟨?_,Af,fun r hr=>?_,fun n hn=>?_,fun n hn=>?_,G.ni,G.ns,G.nk,G.nr⟩ ⟨fun b hb hn=>?_,fun b hb=>.inl hb⟩
  ·rw[Ab (Aj G.ha G.hd rfl)];exact G.ha
  ·rw[Ab (Aj (G.hr r hr) G.hd rfl)];exact G.hr r hr
  ·rw[Ab (Aj (G.hi n hn) G.hd rfl)];exact G.hi n hn
  ·rw[Ab (Aj (G.hs n hn) G.hd rfl)];exact G.hs n hn
  ·have hbd:b ≠ σ.d:=fun q=>hb (parts_iff.mpr (.inr (.inl q)))
   rw[Ab hbd];exact D.k b hn hbd
noncomputable def SState.prep (S:SState):SState:={ S with ready:=some ((S.nodes.filter fun n=>decide (n.npred=0)).map (·.key)) }
theorem Pd {Q:AV->AH->Prop}(F:Flat C false none H a σ)(hr:σ.ready=none)(hdag:Dag σ rk)
  (hQ:∀ H' σ',Flat C false none H' a σ'->Frm C a H σ H' σ'->σ'.toS=σ.toS.prep->Q .none H'):Ei C [.ref a] Q H:=by
 unfold Ei Cc
 refine⟨_,rfl,?_⟩
 unfold Ft
 generalize hρ:(fun i=>([.ref a]:List AV).getD i .undef)=ρ0
 change Rho at ρ0
 have r0:ρ0 0 = .ref a:=by rw[<- hρ];rfl
 have hrd:σ.rdy = .none:=by unfold FSt.rdy;rw[hr]
 have hfew:=hdag.few
 have hsb:scanBound=4096:=rfl
 rw[hsb]at hfew
 refine Ma ?_ ?_
 ·simp only [Aw,Au,Ah r0,F.rdyA,cP,hrd];rfl
 have hcomp:Gb (Vr (Au (attrD C "_node2info") (vP 0))) (.one 2) (Aw eqV (Au (attrS C 1) (vP 2)) (cP (.int 0))) (Go (Au (attrS C 0) (vP 2))) (.lst false []) ρ0 H=some (.lst false (((σ.nds.filter fun n=>decide (n.nd.npred=0)).map (·.nd.key)).map .int)):=by
  unfold Gb
  have e1:Vr (Au (attrD C "_node2info") (vP 0)) ρ0 H=some (σ.nds.map fun n=>AV.ref n.info):=by
   unfold Vr
   simp only [Au,Ah r0,F.n2i]
   refine(?_:cE H (.ref σ.d)=_)
   unfold cE
   simp only [F.hd]
   rw[if_pos (by simp[FSt.dicL,An];exact Ar.r139 hfew)]
   simp[FSt.dicL,Function.comp_def]
  rw[e1]
  dsimp only
  have main:∀ (l:List FN) (acc:List AV),(∀ n ∈ l,n ∈ σ.nds)->acc.length + l.length<=σ.nds.length->Cf (.one 2) (Aw eqV (Au (attrS C 1) (vP 2)) (cP (.int 0))) (Go (Au (attrS C 0) (vP 2))) ρ0 H (.lst false acc) (l.map fun n=>AV.ref n.info)=some (.lst false (acc++((l.filter fun n=>decide (n.nd.npred=0)).map (·.nd.key)).map .int)):=by
   intro l
   induction l with
   | nil=>intro acc _ _;simp[kU]
   | cons n l ih =>
    intro acc hl hz
    have hn:=hl n (by simp)
    have p2:(ρ0.set 2 (.ref n.info)) 2 = .ref n.info:=by simp
    simp only [List.map_cons,jK]
    refine(?_:(match Aw eqV (Au (attrS C 1) (vP 2)) (cP (.int 0)) (ρ0.set 2 (.ref n.info)) H with
     | some true=>match Go (Au (attrS C 0) (vP 2)) (ρ0.set 2 (.ref n.info)) H (.lst false acc) with
      | some o'=>Cf (.one 2) (Aw eqV (Au (attrS C 1) (vP 2)) (cP (.int 0))) (Go (Au (attrS C 0) (vP 2))) ρ0 H o' (l.map fun n:FN=>AV.ref n.info)
      | none=>none
     | some false=>Cf (.one 2) (Aw eqV (Au (attrS C 1) (vP 2)) (cP (.int 0))) (Go (Au (attrS C 0) (vP 2))) ρ0 H (.lst false acc) (l.map fun n:FN=>AV.ref n.info)
     | none=>none)=_)
    have hc:Aw eqV (Au (attrS C 1) (vP 2)) (cP (.int 0)) (ρ0.set 2 (.ref n.info)) H=some (decide (n.nd.npred=0)):=by
     simp only [Aw,Au,Ah p2,F.npredA hn,cP]
     refine(?_:eqA 7 (.int n.nd.npred) (.int 0)=_)
     refine(?_:some (n.nd.npred == 0)=_)
     congr 1
    rw[hc]
    simp only [List.length_cons]at hz
    by_cases h0:n.nd.npred=0
    ·simp only [h0,decide_true]
     have he:Go (Au (attrS C 0) (vP 2)) (ρ0.set 2 (.ref n.info)) H (.lst false acc)=some (.lst false (acc++[.int n.nd.key])):=by
      unfold Go
      simp only [Au,Ah p2,F.keyA hn]
      rw[if_pos ⟨rfl,by rw[An];exact Ar.r135 hfew hz⟩]
     rw[he]
     dsimp only
     rw[ih _ (fun m hm=>hl m (by simp[hm])) (by simp;exact Ar.r56 hz)]
     simp[h0]
    ·have:decide (n.nd.npred=0)=false:=by simp[h0]
     simp only [this]
     rw[ih _ (fun m hm=>hl m (by simp[hm])) (by exact Ar.r57 hz)]
     simp[h0]
  have:=main σ.nds [] (fun n hn=>hn) (by simp)
  simpa using this
 refine⟨_,hcomp,fun x hx=>?_⟩
 generalize hrl:(σ.nds.filter fun n=>decide (n.nd.npred=0)).map (·.nd.key)=rl
 have hxa:a ≠ x:=Aj F.ha hx rfl
 refine⟨.ref a,_,Ah r0,Fg (by rw[Ab hxa];exact F.ha) rfl (Nat.le_of_ble_eq_true rfl),?_⟩
 generalize hH2:upd (upd H x (.f (.lst false (rl.map .int)))) a (.f (.inst C.tsC (Dx (Dp σ.d σ.rdy σ.passed σ.fin) "_ready_nodes" (.ref x))))=H2
 have e2:∀ b,b ≠ a->b ≠ x->H2 b=H b:=fun b q1 q2=>by rw[<- hH2,Ab q1,Ab q2]
 have F2:Flat C false none H2 a { σ with ready:=some rl,ra:=x }:=by
  have nx:∀ b o,H b=some o->b ≠ x:=fun b o h q=>by rw[q,hx]at h;exact nqa h
  refine⟨?_,?_,fun r hr=>?_,fun n hn=>?_,fun n hn=>?_,F.ni,F.ns,F.nk,fun z0 n hn=>nx _ _ (F.hs n hn)⟩
  ·rw[<- hH2,Af];rfl
  ·refine(?_:H2 σ.d=_)
   rw[e2 _ (fun q=>by have:=F.ha;rw[<- q,F.hd]at this;cases this) (nx _ _ F.hd)];exact F.hd
  ·obtain rfl:=Option.some.inj hr
   refine(?_:H2 x=_)
   rw[<- hH2,Ab (Ne.symm hxa),Af]
  ·rw[e2 _ (fun q=>by have:=F.ha;rw[<- q,F.hi n hn]at this;cases this) (nx _ _ (F.hi n hn))];exact F.hi n hn
  ·rw[e2 _ (fun q=>by have:=F.ha;rw[<- q,F.hs n hn]at this;cases this) (nx _ _ (F.hs n hn))];exact F.hs n hn
 have fr2:Frm C a H σ H2 { σ with ready:=some rl,ra:=x }:=by
  refine⟨fun b hb hn=>e2 b (fun q=>hb (parts_iff.mpr (.inl q))) (fun q=>hn (q ▸ hx)),fun b hb=>?_⟩
  rcases parts_iff.mp hb with q | q | q | q
  ·exact .inl (parts_iff.mpr (.inl q))
  ·exact .inl (parts_iff.mpr (.inr (.inl q)))
  ·right;rw[q.2];exact hx
  ·exact .inl (parts_iff.mpr (.inr (.inr (.inr q))))
 refine jU (a:=a) (ns:=Bl) (vs:=[]) (Ah r0) F2.inst (by decide) rfl rfl ?_
 have hdag2:Dag { σ with ready:=some rl,ra:=x } rk:=⟨hdag.ok,hdag.few⟩
 refine Li F2 hdag2 fun H3 F3 fr3=>?_
 refine Ma (c:=Hy (vP 1)) ?_ ?_
 ·have:vP 1 (ρ0.set 1 .none) H3=some .none:=by unfold vP;simp
  simp only [Hy,this];rfl
 refine hQ H3 _ F3 (fr2.trans fr3) ?_
 unfold FSt.toS SState.prep
 simp only
 rw[<- hrl]
 simp[List.filter_map,Function.comp_def]
end
end Mine
end
section
namespace Mine
section
variable {C:Cx} {H:AH} {a:Addr} {k:Nat} {f:Value}
theorem Pe {S:SState}{L:FL}(ha:H a=some (.srt S))(hL:SFlat C a S L)(hnd:(L.map (·.1)).Nodup)(hfr:∀ b ∈ L.map (·.1),b ≠ a->H b=none) :
  ∃ σ:FSt,σ.toS=S/\Flat C false none (Dm H L) a σ/\∀ (Q:AV->AH->Prop) H1 σ' v,Flat C false none H1 a σ'->Frm C a (Dm H L) σ H1 σ'->Q v (upd H a (.srt σ'.toS)) ->
   Pkd C a H Q v H1:=by
 obtain⟨σ,hS,rfl,hk⟩:=hL
 have hin:∀ x ∈ σ.L C a,Dm H (σ.L C a) x.1=some (.f x.2):=fun x hx=>by
  unfold Dm;rw[Gx hnd (b:=x.1) (v:=x.2) hx]
 refine⟨σ,hS,Flat.ofL hnd hk hin,fun Q H1 σ' v F1 fr hq=>?_⟩
 obtain⟨n1,i1⟩:=F1.toL
 have out:∀ b,¬ Cq C a σ b->Dm H (σ.L C a) b=H b:=fun b hb=>by
  unfold Dm;rw[lookup_none.mpr hb]
 refine⟨σ'.toS,σ'.L C a,⟨σ',rfl,rfl,F1.nk⟩,n1,i1,fun b o hb e=>?_,fun b hb hba=>?_,hq⟩
 ·have hp:¬ Cq C a σ b:=fun q=>by rw[hfr b q hb]at e;exact nqa e
  rw[fr.out b hp (by rw[out b hp,e];simp),out b hp];exact e
 ·rcases fr.new b hb with q | q
  ·exact hfr b q hba
  ·by_cases hp:Cq C a σ b
   ·exact hfr b hp hba
   ·rw[out b hp]at q;exact q
noncomputable def kX (S:SState) (rk:Int->Nat):Prop:=(∀ n ∈ S.nodes,∀ s ∈ n.succs,s ∈ S.keys/\rk n.key < rk s)/\S.nodes.length + 2 < scanBound
noncomputable def Nk:FW:=fun vs Q H=>∃ a S rk,vs=[.ref a]/\H a=some (.srt S)/\S.ready=none/\kX S rk/\Q .none (upd H a (.srt S.prep))
noncomputable def Fs:FW:=fun vs Q H=>∃ a S r,vs=[.ref a]/\H a=some (.srt S)/\S.ready=some r/\r.length<=lim/\(∀ x ∈ r,x ∈ S.keys)/\Q (.tup (r.map .int)) (upd H a (.srt (S.getReady r)))
noncomputable def Vp:FW:=fun vs Q H=>∃ a S r ks B,vs = .ref a :: List.map .int ks/\H a=some (.srt S)/\S.ready=some r/\Ps S ks/\S.Bd B/\r.length + ks.length * B + ks.length + 2<=lim/\Q .none (upd H a (.srt (ks.foldl SState.done1 S)))
theorem Tx (h:CallR C k f (Ei C)):CallR C k f Nk:=by
 refine h.packed ?_
 rintro vs Q H ⟨a,S,rk,e,ha,hr,hd,hq⟩
 refine⟨a,S,ha,fun L hL hnd hfr=>?_⟩
 subst e
 obtain⟨σ,hS,F,fin⟩:=Pe ha hL hnd hfr
 have hdag:Dag σ rk:=by
  rw[<- hS]at hd
  refine⟨fun n hn s hs=>hd.1 n.nd (List.mem_map.mpr ⟨n,hn,rfl⟩) s hs,?_⟩
  have:=hd.2;simpa [FSt.toS]using this
 refine Pd F (by rw[<- hS]at hr;exact hr) hdag fun H' σ' F' fr hS'=>fin Q H' σ' _ F' fr ?_
 rw[hS',hS];exact hq
theorem Jj (h:CallR C k f (Dq C)):CallR C k f Fs:=by
 refine h.packed ?_
 rintro vs Q H ⟨a,S,r,e,ha,hr,hz,hk,hq⟩
 refine⟨a,S,ha,fun L hL hnd hfr=>?_⟩
 subst e
 obtain⟨σ,hS,F,fin⟩:=Pe ha hL hnd hfr
 refine Mr F (by rw[<- hS]at hr;exact hr) hz (by rw[hS];exact hk) fun H' σ' F' fr hS'=>fin Q H' σ' _ F' fr ?_
 rw[hS',hS];exact hq
theorem eJ (h:CallR C k f (Ha C)):CallR C k f Vp:=by
 refine h.packed ?_
 rintro vs Q H ⟨a,S,r,ks,B,e,ha,hr,hok,hB,hz,hq⟩
 refine⟨a,S,ha,fun L hL hnd hfr=>?_⟩
 subst e
 obtain⟨σ,hS,F,fin⟩:=Pe ha hL hnd hfr
 refine Xg F (by rw[<- hS]at hr;exact hr) (by rw[hS];exact hok) (by rw[hS];exact hB) hz fun H' σ' F' fr hS'=>fin Q H' σ' _ F' fr ?_
 rw[hS',hS];exact hq
end
end Mine
end
section
namespace Mine
noncomputable abbrev FWp:=(AV->AH->Prop)->Rho->AH->Prop
inductive PostB (C:Cx) (s:Shared) (H:AH) (G:Gh) (Q:Bool->AH->Prop) (b:Bool) (s':Shared):Prop
 | mk (H':AH) (G':Gh) (hq:Q b H') (R:Rel C H' G' (own H' G') s'.heap) (S:Step (fun z0=>False) H G s H' G' s')
noncomputable def ImpF (C:Cx) (k:Nat) (sc:Sc) (e:Expr) (W:FWp):Prop :=
 ∀ (A:Around) (env:Env) (s:Shared) (ρ:Rho) (H:AH) (G:Gh) (Q:AV->AH->Prop),AOk k A->WF C A sc env ρ G (own H G) s.heap->stoR sc ρ->Rel C H G (own H G) s.heap->W Q ρ H ->
  wpAny (model C.prog C.w) A (eval e env) (PostV C s H G Q) (fun z0 z0=>False) s
noncomputable def TestsF (C:Cx) (k:Nat) (sc:Sc) (ifs:List Expr) (W:(Bool->AH->Prop)->Rho->AH->Prop):Prop :=
 ∀ (A:Around) (env:Env) (s:Shared) (ρ:Rho) (H:AH) (G:Gh) (Q:Bool->AH->Prop),AOk k A->WF C A sc env ρ G (own H G) s.heap->stoR sc ρ->Rel C H G (own H G) s.heap->W Q ρ H ->
  wpAny (model C.prog C.w) A (forIn ifs true fun c r=>if r=true then do let ok <- isTrue c env (eval c env);pure (ForInStep.yield ok) else pure (ForInStep.yield r)) (PostB C s H G Q) (fun z0 z0=>False) s
noncomputable def Yz (c:CF):(Bool->AH->Prop)->Rho->AH->Prop:=fun Q ρ H=>∃ b,c ρ H=some b/\Q b H
noncomputable def Kc (tg:Tgt) (Wc:(Bool->AH->Prop)->Rho->AH->Prop) (Wt:(AH->Prop)->Rho->AH->Prop) (Q:AH->Prop) (ρ:Rho):List AV->AH->Prop
 | [],H=>Q H
 | v :: r,H=>∃ ρ',tg.put H v ρ=some ρ'/\Wc (fun b H1=>(b=true->Wt (Kc tg Wc Wt Q ρ r) ρ' H1)/\(b=false->Kc tg Wc Wt Q ρ r H1)) ρ' H
inductive PostU (C:Cx) (s:Shared) (H:AH) (G:Gh) (Q:AH->Prop) (s':Shared):Prop
 | mk (H':AH) (G':Gh) (hq:Q H') (R:Rel C H' G' (own H' G') s'.heap) (S:Step (fun z0=>False) H G s H' G' s')
noncomputable def gC (C:Cx) (k:Nat) (sc:Sc) (tail:Value->Env->Sem Unit) (Wt:Addr->(AH->Prop)->Rho->AH->Prop):Prop :=
 ∀ (A:Around) (env:Env) (s:Shared) (ρ:Rho) (H:AH) (G:Gh) (D:Addr) (Q:AH->Prop),AOk k A->WF C A sc env ρ G (own H G) s.heap->stoR sc ρ->Rel C H G (own H G) s.heap->Wt D Q ρ H ->
  wpAny (model C.prog C.w) A (tail (.ref D) env) (fun z0 s'=>PostU C s H G Q s') (fun z0 z0=>False) s
section
variable {C:Cx} {k:Nat} {sc sc':Sc} {f:PF} {fs:LF}
theorem TestsF.pure {ifs:List Expr}{c:CF}(h:TestsE C k sc ifs c):TestsF C k sc ifs (Yz c):=by
 rintro A env s ρ H G Q hA F hs R ⟨b,hb,hq⟩
 refine wpAny_mono (h A env s ρ H G _ b hA F R hb) (fun ok s1 h1=>?_) fun z0 z0 x=>x
 obtain⟨rfl,k1⟩:=h1
 exact⟨H,G,hq,R.keep k1.k,.kp R k1⟩
inductive CI (C:Cx) (A:Around) (sc':Sc) (cenv:Env) (is:List Nat) (ρ:Rho) (H0:AH) (G0:Gh) (sB:Shared) (PP:Addr->Prop) (St:Nat->Heap->Prop) (i:Nat) (H':AH) (t:Shared):Prop
 | mk (ρi:Rho) (G':Gh) (F:WF C A sc' cenv ρi G' (own H' G') t.heap) (hs:stoR sc' ρi) (ag:∀ j,j ∉ is->ρi j=ρ j) (R:Rel C H' G' (own H' G') t.heap) (S:Step PP H0 G0 sB H' G' t) (st:St i t.heap)
theorem Tk {TG:Expr->Prop}{E target iter:Expr}(hTG:TG target){ifs:List Expr}{tg:Tgt}{Wc:(Bool->AH->Prop)->Rho->AH->Prop}{Wt:Addr->(AH->Prop)->Rho->AH->Prop}{tail:Value->Env->Sem Unit}{o0:Obj}{init:FObj}(tn:Nl E 0 target ifs iter.pos tail)(hden:cC E)(ht:AssignR C sc' target tg)(hc:TestsF C k sc' ifs Wc)(hTl:gC C k sc' tail Wt)
  {A:Around} {cenv:Env} {s sB:Shared} {ρ:Rho} {H:AH} {G:Gh} {D L I:Addr} {vs:List AV} {fp wr cs:List Addr} {P:Nat->Value->Heap->Heap->Prop} {St:Nat->Heap->Prop} (hA:AOk k A) (R:Rel C H G (own H G) s.heap) (hst:AV.stos vs=true) (hso:stoR sc' (und tg.idx ρ))
  (CS:CSet C A TG sc' cenv s sB ρ H G (own H G) D L I tg.idx vs fp wr cs P St (fun h b=>Kg h H G (own H G) b) o0) (hin:ORelF C sB.heap (fun b=>own H G b\/b=D) G init D []) {Q:AH->Prop} {Rr:Result->Shared->Prop} (hn:H D=none) (hgo:Kc tg Wc (Wt D) Q (und tg.idx ρ) vs (upd H D (.f init)))
  (hR:∀ H' G' t,Q H'->Rel C H' G' (own H' G') t.heap->Step (fun z0=>False) H G s H' G' t->(∃ m,t.heap.Ns L m)->¬ own H' G' L->Rr (.ok .next) t):codeAny (model C.prog C.w) A (.compLoop E 0 (.ref I) (.ref D) cenv) Rr sB:=by
 have K:=CS.K
 have M:Made C (own H G) G init s D [] sB:=⟨by
   have e:(fun b=>own H G b\/b=D\/b ∈ ([]:List Addr))=fun b=>own H G b\/b=D:=by
    funext b;apply propext
    exact⟨fun q=>q.imp id fun q=>q.resolve_right List.not_mem_nil,fun q=>q.imp id .inl⟩
   rw[e];exact hin,by simp,fun b hb=>by
  have e:b=D:=hb.resolve_right List.not_mem_nil
  rw[e];exact⟨CS.nD,_,CS.hD⟩,CS.k⟩
 obtain⟨_,R0,S0⟩:=Made.step R M
 have oe:own (upd H D (.f init)) (Bx G D [])=fun b=>own H G b\/b=D:=by
  rw[Lo hn]
  funext b;apply propext
  exact⟨fun q=>q.imp id fun q=>q.resolve_right List.not_mem_nil,fun q=>q.imp id .inl⟩
 have F0:WF C A sc' cenv (und tg.idx ρ) (Bx G D []) (own (upd H D (.f init)) (Bx G D [])) sB.heap:=by
  rw[oe]
  exact CS.F.keepO (fun x i hx v r=>r.mono (fun b o xs n e hd hb=>⟨e,hb⟩) (hso x i hx)) (fun b o e=>e) fun b o e q=>q
 generalize hH0:upd H D (.f init)=H0 at R0 S0 F0 hgo oe
 generalize hG0:Bx G D []=G0 at R0 S0 F0 oe
 let PP:Addr->Prop:=fun b=>ta sc' cenv tg.idx b\/b ∈ wr
 have wns:∀ i h,St i h->∀ b ∈ wr,∀ o,h.get? b=some o->∀ xs n,o.data ≠ .seq xs n:=fun i h st b hb o e xs n q=>by
  obtain⟨o',vs,e',hd⟩:=K.wl i h st b hb
  rw[e']at e;obtain rfl:=Option.some.inj e;rw[hd]at q;cases q
 have hwrO:∀ b ∈ wr,¬ own H0 G0 b:=fun b hb q=>by rw[oe]at q;exact K.wrO b hb q
 have hwrB:∀ b ∈ wr,sB.heap.get? b ≠ none:=fun b hb q=>by
  obtain⟨o',vs,e',hd⟩:=K.wl 0 _ K.st b hb
  rw[q]at e';exact nqa e'
 have hown:∀ H' G' t,Step PP H0 G0 sB H' G' t->∀ b ∈ wr,¬ own H' G' b:=fun H' G' t S b hb q=>(S.fresh b q).elim (hwrO b hb) (hwrB b hb)
 have hcsk:∀ H' G' t,Step PP H0 G0 sB H' G' t->∀ j,St j t.heap->∀ H2 G2 t2,Step (fun z0=>False) H' G' t H2 G2 t2->∀ b ∈ fp,∀ o,t.heap.get? b=some o->t2.heap.get? b=some o:=by
  intro H' G' t S j stj H2 G2 t2 S2 b hb o e
  rcases CS.cont b hb with h' | h'
  ·obtain⟨o2,e2,q2⟩:=S2.keep b o (hown H' G' t S b h') (fun x=>x) e
   obtain⟨ow,vw,ew,dw⟩:=K.wl j _ stj b h'
   rw[e]at ew;obtain rfl:=Option.some.inj ew
   rw[e2,q2.eq fun es ep q=>by rw[dw]at q;cases q]
  ·obtain⟨h2,hk2,hz⟩:=CS.hcs b h'
   rcases hz with ⟨hO,o',xs,n,e',hd⟩ | ⟨a,oa,ha,hl,hba⟩
   ·have eB:=hk2 b o' e'
    have hbw:b ∉ wr:=fun q=>wns 0 _ K.st b q o' eB xs n hd
    have hOB:¬ own H0 G0 b:=fun q=>by rw[oe]at q;exact q.elim hO (K.fpt b hb).2
    obtain⟨o1,e1,q1⟩:=S.keep b o' hOB (fun q=>q.elim (fun q=>(K.fpt b hb).1 (Bp q)) hbw) eB
    rw[q1.eq (Cr hd),e]at e1;obtain rfl:=Option.some.inj e1
    obtain⟨o2,e2,q2⟩:=S2.keep b o (fun q=>(S.fresh b q).elim hOB fun n'=>by rw[n']at eB;exact nqa eB) (fun x=>x) e
    rw[e2,q2.eq (Cr hd)]
   ·have haD:a ≠ D:=fun q=>by rw[q,hn]at ha;exact nqa ha
    have ha0:H0 a=some (.f oa):=by rw[<- hH0,Ab haD];exact ha
    have hg0:G0 a=G a:=by rw[<- hG0];simp[Bx,haD]
    obtain⟨q1,q2,_⟩:=S.lock a oa ha0 hl
    have:=(S2.lock a oa q1 hl).2.2 b (by rw[q2,hg0];exact hba)
    rw[this];exact e
 have hPP:∀ H' G' t H2 G2 t2,Step PP H0 G0 sB H' G' t->(∀ b,fr cenv b->¬ own H' G' b)->Step (fun z0=>False) H' G' t H2 G2 t2->Step PP H0 G0 sB H2 G2 t2:=by
  intro H' G' t H2 G2 t2 S hf S2
  exact S.trans (S2.wide (fun b hb=>hb.elim) fun b o p q e=>p.elim (fun p=>hf b (Bp p)) (hown H' G' t S b))
 have nofr:∀ {ρi:Rho} {H':AH} {G':Gh} {h:Heap},WF C A sc' cenv ρi G' (own H' G') h->∀ b,fr cenv b->¬ own H' G' b:=fun F b hb q=>by
  rcases hb with rfl | ⟨x,hx⟩
  ·exact F.nol q
  ·exact F.noc x b hx q
 have shiftW:∀ i H' G' (t:Shared) h',St i t.heap->Step PP H0 G0 sB H' G' t->Rel C H' G' (own H' G') t.heap->(∀ b ob,b ∉ wr->t.heap.get? b=some ob->h'.get? b=some ob)->Shift C (· ∈ wr) (own H' G') (own H' G') t.heap h':=by
  intro i H' G' t h' st S Rt hk
  refine⟨fun z0 x=>x,fun b ob hb e=>⟨hk b ob hb e,fun x=>x⟩,fun b hb=>K.wrb b hb,fun b ob xs n hb e hd=>absurd hd (wns i _ st b hb ob e xs n),fun b hb=>?_⟩
  obtain⟨ob,e⟩:=Rt.live b hb
  exact⟨ob,hk b ob (fun q=>hown H' G' t S b q hb) e⟩
 have stepW:∀ H' G' (t:Shared) h' tk,Step PP H0 G0 sB H' G' t->Rel C H' G' (own H' G') t.heap->(∀ b ob,b ∉ wr->t.heap.get? b=some ob->h'.get? b=some ob)->(∀ b ∈ wr,∃ o,h'.get? b=some o)->Step PP H0 G0 sB H' G' { t with heap:=h',toks:=tk }:=by
  intro H' G' t h' tk S Rt hk hl
  refine⟨Az S.same ⟨_,_,rfl⟩,fun b o h1 h2 e=>(let ⟨o',e',q⟩:=S.keep b o h1 h2 e;⟨o',hk b o' (fun q=>h2 (.inr q)) e',q⟩),fun b o p e=>?_,S.fresh,fun a o e l=>?_⟩
  ·by_cases q:b ∈ wr
   ·exact hl b q
   ·obtain⟨o',e'⟩:=S.pl b o p e;exact⟨o',hk b o' q e'⟩
  ·obtain⟨q1,q2,q3⟩:=S.lock a o e l
   refine⟨q1,q2,fun b hb=>?_⟩
   rw[<- q3 b hb]
   have hO:own H' G' b:=⟨a,by rw[q1];simp,by rw[q2];exact hb⟩
   obtain⟨ob,eb⟩:=Rt.live b hO
   refine(?_:h'.get? b=_)
   rw[eb];exact hk b ob (fun q=>hown H' G' t S b q hO) eb
 -- the whole turn,seen from where the comprehension began
 have fin:∀ H' G' t,Step PP H0 G0 sB H' G' t->Step (fun z0=>False) H G s H' G' t:=by
  intro H' G' t S
  refine⟨Az S0.same S.same,fun b o h1 _ e=>?_,fun b o p e=>p.elim,fun b hb=>?_,fun a o e l=>?_⟩
  ·have eB:=CS.k.k b o e
   refine S.keep b o (fun q=>?_) (fun q=>?_) eB
   ·rw[oe]at q
    exact q.elim h1 fun q=>by rw[q,CS.nD]at e;exact nqa e
   ·rcases q with q | q
    ·rw[CS.nta b q]at e;exact nqa e
    ·rw[CS.nwr b q]at e;exact nqa e
  ·rcases S.fresh b hb with q | q
   ·exact S0.fresh b q
   ·right
    cases e:s.heap.get? b with
    | none=>rfl
    | some o=>rw[CS.k.k b o e]at q;exact nqb q
  ·obtain⟨p1,p2,p3⟩:=S0.lock a o e l
   obtain⟨q1,q2,q3⟩:=S.lock a o p1 l
   exact⟨q1,q2.trans p2,fun b hb=>(q3 b (by rw[p2];exact hb)).trans (p3 b hb)⟩
 refine Nj tn hden (fun n t=>∃ i H',n=vs.length - i/\i<=vs.length/\CI C A sc' cenv tg.idx (und tg.idx ρ) H0 G0 sB PP St i H' t/\Kc tg Wc (Wt D) Q (und tg.idx ρ) (vs.drop i) H') (fun n t hI=>?_) vs.length ⟨0,H0,by simp,by simp,⟨und tg.idx ρ,G0,F0,hso,fun z0 z0=>rfl,R0,.refl sB,K.st⟩,by simpa using hgo⟩
 refine Ag fun PZ ret=>?_
 obtain⟨i,H1,rfl,hi,⟨ρ1,G1,F1,hs1,ag1,R1,S1,st1⟩,hgo1⟩:=hI
 rcases Nat.lt_or_ge i vs.length with hlt | hge
 ·refine ret (K.W.step i t target _ _ hTG hlt st1 fun v s1 hgo2=>?_)
  refine hgo2 _ _ fun h5 tk5 hP st5 hk5=>?_
  clear hgo2
  have S5:=shiftW i H1 G1 t h5 st1 S1 R1 hk5
  have F5:=S5.wf F1 K.wrf K.wrA
  have R5:=S5.rel R1 (hown H1 G1 t S1)
  have T5:=stepW H1 G1 t h5 tk5 S1 R1 hk5 fun b hb=>let ⟨o,_,e,_⟩:=K.wl _ _ st5 b hb;⟨o,e⟩
  obtain⟨u,hu,hru⟩:=K.item i v _ _ hP
  have hdrop:vs.drop i=u :: vs.drop (i + 1):=by
   obtain⟨hlt',e⟩:=List.getElem?_eq_some_iff.mp hu
   rw[List.drop_eq_getElem_cons hlt',e]
  have hsu:u.sto=true:=Bk hst (List.mem_of_getElem? hu)
  rw[hdrop]at hgo1
  obtain⟨ρ',hput,hT⟩:=hgo1
  have hput':=Tgt.put_agree (ρ1:=ρ1) ag1 hput
  have ru5:VRel h5 (own H1 G1) G1 u v:=hru.mono (fun b o' xs n e hd hb=>by
   have hbw:b ∉ wr:=fun q=>wns 0 _ K.st b q o' e xs n hd
   have hOB:¬ own H0 G0 b:=fun q=>by rw[oe]at q;exact hb q
   obtain⟨o1,e1,q1⟩:=S1.keep b o' hOB (fun q=>q.elim (fun q=>F0.noseq e hd (Bp q)) hbw) e
   rw[q1.eq (Cr hd)]at e1
   exact⟨hk5 b o' hbw e1,fun q=>(S1.fresh b q).elim hOB fun n'=>by rw[n']at e;exact nqa e⟩) (fun b hb q=>by
    obtain⟨ob,e⟩:=R1.live b hb
    rw[q]at e;exact nqa e) hsu
  refine ht k A cenv { t with heap:=h5,toks:=tk5 } ρ1 ρ' H1 G1 _ u v _ hA F5 R5 ru5 hput' fun s6 s7 k6 fs7 F7=>?_
  have F6:=F5.keep k6.k
  have R6:=R5.keep k6.k
  have R7:=R6.fs F6 (fs7.mono fun z0=>Bp)
  have S6:Step PP H0 G0 sB H1 G1 s6:=T5.trans (Step.kp R5 k6)
  have S7:Step PP H0 G0 sB H1 G1 s7:=S6.trans ⟨fs7.same,fun b o h1 h2 e=>⟨o,fs7.k b o (fun q=>h2 (.inl q)) e,.refl o⟩,fun b o p e=>by
   by_cases q:ta sc' cenv tg.idx b
   ·exact fs7.l b o e
   ·exact⟨o,fs7.k b o q e⟩,fun b hb=>.inl hb,fun a o e l=>⟨e,rfl,fun b hb=>by
   have hO:own H1 G1 b:=⟨a,by rw[e];simp,hb⟩
   obtain⟨ob,eb⟩:=R6.live b hO
   rw[eb];exact fs7.k b ob (fun q=>nofr F6 b (Bp q) hO) eb⟩⟩
  have st7:St (i + 1) s7.heap:=K.W.frame _ _ _ st5 fun b hb o e=>fs7.k b o (fun q=>(K.fpt b hb).1 (Bp q)) (k6.k b o e)
  have hs7:stoR sc' ρ':=Tgt.put_sto (s:={ t with heap:=h5,toks:=tk5 }) R5 hs1 hsu hput'
  have ag7:∀ j,j ∉ tg.idx->ρ' j=und tg.idx ρ j:=fun j hj=>Tgt.put_off hput j hj
  refine wpAny_mono (hc A cenv s7 ρ' H1 G1 _ hA F7 hs7 R7 hT) (fun okb s8 h8=>?_) fun z0 z0 x=>x
  obtain⟨H8,G8,hq8,R8,S78⟩:=h8
  have S8:=hPP H1 G1 s7 H8 G8 s8 S7 (nofr F7) S78
  have F8:=S78.wf F7 hs7
  have st8:St (i + 1) s8.heap:=K.W.frame _ _ _ st7 fun b hb o e=>hcsk H1 G1 s7 S7 _ st7 H8 G8 s8 S78 b hb o e
  cases okb with
  | false =>
   refine Oj ?_
   exact⟨vs.length - (i + 1),by exact Ar.r193 hlt,i + 1,H8,rfl,hlt,⟨ρ',G8,F8,hs7,ag7,R8,S8,st8⟩,hq8.2 rfl⟩
  | true =>
   refine Oi ?_
   refine wpAny_mono (hTl A cenv s8 ρ' H8 G8 D _ hA F8 hs7 R8 (hq8.1 rfl)) (fun y s9 h9=>?_) fun z0 z0 x=>x
   obtain⟨H9,G9,hgo9,R9,S89⟩:=h9
   have S9:=hPP H8 G8 s8 H9 G9 s9 S8 (nofr F8) S89
   exact⟨vs.length - (i + 1),by exact Ar.r193 hlt,i + 1,H9,rfl,hlt,⟨ρ',G9,S89.wf F8 hs7,hs7,ag7,R9,S9,K.W.frame _ _ _ st8 fun b hb o e=>hcsk H8 G8 s8 S8 _ st8 H9 G9 s9 S89 b hb o e⟩,hgo9⟩
 ·have:i=vs.length:=Nat.le_antisymm hi hge
  rw[this,List.drop_length]at hgo1
  rw[this]at st1
  refine ret (this ▸ K.W.done _ _ _ st1 fun h5 tk5 hk5=>?_)
  have S5:=shiftW _ H1 G1 t h5 st1 S1 R1 hk5
  have F5:=S5.wf F1 K.wrf K.wrA
  have R5:=S5.rel R1 (hown H1 G1 t S1)
  have Sf:=fin H1 G1 t S1
  obtain⟨m,hm,_⟩:=F5.ns
  rw[CS.lo]at hm
  refine hR H1 G1 _ hgo1 R5 ⟨Az Sf.same ⟨_,_,rfl⟩,fun b o h1 h2 e=>?_,fun b o p e=>p.elim,Sf.fresh,fun a o e l=>?_⟩ ⟨m,hm⟩ (fun q=>F5.nol (by rw[CS.lo];exact q))
  ·obtain⟨o',e',q'⟩:=Sf.keep b o h1 h2 e
   exact⟨o',hk5 b o' (fun q=>by rw[CS.nwr b q]at e;exact nqa e) e',q'⟩
  ·obtain⟨q1,q2,q3⟩:=Sf.lock a o e l
   refine⟨q1,q2,fun b hb=>?_⟩
   rw[<- q3 b hb]
   have hO:own H1 G1 b:=⟨a,by rw[q1];simp,by rw[q2];exact hb⟩
   obtain⟨ob,eb⟩:=R1.live b hO
   refine(?_:h5.get? b=_)
   rw[eb];exact hk5 b ob (fun q=>hown H1 G1 t S1 b q hO) eb
structure CompX (C:Cx) (k:Nat) (sc':Sc) (E target iter:Expr) (ifs:List Expr) (newAcc:Sem Value) (init:FObj) (Wt:Addr->(AH->Prop)->Rho->AH->Prop):Prop where
 cl:clausesOf E=[⟨target,iter,ifs,0⟩]
 den:cC E
 tn:∃ tail,Nl E 0 target ifs iter.pos tail/\gC C k sc' tail Wt
 acc:∃ o0:Obj,o0.isFreed=false/\(∀ (A:Around) (s:Shared) (Q:Value->Shared->Prop),Q (.ref s.heap.objs.size) { s with heap:=s.heap.push o0 }->wpAny (model C.prog C.w) A newAcc Q (fun z0 z0=>False) s) /\
  ∀ (h:Heap) (O:Addr->Prop) (G:Gh) (D:Addr),(D == sysModules)=false->h.get? D=some o0->ORelF C h O G init D []
 start:∀ {A:Around} {s:Shared} {R:Result->Shared->Prop} {it acc:Value} {env:Env},codeAny (model C.prog C.w) A (.compLoop E 0 it acc env) R s->wpAny (model C.prog C.w) A (pyIter it) (fun it' s'=>codeAny (model C.prog C.w) A (.compLoop E 0 it' acc env) R s') (notedBy (model C.prog C.w) A env fun x s'=>R (.error x) s') s->codeAny (model C.prog C.w) A (.compStart E 0 it acc env) R s
noncomputable def Po (fs:LF) (tg:Tgt) (Wc:(Bool->AH->Prop)->Rho->AH->Prop) (init:FObj) (Wt:Addr->(AH->Prop)->Rho->AH->Prop):Wp AV:=fun Q ρ H=>∃ vs,fs ρ H=some vs/\AV.stos vs=true/\∀ D,H D=none->Kc tg Wc (Wt D) (fun H'=>Q (.ref D) ρ H') (und tg.idx ρ) vs (upd H D (.f init))
theorem bL {E target iter:Expr}{ifs:List Expr}{scope:Scope}{p2:Pos}{tg:Tgt}{Wc:(Bool->AH->Prop)->Rho->AH->Prop}{newAcc:Sem Value}{init:FObj}{Wt:Addr->(AH->Prop)->Rho->AH->Prop}(X:CompX C k sc' E target iter ifs newAcc init Wt)(hit:IterS C k sc iter fs)(hsc:CompSc sc scope sc' tg.idx)(ht:AssignR C sc' target tg)(hc:TestsF C k sc' ifs Wc)
  (hsi:∀ env x,foldedSetIterable iter env x=pure x) {A:Around} {env:Env} {s:Shared} {ρ:Rho} {H:AH} {G:Gh} {Q0:AV->Rho->AH->Prop} (hA:AOk k A) (F:WF C A sc env ρ G (own H G) s.heap) (hs:stoR sc ρ) (R:Rel C H G (own H G) s.heap) (hW:Po fs tg Wc init Wt Q0 ρ H) {use:Option (Value->Sem Unit)} {Q:Value->Shared->Prop}
  (hQ:∀ D L m H' G' t,Q0 (.ref D) ρ H'->Rel C H' G' (own H' G') t.heap->Step (fun z0=>False) H G s H' G' t->t.heap.Ns L m->s.heap.get? L=none->¬ own H' G' L->compPost (model C.prog C.w) A (fun z0 z0=>False) use Q (.ref D) L (.ok .next) t) :
  wpAny (model C.prog C.w) A (comprehension E scope env p2 newAcc false (eval iter env) use) Q (fun z0 z0=>False) s:=by
 obtain⟨vs,hvs,hst,hgo⟩:=hW
 obtain⟨cl,den,⟨tail,tn,hT⟩,⟨o0,hof,hacc,hin⟩,start⟩:=X
 have hso:stoR sc' (und tg.idx ρ):=fun x i hx=>by
  unfold und
  by_cases q:i ∈ tg.idx
  ·rw[if_pos q];rfl
  ·rw[if_neg q]
   rcases hsc.vars x i hx with ⟨_,h1⟩ | ⟨_,h1,_⟩
   ·exact absurd h1 q
   ·exact hs x i h1
 refine Rg F R (hit A env s ρ H G _ vs hA F R hvs) (fun h b z=>⟨.none,.inl z⟩) hsc hsi cl (hacc A) hof start fun D L I cenv sB fp wr cs P St CS=>?_
 have hn:H D=none:=R.none_of CS.nD
 refine Tk (TG:=fun z0=>True) True.intro tn den ht hc hT hA R hst hso CS (hin _ _ _ D CS.hDs CS.hD) hn (hgo D hn) fun H' G' t hq R' S' hm hL=>?_
 obtain⟨m,hm⟩:=hm
 exact hQ D L m H' G' t hq R' S' hm CS.nL hL
theorem kD {s t:Shared}{H H':AH}{G G':Gh}{PP:Addr->Prop}{L:Addr}{m:Str->Option Value}(hm:t.heap.Ns L m)(hL:s.heap.get? L=none)(hLo:¬ own H' G' L)(hP:¬ PP L)(R:Rel C H G (own H G) s.heap)(R':Rel C H' G' (own H' G') t.heap)(S':Step PP H G s H' G' t){h':Heap}(hsb:Heap.SameBut L t.heap h') :
  Shift C (· = L) (own H' G') (own H' G') t.heap h'/\Rel C H' G' (own H' G') h'/\Step PP H G s H' G' { t with heap:=h' }:=by
 have Sf:Step PP H G s H' G' { t with heap:=h' }:=by
  refine⟨Az S'.same ⟨_,_,rfl⟩,fun b o h1 h2 e=>?_,fun b o p e=>?_,S'.fresh,fun a o e l=>?_⟩
  ·obtain⟨o',e',q'⟩:=S'.keep b o h1 h2 e
   exact⟨o',hsb.extBut b o' (fun q=>by rw[q,hL]at e;exact nqa e) e',q'⟩
  ·obtain⟨o',e'⟩:=S'.pl b o p e
   exact⟨o',hsb.extBut b o' (fun q=>hP (q ▸ p)) e'⟩
  ·obtain⟨q1,q2,q3⟩:=S'.lock a o e l
   refine⟨q1,q2,fun b hb=>?_⟩
   rw[<- q3 b hb]
   have hO:own H' G' b:=⟨a,by rw[q1];simp,by rw[q2];exact hb⟩
   obtain⟨ob,eb⟩:=R'.live b hO
   refine(?_:h'.get? b=_)
   rw[eb];exact hsb.extBut b ob (fun q=>hLo (q ▸ hO)) eb
 have Sh:Shift C (· = L) (own H' G') (own H' G') t.heap h':=by
  refine⟨fun z0 x=>x,fun b ob hb e=>⟨hsb.extBut b ob hb e,fun x=>x⟩,fun b hb=>?_,fun b ob xs n hb e hd=>?_,fun b hb=>?_⟩
  ·rw[hb]
   cases e:C.h0.get? L with
   | none=>rfl
   | some ob=>have:=(R.base L ob e).1;rw[hL]at this;exact nqa this
  ·rw[hb]at e;exact absurd hd (Cy hm ob e xs n)
  ·obtain⟨ob,e⟩:=R'.live b hb
   exact⟨ob,hsb.extBut b ob (fun q=>hLo (q ▸ hb)) e⟩
 exact⟨Sh,Sh.rel R' fun b hb q=>hLo (hb ▸ q),Sf⟩
theorem Zr {x:Str}{i:Nat}{p spos:Pos}{E target iter:Expr}{ifs:List Expr}{scope:Scope}{tg:Tgt}{Wc:(Bool->AH->Prop)->Rho->AH->Prop}{newAcc:Sem Value}{init:FObj}{Wt:Addr->(AH->Prop)->Rho->AH->Prop}(X:CompX C k sc' E target iter ifs newAcc init Wt)(hx:(x,i) ∈ sc.vars)(hit:IterS C k sc iter fs)(hsc:CompSc sc scope sc' tg.idx)(ht:AssignR C sc' target tg)(hc:TestsF C k sc' ifs Wc)
  (hsi:∀ env x,foldedSetIterable iter env x=pure x) (hev:∀ env,∃ p2,eval E env=comprehension E scope env p2 newAcc false (eval iter env))
  (hsw:∀ env,swapsWith E (some (.Name x p)) spos.line env=pure (env.blockKind == .function && env.kindOf x == some .local && p.line == E.pos.line && !(scope.names.any fun (n,k)=>n == x && (k == .local || k == .cell))))
  (hus:∀ env use,∃ p2,evalThenUse E env use=(do let z0 <- comprehension E scope env p2 newAcc false (eval iter env) (some use);pure ())):StmtR C k sc (.Assign [.Name x p] E spos) (Bh i (Po fs tg Wc init Wt)):=by
 intro A env s ρ H G Q hA F hs R hT
 cases hb:(env.blockKind == .function && env.kindOf x == some .local && p.line == E.pos.line && !(scope.names.any fun (n,k)=>n == x && (k == .local || k == .cell))) with
 | false =>
  have hsw:swapsWith E (some (.Name x p)) spos.line env=pure false:=by rw[<- hb];exact hsw env
  obtain⟨p2,he⟩:=hev env
  refine wpAny_Assign_Name ?_ hsw
  rw[he]
  refine bL (use:=none) X hit hsc ht hc hsi hA F hs R hT fun D L m H' G' t hq R' S' hm hL hLo=>⟨m,hm,fun h' hsb=>?_⟩
  obtain⟨_,R2,Sf⟩:=kD hm hL hLo (fun x=>x) R R' S' hsb
  refine Bz (v:=.ref D) (Sf.wf F hs) hx (by simp[vRr]) fun s2 F2 fs hv2=>?_
  have fs':=fs.mono fun z0=>Bp
  exact⟨.next,_,H',G',hq,trivial,F2,hs.set rfl,R2.fs (Sf.wf F hs) fs',(Sf.frm F).trans (.fs (Sf.wf F hs) R2 fs')⟩
 | true =>
  have hsw:swapsWith E (some (.Name x p)) spos.line env=pure true:=by rw[<- hb];exact hsw env
  rw[exec_Assign_Name_used _ _ _ _ hsw]
  refine wpAny_bind (wpAny_standAt (wpAny_bind ?_))
  obtain⟨p2,he⟩:=hus env (assign (.Name x p) env)
  rw[he]
  refine wpAny_bind (wpAny_mono (bL X hit hsc ht hc hsi hA F hs R hT (use:=some (assign (.Name x p) env)) (Q:=fun z0 s'=>PostS C A sc env s H G Q .next s') fun D L m H' G' t hq R1 S1 hm hL hLo=>?_) (fun z0 s' hq=>wpAny_pure (wpAny_pure hq)) fun z0 z0 e=>e)
  refine(?_:wpAny _ A (assign (.Name x p) env (.ref D)) _ _ _)
  have F1:=S1.wf F hs
  refine wpAny_assign_Name (Bz F1 hx (v:=.ref D) (by simp[vRr]) fun s2 F2 fs hv2=>?_)
  have hLf:¬ fr env L:=by
   clear F1 F2 R1 S1 fs hA hLo hq hb hm hs hsw hv2 hx;rintro(rfl | ⟨z,hz⟩)
   ·obtain⟨m',⟨o',_,_,e,_⟩,_⟩:=F.ns;rw[hL]at e;exact nqa e
   ·obtain⟨ov,o',e,_⟩:=F.cli z L hz;rw[hL]at e;exact nqa e
  have fs':=fs.mono fun z0=>Bp
  have hm2:s2.heap.Ns L m:=hm.at' fun o' e=>fs'.k _ _ hLf e
  refine⟨m,hm2,fun h' hs'=>?_⟩
  obtain⟨Sh,R3,S3⟩:=kD hm2 hL hLo hLf R (R1.fs F1 fs') ((S1.frm F).trans (.fs F1 R1 fs')) hs'
  exact⟨.next,_,_,_,hq,trivial,Sh.wf F2 (fun b hb q=>hLf (hb ▸ q)) (fun b hb q=>by
   obtain⟨_,o',_,_,e,_⟩:=F.frs.live q
   rw[hb,hL]at e;exact nqa e),hs.set rfl,R3,S3⟩
end
end Mine
end
section
namespace Mine
end Mine
end
section
namespace Mine
section
variable {C:Cx} {k:Nat} {sc sc':Sc} {fs:LF} {fk:PF}
theorem Ti {A:Around}{s:Shared}{H H':AH}{G:Gh}{a:Addr}{i:Int}{t:Tok}{v:AV}{z:Value}{Q:Unit->Shared->Prop}(R:Rel C H G (own H G) s.heap)(hz:VRel s.heap (own H G) G v z)(e:Hl H (.ref a) (.int i) v=some H')
  (hQ:∀ s',Rel C H' G (own H' G) s'.heap->Step (fun z0=>False) H G s H' G s'->Q () s'):wpAny (model C.prog C.w) A (dictSet a (.int i t) z) Q (fun z0 z0=>False) s:=by
 rw[Ng]at e
 refine aG e ?_;clear e;intro es hH e
 refine Bj e ?_;clear e;intro hc e
 obtain rfl:=Option.some.inj e
 obtain⟨_,hsm,hst,xs,hd,hr⟩:=R.obj a _ hH
 have hlen:=hr.length
 have hn:es.lookup i=none:=by simpa using hc.1
 have h0:=Ef hr hn
 refine wpAny_dictSet_pairs (knd:=intKind C.prog C.w) (k:=i) (intKind_is _ _ i t) hd (fun h' hd' hs'=>?_) (by
  have:=Bv
  simp only [List.length_zip,List.length_map]at hlen ⊢
  lia)
 rw[stored_new' h0]at hd'
 have e2:(es.map (·.1)).zip xs++[(i,z)]=((es++[(i,v)]).map (·.1)).zip (xs++[z]):=by
  rw[List.map_append,List.zip_append (by simpa using hlen.symm)];rfl
 rw[e2]at hd'
 obtain⟨R',S'⟩:=Lv (tk:=s.toks + 1) R hH (by rw[List.map_append,stos_iff];intro u hu;simp at hu;exact hu.elim (fun ⟨q,hq⟩=>Bk hst (List.mem_map.mpr ⟨_,hq,rfl⟩)) fun e=>e ▸ hc.2.1) hd' (fun b ob hb e=>hs'.extBut b ob hb e) (by rw[List.map_append];exact hr.append (.one hz))
 exact hQ _ R' S'
noncomputable def Vl (fk:PF) (We:FWp) (D:Addr):(AH->Prop)->Rho->AH->Prop:=fun K ρ H=>∃ i,fk ρ H=some (.int i)/\We (fun x H2=>∃ H3,Hl H2 (.ref D) (.int i) x=some H3/\K H3) ρ H
theorem CompX.dict {kx vx target iter:Expr}{ifs:List Expr}{scope:Scope}{pos:Pos}{We:FWp}(hk:PureE C k sc' kx fk)(he:ImpF C k sc' vx We):CompX C k sc' (.DictComp kx vx [⟨target,iter,ifs,0⟩] scope pos) target iter ifs newDict (.dic false []) fun D=>Vl fk We D:=by
 refine⟨rfl,⟨fun z0 z0 z0 z0 z0=>rfl,fun z0 z0 z0 z0 z0 z0=>rfl⟩,⟨fun acc env=>do
    let kv <- eval kx env
    let vv <- holding [kv] (eval vx env)
    match acc with
    | .ref d=>do
     standAt { kx.pos with endLine:=vx.pos.endLine,endCol:=vx.pos.endCol }
     holding [kv,vv] (dictSet d kv vv)
    | _=>unsupported "internal:dictcomp",fun it acc env=>rfl,fun A env s ρ H G D Q hA F hs R hW=>?_⟩,⟨{ cls:=.type "dict",data:=.dict #[] },rfl,fun A s Q hq=>wpAny_newObj_type hq,fun h O G D hb hD=>⟨rfl,hb,rfl,[],?_,.nil⟩⟩,codeAny_compStart_dict⟩
 ·obtain⟨i,hi,hW⟩:=hW
  refine wpAny_bind (wpAny_mono (hk A env s ρ H G _ _ hA F R hi) (fun x s1 h1=>?_) fun z0 z0 x=>x)
  obtain⟨rx,k1⟩:=h1
  simp only [vRi]at rx
  obtain⟨t,rfl⟩:=rx
  refine wpAny_bind (wpAny_holding (wpAny_mono (he A env s1 ρ H G _ hA (F.keep k1.k) hs (R.keep k1.k) hW) (fun y s2 h2=>?_) fun z0 z0 x=>x))
  obtain⟨v,H2,G2,⟨H3,h3,hq⟩,ry,hsy,R2,S2⟩:=h2
  refine wpAny_bind (wpAny_standAt (wpAny_holding (Ti R2 ry h3 fun s3 R3 S3=>?_)))
  exact⟨H3,G2,hq,R3,((Step.kp R k1).trans S2).trans S3⟩
 ·obtain⟨o,es,ep,ho,r⟩:=Heap.DictOf.new (knd:=intKind C.prog C.w) h
  have ho2:=Heap.get?_push_size h (o:={ cls:=.type "dict",data:=.dict #[] }) rfl
  rw[ho]at ho2
  rw[<- Option.some.inj ho2]at hD
  exact⟨o,es,ep,hD,r⟩
theorem StmtR.letCompD {x:Str}{i:Nat}{p spos:Pos}{kx vx target iter:Expr}{ifs:List Expr}{scope:Scope}{pos:Pos}{tg:Tgt}{Wc:(Bool->AH->Prop)->Rho->AH->Prop}{We:FWp}(hx:(x,i) ∈ sc.vars)(hit:IterS C k sc iter fs)(hsc:CompSc sc scope sc' tg.idx)(ht:AssignR C sc' target tg)(hc:TestsF C k sc' ifs Wc)(hk:PureE C k sc' kx fk)(he:ImpF C k sc' vx We)
  (hsi:∀ env x,foldedSetIterable iter env x=pure x:=by intro _ _;rfl):StmtR C k sc (.Assign [.Name x p] (.DictComp kx vx [⟨target,iter,ifs,0⟩] scope pos) spos) (Bh i (Po fs tg Wc (.dic false []) fun D=>Vl fk We D)) :=
 Zr (CompX.dict hk he) hx hit hsc ht hc hsi (fun env=>⟨_,arm_eval_DictComp ..⟩) (fun env=>rfl) fun env use=>⟨_,rfl⟩
end
end Mine
end
section
namespace Mine
section
variable {C:Cx} {k:Nat} {sc:Sc} {f fe:PF}
noncomputable def aR (W:Wp AV) (tg:Tgt) (T:Wp AFlow):Wp AFlow:=fun Q=>W fun v ρ H=>∃ a o vs,H a=some (.f o)/\o.hold.lk=true/\Mm (upd H a (.f o.hold)) v=some vs/\AV.stos vs=true /\
 Dz tg T (fun fl ρ' H'=>Q fl ρ' (upd H' a (.f o))) vs ρ (upd H a (.f o.hold))
theorem PostS.after {A:Around}{env:Env}{s s1 s2:Shared}{H H1:AH}{G G1:Gh}{Q:AFlow->Rho->AH->Prop}{fl:Flow}(S1:Step (fr env) H G s H1 G1 s1)(h:PostS C A sc env s1 H1 G1 Q fl s2):PostS C A sc env s H G Q fl s2:=by
 obtain⟨af,ρ3,H3,G3,hq3,hf,F3,hs3,R3,S3⟩:=h
 exact⟨af,ρ3,H3,G3,hq3,hf,F3,hs3,R3,S1.trans S3⟩
theorem StmtR.forI {target iter:Expr}{body:List Stmt}{pos:Pos}{W:Wp AV}{tg:Tgt}{T:Wp AFlow}(hit:ImpE C k sc iter W)(ht:AssignR C sc target tg)(hb:StmtsR C k sc body T)(hsi:∀ env x,foldedSetIterable iter env x=pure x:=by intro _ _;rfl) :
  StmtR C k sc (.For target iter body [] pos) (aR W tg T):=by
 intro A env s ρ H G Q hA F hs R hW
 refine wpAny_For (wpAny_mono (hit A env s ρ H G _ hA F hs R hW) (fun x s1 h1=>?_) fun z0 z0 x=>x) (hsi env)
 obtain⟨v,ρ1,H1,G1,⟨a,o,vs,ha,hlk,hi,hst,hgo⟩,rx,hsv,F1,hs1,R1,S1⟩:=h1
 have oe:own (upd H1 a (.f o.hold)) G1=own H1 G1:=Gv (by rw[ha];simp)
 have R2:Rel C (upd H1 a (.f o.hold)) G1 (own (upd H1 a (.f o.hold)) G1) s1.heap:=R1.relabel ha (ORelF.hold.mpr (R1.obj a _ ha))
 have F2:WF C A sc env ρ1 G1 (own (upd H1 a (.f o.hold)) G1) s1.heap:=by rw[oe];exact F1
 rw[<- oe]at rx
 refine wpAny_mono (Qq (TG:=fun z0=>True) hA.1 ⟨⟨_,_,rfl⟩,fun b o e=>e⟩ R2 rx hi) (fun it s2 h2=>?_) fun z0 z0 x=>x
 exact Ra (TG:=fun z0=>True) True.intro ht hb hA F2 hs1 R2 hst hgo h2 fun fl t h=>(h.unhold ha hlk).after S1
end
end Mine
end
section
namespace Mine
section
variable {C:Cx} {k:Nat} {sc:Sc} {f:PF}
noncomputable def Zo (m:Rho->AH->Option FObj):FWp:=fun Q ρ H=>∃ o,m ρ H=some o/\∀ a,H a=none->Q (.ref a) (upd H a (.f o))
theorem ImpF.make {e:Expr}{m:Rho->AH->Option FObj}(h:MakeE C k sc e m):ImpF C k sc e (Zo m):=by
 rintro A env s ρ H G Q hA F hs R ⟨o,ho,hQ⟩
 refine wpAny_mono (h A env s ρ H G _ o hA F R ho) (fun x s1 h1=>?_) fun z0 z0 x=>x
 obtain⟨a,g,rfl,h2,h3,h4,h5⟩:=h1
 obtain⟨hn,R1,S1⟩:=Made.step R ⟨h2,h3,h4,h5⟩
 exact⟨.ref a,_,_,hQ a hn,rfl,rfl,R1,S1⟩
end
end Mine
end
section
set_option genInjectivity false
set_option genSizeOf false
namespace Mine
namespace Ar
end Ar
end Mine
end
section
set_option genInjectivity false
set_option genSizeOf false
namespace Mine
namespace Ar
end Ar
end Mine
end
section
set_option genInjectivity false
set_option genSizeOf false
namespace Mine
namespace Ar
theorem y1 {a b c}:(E (A (A p0 p1) p2) (A (A p0 p2) p1)).p [a,b,c]:=w 3 _ _ (by kernel_rfl)
theorem y2 {a}:(E (A (M 2 (A p0 (K 1))) (K 3)) (A (A (M 2 p0) (K 3)) (K 2))).p [a]:=w 1 _ _ (by kernel_rfl)
theorem y3 {a b c}:(E (A p0 (A (A p1 p2) (K 0))) (A (A p0 (A p1 (K 0))) p2)).p [a,b,c]:=w 3 _ _ (by kernel_rfl)
theorem y4 {a b}:(E (A p0 (A p1 (K 0))) (A p0 p1)).p [a,b]:=w 2 _ _ (by kernel_rfl)
theorem y5 {a b c d}:(I (E (A (A p0 p1) p2) (A (A p3 p1) p2)) (E p0 p3)).p [a,b,c,d]:=w 4 _ _ (by kernel_rfl)
theorem y6 {a b}:(I (E (A (K 3) p0) (A (K 3) p1)) (E p0 p1)).p [a,b]:=w 2 _ _ (by kernel_rfl)
theorem y7 {a b c}:(I (E (A p0 (A p1 (K 1))) p2) (E (A (A p0 (K 1)) p1) p2)).p [a,b,c]:=w 3 _ _ (by kernel_rfl)
theorem y8 {a b}:(I (E (S (S (A (K 3) p0) (K 1)) (S (S p0 (K 1)) p1)) (A (K 3) p1)) (E (S (S p0 (K 1)) (S (S p0 (K 1)) p1)) p1)).p [a,b]:=w 2 _ _ (by kernel_rfl)
theorem y9 {a b c d}:(I (E (S (S (A (K 3) p0) (K 1)) p1) (A (K 3) p2)) (I (L (S p0 (A p1 (K 1))) p3) (I (N (E p3 p2)) (L (S p0 p1) p3)))).p [a,b,c,d]:=w 4 _ _ (by kernel_rfl)
theorem y10 {a b c d}:(I (E (S (S (A (K 3) p0) (K 1)) p1) (A (K 3) p2)) (I (T p3 p1) (I (E (S (S (A (K 3) p0) (K 1)) p3) (A (K 3) p2)) F))).p [a,b,c,d]:=w 4 _ _ (by kernel_rfl)
theorem y11 {a b c}:(I (E (S (S (A (K 3) p0) (K 1)) p1) (A (K 3) p2)) (L (A p1 (K 1)) (A (K 3) p0))).p [a,b,c]:=w 3 _ _ (by kernel_rfl)
theorem y12 {a b c}:(I (E (S (S (A (K 3) p0) (K 1)) p1) (A (K 3) p2)) (L (S p0 (A p1 (K 1))) p2)).p [a,b,c]:=w 3 _ _ (by kernel_rfl)
theorem y13 {a b c}:(I (E (S (S (A (K 3) p0) (K 1)) p1) (A (K 3) p2)) (T p2 p0)).p [a,b,c]:=w 3 _ _ (by kernel_rfl)
theorem y14 {a b c d}:(I (E p0 (A p1 (M 2 p2))) (I (E p3 (A p0 (K 2))) (E p3 (A p1 (M 2 (A p2 (K 1))))))).p [a,b,c,d]:=w 4 _ _ (by kernel_rfl)
theorem y15 {a b c d e f g}:(I (E p0 p1) (I (L (A (A p2 (K 1)) (A p3 p4)) p5) (I (L p5 (K 4000)) (I (E p3 (S p1 (K 1))) (I (E p6 (S p0 (K 1))) (L (A p6 p4) (K 8000))))))).p [a,b,c,d,e,f,g]:=w 7 _ _ (by kernel_rfl)
theorem y16 {a b c d e f g}:(I (E p0 p1) (I (L (A (A p2 (K 1)) (A p3 p4)) p5) (I (L p5 (K 4000)) (I (E p3 (S p1 (K 1))) (I (E p6 (S p0 (K 1))) (L p6 (K 8000))))))).p [a,b,c,d,e,f,g]:=w 7 _ _ (by kernel_rfl)
theorem y17 {a b c}:(I (E p0 p1) (I (T p2 p0) (T p2 p1))).p [a,b,c]:=w 3 _ _ (by kernel_rfl)
theorem y18 {a b c}:(I (E p0 p1) (I (T p2 p1) (N (E p2 p0)))).p [a,b,c]:=w 3 _ _ (by kernel_rfl)
theorem y19 {a b c d}:(I (E p0 p1) (L (A p1 p2) (A (A p0 p2) p3))).p [a,b,c,d]:=w 4 _ _ (by kernel_rfl)
theorem y20 {a b c}:(I (E p0 p1) (L p1 (A p0 p2))).p [a,b,c]:=w 3 _ _ (by kernel_rfl)
theorem y21 {a b c d}:(I (L (A (A p0 (K 1)) (A p1 p2)) p3) (I (L p3 (K 4000)) (L (A p0 (K 1)) (K 8000)))).p [a,b,c,d]:=w 4 _ _ (by kernel_rfl)
theorem y22 {a b c d}:(I (L (A (A p0 (K 1)) (A p1 p2)) p3) (I (L p3 (K 4000)) (L p2 (K 8000)))).p [a,b,c,d]:=w 4 _ _ (by kernel_rfl)
theorem y23 {a b c d}:(I (L (A (A p0 (K 1)) (A p1 p2)) p3) (I (L p3 (K 4000)) (T (S (K 4000) (A p0 (K 1))) (S (K 4000) p0)))).p [a,b,c,d]:=w 4 _ _ (by kernel_rfl)
theorem y24 {a b c}:(I (L (A p0 (K 1)) p1) (I (T p2 (A p0 (K 1))) (T p2 p1))).p [a,b,c]:=w 3 _ _ (by kernel_rfl)
theorem y25 {a b c d e}:(I (L (A p0 (M 2 p1)) (K 100000)) (I (E p2 (A p0 (M 2 p3))) (I (T p3 p1) (I (L (A (M 2 p4) (K 3)) p2) (L (A p4 (K 1)) (K 1048576)))))).p [a,b,c,d,e]:=w 5 _ _ (by kernel_rfl)
theorem y26 {a b c d}:(I (L (A p0 p1) p2) (I (L p2 p3) (L (A p0 p1) (A p3 (K 1))))).p [a,b,c,d]:=w 4 _ _ (by kernel_rfl)
theorem y27 {a b c d}:(I (L (A p0 p1) p2) (I (L p2 p3) (L (A p0 p1) p3))).p [a,b,c,d]:=w 4 _ _ (by kernel_rfl)
theorem y28 {a}:(I (L (K 3) p0) (N (T p0 (K 3)))).p [a]:=w 1 _ _ (by kernel_rfl)
theorem y29 {a b}:(I (L (S p0 (K 0)) p1) (I (T p1 p0) F)).p [a,b]:=w 2 _ _ (by kernel_rfl)
theorem y30 {a b c}:(I (L (S p0 p1) p2) (L (S p0 (A p1 (K 1))) p2)).p [a,b,c]:=w 3 _ _ (by kernel_rfl)
theorem y31 {a b c d e}:(I (L p0 (A (M 3 (A (K 3) p1)) (M 4 p2))) (I (L p3 (K 2)) (I (E p4 (A p0 (M 2 p3))) (L p4 (A (M 3 (A (K 3) p1)) (M 4 (A p2 (K 1)))))))).p [a,b,c,d,e]:=w 5 _ _ (by kernel_rfl)
theorem y32 {a}:(I (L p0 (K 10)) (N (E p0 (K 11)))).p [a]:=w 1 _ _ (by kernel_rfl)
theorem y33 {a}:(I (L p0 (K 10)) (N (E p0 (K 12)))).p [a]:=w 1 _ _ (by kernel_rfl)
theorem y34 {a}:(I (L p0 (K 10)) (N (E p0 (K 13)))).p [a]:=w 1 _ _ (by kernel_rfl)
theorem y35 {a}:(I (L p0 (K 10)) (N (E p0 (K 14)))).p [a]:=w 1 _ _ (by kernel_rfl)
theorem y36 {a}:(I (L p0 (K 10)) (N (E p0 (K 15)))).p [a]:=w 1 _ _ (by kernel_rfl)
theorem y37 {a}:(I (L p0 (K 10)) (N (E p0 (K 16)))).p [a]:=w 1 _ _ (by kernel_rfl)
theorem y38 {a b c}:(I (L p0 (K 1000)) (I (E (A p1 (A p2 (K 1))) p0) (T p1 (K 1048576)))).p [a,b,c]:=w 3 _ _ (by kernel_rfl)
theorem y39 {a b c}:(I (L p0 (K 1000)) (I (E (S (S (A (K 3) p0) (K 1)) p1) (A (K 3) p2)) (T p1 (K 1048576)))).p [a,b,c]:=w 3 _ _ (by kernel_rfl)
theorem y40 {a b c d e}:(I (L p0 (K 1000)) (I (L p1 (A (M 3 (A (K 3) p0)) (M 4 p2))) (I (E (S (S (A (K 3) p0) (K 1)) p2) (A (K 3) p3)) (I (L p4 (K 2)) (L (A p1 (M 2 p4)) (K 100000)))))).p [a,b,c,d,e]:=w 5 _ _ (by kernel_rfl)
theorem y41 {a b}:(I (L p0 (K 1000)) (I (T p1 p0) (L (A (K 3) (A p1 (K 1))) (K 1048576)))).p [a,b]:=w 2 _ _ (by kernel_rfl)
theorem y42 {a}:(I (L p0 (K 1000)) (L (M 1 p0) (K 1048576))).p [a]:=w 1 _ _ (by kernel_rfl)
theorem y43 {a}:(I (L p0 (K 1000)) (L p0 (K 1000000))).p [a]:=w 1 _ _ (by kernel_rfl)
theorem y44 {a}:(I (L p0 (K 1000)) (L p0 (K 1048576))).p [a]:=w 1 _ _ (by kernel_rfl)
theorem y45 {a}:(I (L p0 (K 2)) (L (A (M 2 p0) (K 3)) (K 7))).p [a]:=w 1 _ _ (by kernel_rfl)
theorem y46 {a}:(I (L p0 (K 3999)) (T (A p0 (K 2)) (K 4096))).p [a]:=w 1 _ _ (by kernel_rfl)
theorem y47 {a}:(I (L p0 (K 5)) (L p0 (K 1000000))).p [a]:=w 1 _ _ (by kernel_rfl)
theorem y48 {a}:(I (L p0 (K 5)) (T p0 (K 1000))).p [a]:=w 1 _ _ (by kernel_rfl)
theorem y49 {a b}:(I (L p0 (K 63)) (I (T p1 p0) (L (A (K 4) (A p1 (K 1))) (K 1048576)))).p [a,b]:=w 2 _ _ (by kernel_rfl)
theorem y50 {a}:(I (L p0 (K 63)) (L (A (K 4) p0) (K 70))).p [a]:=w 1 _ _ (by kernel_rfl)
theorem y51 {a}:(I (L p0 (K 70)) (L (A (K 3) p0) (K 1000))).p [a]:=w 1 _ _ (by kernel_rfl)
theorem y52 {a}:(I (L p0 (K 70)) (L (A (K 3) p0) (K 1000000))).p [a]:=w 1 _ _ (by kernel_rfl)
theorem y53 {a}:(I (L p0 (K 70)) (L (A (K 3) p0) (K 1048576))).p [a]:=w 1 _ _ (by kernel_rfl)
theorem y54 {a}:(I (L p0 (K 70)) (L p0 (K 1000))).p [a]:=w 1 _ _ (by kernel_rfl)
theorem y55 {a}:(I (L p0 (K 70)) (T (A (M 3 (A (K 3) p0)) (M 4 p0)) (K 4000))).p [a]:=w 1 _ _ (by kernel_rfl)
theorem y56 {a b c d}:(I (L p0 p1) (I (L p2 p3) (L (A p0 (A p2 (K 0))) (A p1 p3)))).p [a,b,c,d]:=w 4 _ _ (by kernel_rfl)
theorem y57 {a b c d}:(I (L p0 p1) (I (T p2 p0) (I (T p3 p0) (I (E (S (S p1 (K 1)) p2) (S (S p1 (K 1)) p3)) (E p2 p3))))).p [a,b,c,d]:=w 4 _ _ (by kernel_rfl)
theorem y58 {a b c}:(I (L p0 p1) (L (A p0 (K 1)) (A (A (M 2 p2) (K 3)) p1))).p [a,b,c]:=w 3 _ _ (by kernel_rfl)
theorem y59 {a b c}:(I (L p0 p1) (L p0 (A p1 p2))).p [a,b,c]:=w 3 _ _ (by kernel_rfl)
theorem y60 {a}:(I (N (E p0 (K 0))) (I (N (E p0 (K 1))) (I (N (E p0 (K 2))) (B (T (K 5) (A (K 3) p0)) (T (K 3) (A (K 3) p0)))))).p [a]:=w 1 _ _ (by kernel_rfl)
theorem y61 {a}:(I (N (T p0 (K 3))) (E p0 (A (K 3) (S p0 (K 3))))).p [a]:=w 1 _ _ (by kernel_rfl)
theorem y62 {a b}:(I (N (T p0 p1)) (I (T p0 (A p1 (K 1))) (E p0 p1))).p [a,b]:=w 2 _ _ (by kernel_rfl)
theorem y63 {a b}:(I (N (T p0 p1)) (L p1 p0)).p [a,b]:=w 2 _ _ (by kernel_rfl)
theorem y64 {a}:(I (O (L p0 (K 10)) (L (K 16) p0)) (N (E p0 (K 11)))).p [a]:=w 1 _ _ (by kernel_rfl)
theorem y65 {a}:(I (O (L p0 (K 10)) (L (K 16) p0)) (N (E p0 (K 12)))).p [a]:=w 1 _ _ (by kernel_rfl)
theorem y66 {a}:(I (O (L p0 (K 10)) (L (K 16) p0)) (N (E p0 (K 13)))).p [a]:=w 1 _ _ (by kernel_rfl)
theorem y67 {a}:(I (O (L p0 (K 10)) (L (K 16) p0)) (N (E p0 (K 14)))).p [a]:=w 1 _ _ (by kernel_rfl)
theorem y68 {a}:(I (O (L p0 (K 10)) (L (K 16) p0)) (N (E p0 (K 15)))).p [a]:=w 1 _ _ (by kernel_rfl)
theorem y69 {a}:(I (O (L p0 (K 10)) (O (B (L (K 16) p0) (L p0 (K 18))) (L (K 21) p0))) (N (E p0 (K 11)))).p [a]:=w 1 _ _ (by kernel_rfl)
theorem y70 {a}:(I (O (L p0 (K 10)) (O (B (L (K 16) p0) (L p0 (K 18))) (L (K 21) p0))) (N (E p0 (K 12)))).p [a]:=w 1 _ _ (by kernel_rfl)
theorem y71 {a}:(I (O (L p0 (K 10)) (O (B (L (K 16) p0) (L p0 (K 18))) (L (K 21) p0))) (N (E p0 (K 13)))).p [a]:=w 1 _ _ (by kernel_rfl)
theorem y72 {a}:(I (O (L p0 (K 10)) (O (B (L (K 16) p0) (L p0 (K 18))) (L (K 21) p0))) (N (E p0 (K 14)))).p [a]:=w 1 _ _ (by kernel_rfl)
theorem y73 {a}:(I (O (L p0 (K 10)) (O (B (L (K 16) p0) (L p0 (K 18))) (L (K 21) p0))) (N (E p0 (K 15)))).p [a]:=w 1 _ _ (by kernel_rfl)
theorem y74 {a}:(I (O (L p0 (K 10)) (O (B (L (K 16) p0) (L p0 (K 18))) (L (K 21) p0))) (N (E p0 (K 19)))).p [a]:=w 1 _ _ (by kernel_rfl)
theorem y75 {a}:(I (O (L p0 (K 10)) (O (B (L (K 16) p0) (L p0 (K 18))) (L (K 21) p0))) (N (E p0 (K 20)))).p [a]:=w 1 _ _ (by kernel_rfl)
theorem y76 {a b}:(I (T (A (K 3) p0) (A (K 3) p1)) (T p0 p1)).p [a,b]:=w 2 _ _ (by kernel_rfl)
theorem y77 {a b}:(I (T p0 (A (K 3) (A p1 (K 1)))) (I (N (T p0 (A (K 3) p1))) (E p0 (A (K 3) p1)))).p [a,b]:=w 2 _ _ (by kernel_rfl)
theorem y78 {a b c d}:(I (T p0 (A (K 3) p1)) (I (T p2 (A (K 3) p3)) (I (E p2 (A (K 3) p1)) (T p0 (A (K 3) p3))))).p [a,b,c,d]:=w 4 _ _ (by kernel_rfl)
theorem y79 {a b}:(I (T p0 (A p1 (K 1))) (I (N (E p0 p1)) (T (A (K 3) p0) (A (K 3) p1)))).p [a,b]:=w 2 _ _ (by kernel_rfl)
theorem y80 {a b}:(I (T p0 (A p1 (K 1))) (I (N (E p0 p1)) (T p0 p1))).p [a,b]:=w 2 _ _ (by kernel_rfl)
theorem y81 {a b}:(I (T p0 (A p1 (K 1))) (I (N (T p0 p1)) (E p0 p1))).p [a,b]:=w 2 _ _ (by kernel_rfl)
theorem y82 {a b c}:(I (T p0 (A p1 (K 1))) (I (T p2 (A (K 3) p0)) (T p2 (A (K 3) p1)))).p [a,b,c]:=w 3 _ _ (by kernel_rfl)
theorem y83 {a b}:(I (T p0 (A p1 (K 1))) (L p0 p1)).p [a,b]:=w 2 _ _ (by kernel_rfl)
theorem y84 {a b}:(I (T p0 (K 3)) (I (E (A (K 3) p1) p0) F)).p [a,b]:=w 2 _ _ (by kernel_rfl)
theorem y85 {a b}:(I (T p0 (K 3)) (I (E p1 p0) (T p1 (K 3)))).p [a,b]:=w 2 _ _ (by kernel_rfl)
theorem y86 {a b}:(I (T p0 (K 3)) (T p0 (A (K 3) p1))).p [a,b]:=w 2 _ _ (by kernel_rfl)
theorem y87 {a b c d}:(I (T p0 (K 4000)) (I (E p1 (A p2 (A (M 2 p3) (K 3)))) (I (L p1 p0) (T (A (A p2 (M 2 p3)) (K 2)) (K 1048576))))).p [a,b,c,d]:=w 4 _ _ (by kernel_rfl)
theorem y88 {a b}:(I (T p0 (K 4000)) (I (L p1 p0) (L p1 (K 1048576)))).p [a,b]:=w 2 _ _ (by kernel_rfl)
theorem y89 {a}:(I (T p0 (K 4000)) (L (A (K 0) p0) (K 3999))).p [a]:=w 1 _ _ (by kernel_rfl)
theorem y90 {a b c}:(I (T p0 (Y (A p1 (K 1)) p2)) (L p0 p1)).p [a,b,c]:=w 3 _ _ (by kernel_rfl)
theorem y91 {a b c}:(I (T p0 (Y (A p1 (K 1)) p2)) (T p0 p2)).p [a,b,c]:=w 3 _ _ (by kernel_rfl)
theorem y92 {a b c}:(I (T p0 (Y p1 p2)) (I (E p0 p1) F)).p [a,b,c]:=w 3 _ _ (by kernel_rfl)
theorem y93 {a b}:(I (T p0 p1) (E (S (S (A (K 3) p1) (K 1)) (S (S p1 (K 1)) p0)) (A (K 3) p0))).p [a,b]:=w 2 _ _ (by kernel_rfl)
theorem y94 {a b}:(I (T p0 p1) (E (S (S (A (K 3) p1) (K 1)) p0) (A (K 3) (S (S p1 (K 1)) p0)))).p [a,b]:=w 2 _ _ (by kernel_rfl)
theorem y95 {a b c}:(I (T p0 p1) (I (E (A (K 3) p0) p2) (T p2 (A (K 3) p1)))).p [a,b,c]:=w 3 _ _ (by kernel_rfl)
theorem y96 {a b}:(I (T p0 p1) (I (E p0 p1) F)).p [a,b]:=w 2 _ _ (by kernel_rfl)
theorem y97 {a b c}:(I (T p0 p1) (I (E p2 (S (S p1 (K 1)) p0)) (E (S (S (A (K 3) p1) (K 1)) p0) (A (K 3) p2)))).p [a,b,c]:=w 3 _ _ (by kernel_rfl)
theorem y98 {a b c d}:(I (T p0 p1) (I (E p2 p3) (T (A p2 p0) (A p3 p1)))).p [a,b,c,d]:=w 4 _ _ (by kernel_rfl)
theorem y99 {a b c}:(I (T p0 p1) (I (L p2 p0) (T p2 p1))).p [a,b,c]:=w 3 _ _ (by kernel_rfl)
theorem y100 {a b c d}:(I (T p0 p1) (I (T p2 (A (K 3) p0)) (I (E p3 p2) (T (S (A (K 3) p1) (A (K 3) p0)) (S (A (K 3) p1) p3))))).p [a,b,c,d]:=w 4 _ _ (by kernel_rfl)
theorem y101 {a b c}:(I (T p0 p1) (I (T p2 (A (K 3) p0)) (T p2 (A (K 3) p1)))).p [a,b,c]:=w 3 _ _ (by kernel_rfl)
theorem y102 {a b}:(I (T p0 p1) (N (E p1 p0))).p [a,b]:=w 2 _ _ (by kernel_rfl)
theorem y103 {a b}:(I (T p0 p1) (T (A (K 3) p0) (A (K 3) p1))).p [a,b]:=w 2 _ _ (by kernel_rfl)
theorem y104 {a b c}:(I (T p0 p1) (T (A p2 p0) (A p2 p1))).p [a,b,c]:=w 3 _ _ (by kernel_rfl)
theorem y105 {a b}:(I (T p0 p1) (T (S (S p1 (K 1)) p0) p1)).p [a,b]:=w 2 _ _ (by kernel_rfl)
theorem y106 {a b}:(I (T p0 p1) (T p0 (A p1 (K 1)))).p [a,b]:=w 2 _ _ (by kernel_rfl)
theorem y107:0 + 1 * 4000 + 1 + 2<=1048576:=by lia
theorem y108 {a b c}:(L (A (A (A p0 (M 2 p1)) (K 1)) p2) (A p0 (A (A (M 2 p1) (K 3)) p2))).p [a,b,c]:=w 3 _ _ (by kernel_rfl)
theorem y109 {a b}:(L (A (A p0 (M 2 p1)) (K 1)) (A p0 (A (M 2 p1) (K 3)))).p [a,b]:=w 2 _ _ (by kernel_rfl)
theorem y110 {a b c}:(L (A p0 p1) (A (A p0 p1) p2)).p [a,b,c]:=w 3 _ _ (by kernel_rfl)
theorem y111 {a}:(L (K 3) (A (K 3) p0)).p [a]:=w 1 _ _ (by kernel_rfl)
theorem y112 {a b}:(L (S p0 p0) p1).p [a,b]:=w 2 _ _ (by kernel_rfl)
theorem y113 {a b}:(L p0 (A p0 p1)).p [a,b]:=w 2 _ _ (by kernel_rfl)
theorem y114 {a b}:(L p0 (A p1 (A p0 (K 0)))).p [a,b]:=w 2 _ _ (by kernel_rfl)
theorem y115 {a}:(N (T (A (K 4) p0) (K 4))).p [a]:=w 1 _ _ (by kernel_rfl)
theorem y116 {a}:(T (K 0) (A (K 3) (A (K 4) p0))).p [a]:=w 1 _ _ (by kernel_rfl)
theorem y117 {a}:(T (K 0) (A (K 3) p0)).p [a]:=w 1 _ _ (by kernel_rfl)
theorem y118 {a}:(T p0 (A p0 (K 1))).p [a]:=w 1 _ _ (by kernel_rfl)
theorem y119 {a:Int}(_:0 < a):a ≠ 0:=by lia
theorem y120 {a:Int}(_:0 < a):¬0 < -a:=by lia
theorem y121 {a:Int}(_:0<=a)(_:a ≠ 0):0 < a:=by lia
theorem y122 {a:Int}:(1 + a % 5).toNat <= 5:=by lia
theorem y123 {a:Int}:(a % 7).toNat < 7:=by lia
theorem y124 {a:Int}:-a - 1 = -1 - a:=by omega
theorem y125 {a:Int}:0 <= 1 + a % 5:=by lia
theorem y126 {a:Int}{b:Int}(_:0 < a):b - a < b:=by lia
theorem y127 {a:Int}{b:Int}(_:0<=a)(_:a < b):a.natAbs < b.natAbs:=by lia
theorem y128 {a:Int}{b:Int}(_:0<=a)(_:a < b):b ≠ 0:=by lia
theorem y129 {a:Int}{b:Int}(_:a < b):0<=b - a:=by lia
theorem y130 {a:Int} {b:Int} (_:a=1000000 + b % 1000000000000000000000000000000):0 < a:=by lia
theorem y131 {a:Int} {b:Int} (_:a=1000000 + b % 1000000000000000000000000000000):a < 1000001000000000000000000000000000:=by lia
theorem y132 {a:Int}{b:Int}:-(a + b) = -a + -b:=by lia
theorem y133 {a:Int}{b:Int}:-1 - (a + b) = -1 - a + -b:=by lia
theorem y134 {a:Int}{b:Int}:a + -b = -(b - a):=by lia
theorem y135 {a:Int}{b:Int}:a + b - a=b:=by lia
theorem y136 {a:Int}{b:Int}:a=a + b + -b:=by lia
theorem y137 {a:Int}{b:Int}{c:Int}(_:a + b=c):a=c + -b:=by lia
theorem y138 {a:Int}{b:Int}{c:Int}:a + b + c=a + (b + c):=by lia
theorem y139 {a:Int}{b:Int}{c:Int}:a + b + c=a + (c + b):=by lia
theorem y140 {a:Int}{b:Int}{c:Int}{d:Int}(_:a + b=c):-c=d - a + (-b - d):=by lia
theorem y141 {a:Int}{b:Int}{c:Int}{d:Int}:a + b + (c + d)=a + (b + c + d):=by lia
theorem y142 {a:Int}{b:Int}{c:Int}{d:Int}:a + b + (c + d)=a + (c + b) + d:=by lia
theorem y143 {a:Int}{b:Int}{c:Int}{d:Int}:a + b + (c + d)=a + c + (b + d):=by lia
theorem y144 {a:Int}{b:Int}{c:Int}{d:Int}:a + b - (c + d)=a - c + (b + -d):=by lia
theorem y145 {a:Int}{b:Int}{c:Nat}(_:0<=a)(_:0<=b)(_:b < (c:Int)):((c:Int) - 1 - a).toNat < c:=by omega
theorem y146 {a:Int}{b:Nat}(_:a < (b:Int)):0<=(b:Int) - 1 - a:=by lia
theorem y147 {a:Int}{b:Nat}{c:Nat}(_:a=(b:Int))(_:a < (c:Int)):b < c:=by lia
theorem y148 {a:Nat}(_:0 < a):0 < (a:Int):=by lia
theorem y149 {a:Nat}(_:0 < a):(a:Int) ≠ 0:=by lia
theorem y150 {a:Nat}(_:a < 3):¬2 < (a:Int):=by lia
theorem y151 {a:Nat}(_:a < 3):(a:Int) < 3:=by lia
theorem y152 {a:Nat}(_:a<=1048576):(a:Int)<=1048576:=by lia
theorem y153 {a:Nat}(_:a<=5):(a:Int)<=100:=by lia
theorem y154 {a:Nat}(_:a<=70):a * 7 < 4000:=by lia
theorem y155 {a:Nat} (_:¬a % 2=1):a % 2=0:=by omega
theorem y156 {a:Nat}(_:¬a < 3):¬(a:Int) < 3:=by omega
theorem y157 {a:Nat}(_:¬a=0):((3 + a):Int) - 1 > 2:=by lia
theorem y158 {a:Nat}:(0<=-1 + ((a:Int) + 1)/\-1 + ((a:Int) + 1) < (a:Int) + 1)/\(-1 + ((a:Int) + 1)).toNat=a:=by lia
theorem y159 {a:Nat}:(3 + a) * 3<=3 * (3 + a) + 4 * 0:=by omega
theorem y161 {a:Nat}:0<=(a:Int):=by lia
theorem y162 {a:Nat}:2 < ((3 + a):Int):=by omega
theorem y163 {a:Nat}:3 + ((4 + a):Int)=((3 + (4 + a)):Int):=by lia
theorem y164 {a:Nat}:3 + (a:Int)=((3 + a):Int):=by lia
theorem y165 {a:Nat}:((3 + a):Int) - 1 - 2 - 1 + 1=(a:Int):=by omega
theorem y166 {a:Nat}:((3 + a):Int) - 3=(a:Int):=by lia
theorem y167 {a:Nat}:(a:Int) % 2=1 <-> a % 2=1:=by lia
theorem y169 {a:Nat}{b:Nat}{c:Nat}:(a:Int) + (b:Int) + (c:Int)=(a:Int) + ((b + c):Int):=by lia
end Ar
end Mine
end
section
namespace Mine
namespace SState
noncomputable def np (S:SState) (j:Int):Int:=(S.node j).npred
noncomputable def sc (S:SState) (j:Int):List Int:=(S.node j).succs
theorem Rc (k:Int)(g:NodeS)(hg:g.key=k)(j:Int):∀ l:List NodeS,(l.map fun n=>if n.key=k then g else n).find? (fun n=>decide (n.key=j))=if j=k then (l.find? fun n=>decide (n.key=k)).map (fun z0=>g) else l.find? fun n=>decide (n.key=j)
 | []=>by simp
 | n :: l=>by
  have ih:=Rc k g hg j l
  rw[List.map_cons,List.find?_cons,List.find?_cons]
  by_cases hk:n.key=k
  ·rw[if_pos hk]
   by_cases hj:j=k
   ·clear ih;subst hj;simp[hg,hk]
   ·have h1:decide (g.key=j)=false:=by simp[hg];exact fun e=>hj e.symm
    have h2:decide (n.key=j)=false:=by simp[hk];exact fun e=>hj e.symm
    rw[h1];dsimp only
    rw[ih,if_neg hj,if_neg hj,List.find?_cons,h2]
  ·rw[if_neg hk]
   by_cases hj:j=k
   ·clear hg;subst hj
    have h1:decide (n.key=j)=false:=by simp[hk]
    rw[h1];dsimp only
    rw[ih,if_pos rfl,if_pos rfl]
   ·rw[if_neg hj]
    clear hg hk;cases q:decide (n.key=j) with
    | true=>simp[q]
    | false=>dsimp only;rw[ih,if_neg hj,List.find?_cons,q]
theorem Ky {k:Int}:∀ {l:List NodeS},k ∈ l.map (·.key)->∃ n,l.find? (fun n=>decide (n.key=k))=some n
 | [],h=>by simp at h
 | n :: l,h=>by
  rw[List.find?_cons]
  cases q:decide (n.key=k) with
  | true=>exact⟨n,rfl⟩
  | false =>
   have:¬ n.key=k:=by simpa using q
   simp only [List.map_cons,List.mem_cons]at h
   rcases h with h | h
   ·exact absurd h.symm this
   ·exact Ky h
theorem Gg {S:SState}{k:Int}{g:NodeS}(hk:k ∈ S.keys)(hg:g.key=k)(j:Int):(S.set k g).node j=if j=k then g else S.node j:=by
 unfold node SState.set
 dsimp only
 rw[Rc k g hg]
 by_cases h:j=k
 ·rw[if_pos h,if_pos h]
  obtain⟨n,hn⟩:=Ky hk
  rw[hn];rfl
 ·rw[if_neg h,if_neg h]
theorem Im {S:SState}{k:Int}(j:Int):(S.get k).node j=S.node j:=by
 unfold SState.get
 set_option tactic.hygienic true in split
 ·rfl
 rename_i hk
 unfold node
 dsimp only
 rw[List.find?_append]
 cases q:S.nodes.find? fun n=>decide (n.key=j) with
 | some n=>rfl
 | none =>
  simp only [Option.none_or,List.find?_cons,List.find?_nil]
  by_cases h:k=j
  ·simp[h]
  ·simp[h]
theorem keys_get {S:SState}{k x:Int}:x ∈ (S.get k).keys <-> x ∈ S.keys\/x=k:=by
 unfold SState.get
 set_option tactic.hygienic true in split
 ·rename_i h;constructor
  ·exact .inl
  ·rintro(q | rfl);exact q;exact h
 ·unfold keys;simp
theorem Nz {S:SState}{k:Int}(h:S.keys.Nodup):(S.get k).keys.Nodup:=by
 unfold SState.get
 set_option tactic.hygienic true in split
 ·exact h
 ·rename_i hk
  refine(?_:((S.nodes++[(⟨k,0,[]⟩:NodeS)]).map (fun n=>n.key)).Nodup)
  rw[List.map_append,List.nodup_append]
  refine⟨h,by simp,fun u hu v hv=>?_⟩
  simp at hv;subst hv
  exact fun e=>hk (e ▸ hu)
theorem node_key' {S:SState}(j:Int):(S.node j).key=j:=by
 unfold node
 cases q:S.nodes.find? (fun n=>decide (n.key=j)) with
 | none=>rfl
 | some n=>have:=List.find?_some q;simpa using this
theorem Zi {S:SState}{k p:Int}(j:Int):(S.arc k p).node j=if j=p then { S.node p with succs:=(S.node p).succs++[k] } else S.node j:=by
 unfold arc
 rw[Gg (keys_get.mpr (.inr rfl)) (by dsimp only;exact node_key' p),Im,Im]
theorem Zs {S:SState}{k p x:Int}:x ∈ (S.arc k p).keys <-> x ∈ S.keys\/x=p:=by
 unfold arc
 rw[Cz (by dsimp only;exact node_key' p)];exact keys_get
theorem Wu {S:SState}{k p:Int}(h:S.keys.Nodup):(S.arc k p).keys.Nodup:=by
 unfold arc
 rw[Cz (by dsimp only;exact node_key' p)];exact Nz h
theorem Yv {S:SState}{k p:Int}:(S.arc k p).ready=S.ready/\(S.arc k p).passed=S.passed/\(S.arc k p).fin=S.fin:=by
 unfold arc SState.set SState.get
 set_option tactic.hygienic true in split <;> exact⟨rfl,rfl,rfl⟩
theorem arcs {k:Int}:∀ (ps:List Int) {S:SState},(∀ j,(ps.foldl (SState.arc k) S).np j=S.np j/\(ps.foldl (SState.arc k) S).sc j=S.sc j++List.replicate (ps.count j) k)/\(∀ x,x ∈ (ps.foldl (SState.arc k) S).keys <-> x ∈ S.keys\/x ∈ ps)/\(S.keys.Nodup->(ps.foldl (SState.arc k) S).keys.Nodup)/\(ps.foldl (SState.arc k) S).ready=S.ready/\(ps.foldl (SState.arc k) S).passed=S.passed/\(ps.foldl (SState.arc k) S).fin=S.fin
 | [],S=>by simp
 | p :: ps,S=>by
  refine Ag fun PP ret=>?_
  obtain⟨h1,h2,h3,h4,h5,h6⟩:=arcs ps (S:=S.arc k p)
  obtain⟨r1,r2,r3⟩:=Yv (S:=S) (k:=k) (p:=p)
  refine ret ?_
  rw[List.foldl_cons]
  refine⟨fun j=>?_,fun x=>?_,fun h=>h3 (Wu h),h4.trans r1,h5.trans r2,h6.trans r3⟩
  ·rw[(h1 j).1,(h1 j).2]
   unfold np sc
   rw[Zi]
   by_cases e:j=p
   ·clear h1 h2 h3 h4 h5 h6 r1 r2 r3 ret;subst e
    rw[if_pos rfl]
    refine⟨rfl,?_⟩
    dsimp only
    rw[List.append_assoc,List.count_cons_self,List.replicate_succ];rfl
   ·rw[if_neg e,List.count_cons_of_ne (Ne.symm e)];exact⟨rfl,rfl⟩
  ·rw[h2 x,Zs];simp[or_assoc]
theorem add_facts {S:SState}{k:Int}{ps:List Int}:(∀ j,(S.add k ps).np j=S.np j + (if j=k then (ps.length:Int) else 0)/\(S.add k ps).sc j=S.sc j++List.replicate (ps.count j) k)/\(∀ x,x ∈ (S.add k ps).keys <-> x ∈ S.keys\/x=k\/x ∈ ps)/\(S.keys.Nodup->(S.add k ps).keys.Nodup)/\(S.add k ps).ready=S.ready/\(S.add k ps).passed=S.passed/\(S.add k ps).fin=S.fin:=by
 unfold SState.add
 obtain⟨h1,h2,h3,h4,h5,h6⟩:=arcs (k:=k) ps (S:=(S.get k).set k { (S.get k).node k with npred:=((S.get k).node k).npred + ps.length })
 have hg:({ (S.get k).node k with npred:=((S.get k).node k).npred + ps.length }:NodeS).key=k:=node_key' k
 have hkk:k ∈ (S.get k).keys:=keys_get.mpr (.inr rfl)
 refine⟨fun j=>?_,fun x=>?_,fun h=>h3 ?_,h4.trans ?_,h5.trans ?_,h6.trans ?_⟩
 ·rw[(h1 j).1,(h1 j).2]
  unfold np sc
  rw[Gg hkk hg,Im,Im]
  by_cases e:j=k
  ·clear h1 h2 h3 h4 h5 h6 hg hkk;subst e;rw[if_pos rfl,if_pos rfl];exact⟨rfl,rfl⟩
  ·rw[if_neg e,if_neg e];exact⟨by lia,rfl⟩
 ·rw[h2 x,Cz hg,keys_get,or_assoc]
 ·rw[Cz hg];exact Nz h
 ·refine(?_:(S.get k).ready=_);exact ready_get
 ·refine(?_:(S.get k).passed=_);unfold SState.get;set_option tactic.hygienic true in split <;> rfl
 ·refine(?_:(S.get k).fin=_);unfold SState.get;set_option tactic.hygienic true in split <;> rfl
structure B (pre:Int->List Int) (S:SState):Prop where
 kn:S.keys.Nodup
 np:∀ k,S.np k=(pre k).length
 sc:∀ p k,(S.sc p).count k=(pre k).count p
 pk:∀ k,∀ p ∈ pre k,p ∈ S.keys/\k ∈ S.keys
 rd:S.ready=none
 ps:S.passed=0
 fn:S.fin=0
theorem B.empty:B (fun z0=>[]) .empty:=⟨by simp[keys,SState.empty],fun k=>rfl,fun p k=>rfl,fun k p h=>by simp at h,rfl,rfl,rfl⟩
structure I (pre:Int->List Int) (S:SState) (D O r:List Int):Prop where
 kn:S.keys.Nodup
 np:∀ k ∈ S.keys,k ∉ D->k ∉ O->S.np k=((pre k).filter fun p=>decide (p ∉ D)).length
 npO:∀ k ∈ O,S.np k = -1
 sc:∀ p k,(S.sc p).count k=(pre k).count p
 pk:∀ k,∀ p ∈ pre k,p ∈ S.keys/\k ∈ S.keys
 dk:∀ k,k ∈ D\/k ∈ O->k ∈ S.keys/\∀ p ∈ pre k,p ∈ D
 rd:S.ready=some r
 rn:r.Nodup
 rm:∀ x,x ∈ r <-> x ∈ S.keys/\x ∉ D/\x ∉ O/\∀ p ∈ pre x,p ∈ D
 dn:(D++O).Nodup
 ps:S.passed=D.length + O.length
 fn:S.fin=D.length
theorem Mg {S:SState}(h:S.keys.Nodup){n:NodeS}(hn:n ∈ S.nodes):S.node n.key=n:=by
 unfold node
 unfold keys at h
 generalize S.nodes=l at h hn
 induction l with
 | nil=>simp at hn
 | cons m l ih =>
  rw[List.map_cons,List.nodup_cons]at h
  rw[List.find?_cons]
  rcases List.mem_cons.mp hn with rfl | hn
  ·simp
  ·have:m.key ≠ n.key:=fun e=>h.1 (e ▸ List.mem_map.mpr ⟨n,hn,rfl⟩)
   have h1:decide (m.key=n.key)=false:=by simp[this]
   rw[h1];exact ih h.2 hn
theorem B.prep {pre:Int->List Int}{S:SState}(h:B pre S):∃ r,I pre S.prep [] [] r:=by
 refine⟨(S.nodes.filter fun n=>decide (n.npred=0)).map (·.key),h.kn,fun k hk z0 z0=>?_,by simp,h.sc,h.pk,by simp,rfl,?_,fun x=>?_,by simp,h.ps,h.fn⟩
 ·have:=h.np k
  refine(?_:S.np k=_)
  rw[this]
  have e:(pre k).filter (fun p=>decide (p ∉ ([]:List Int)))=pre k:=by rw[List.filter_eq_self];simp
  rw[e]
 ·exact(List.filter_sublist.map _).nodup h.kn
 ·simp only [List.mem_map,List.mem_filter,decide_eq_true_eq,List.not_mem_nil,not_false_eq_true,true_and]
  constructor
  ·rintro⟨n,⟨hn,h0⟩,rfl⟩
   refine⟨List.mem_map.mpr ⟨n,hn,rfl⟩,fun p hp=>?_⟩
   have:=h.np n.key
   unfold SState.np at this
   rw[Mg h.kn hn,h0]at this
   have:pre n.key=[]:=by apply List.eq_nil_of_length_eq_zero;lia
   rw[this]at hp;simp at hp
  ·rintro⟨hx,hp⟩
   obtain⟨n,hn,rfl⟩:=List.mem_map.mp hx
   refine⟨n,⟨hn,?_⟩,rfl⟩
   have:=h.np n.key
   unfold SState.np at this
   rw[Mg h.kn hn]at this
   rw[this]
   have:pre n.key=[]:=List.eq_nil_iff_forall_not_mem.mpr hp
   simp[this]
theorem B.dag {pre:Int->List Int}{S:SState}(h:B pre S){rk:Int->Nat}(hr:∀ k,∀ p ∈ pre k,rk p < rk k)(hz:S.nodes.length + 2 < scanBound):kX S rk:=by
 refine⟨fun n hn s hs=>?_,hz⟩
 have h1:s ∈ S.sc n.key:=by unfold SState.sc;rw[Mg h.kn hn];exact hs
 have h2:0 < (S.sc n.key).count s:=List.count_pos_iff.mpr h1
 rw[h.sc]at h2
 have h3:n.key ∈ pre s:=List.count_pos_iff.mp h2
 exact⟨(h.pk s _ h3).2,hr s _ h3⟩
theorem outs:∀ (l:List Int) {S:SState},(∀ k ∈ l,k ∈ S.keys)->(∀ j,(l.foldl SState.out S).np j=(if j ∈ l then -1 else S.np j)/\(l.foldl SState.out S).sc j=S.sc j)/\(l.foldl SState.out S).keys=S.keys/\(l.foldl SState.out S).passed=S.passed/\(l.foldl SState.out S).fin=S.fin
 | [],S,_=>by simp
 | k :: l,S,h=>by
  have hk:=h k (by simp)
  have hg:({ S.node k with npred:=-1 }:NodeS).key=k:=node_key' k
  have ke:(S.out k).keys=S.keys:=Cz hg
  obtain⟨h1,h2,h3,h4⟩:=outs l (S:=S.out k) (fun j hj=>by rw[ke];exact h j (by simp[hj]))
  rw[List.foldl_cons]
  refine⟨fun j=>?_,h2.trans ke,h3,h4⟩
  rw[(h1 j).1,(h1 j).2]
  unfold np sc SState.out
  rw[Gg hk hg]
  by_cases e:j=k
  ·clear h h1 h2 h3 h4 hg hk ke;subst e;simp
  ·simp[e]
theorem Xj {S:SState}{s:Int}(hs:s ∈ S.keys){r:List Int}(hr:S.ready=some r):(∀ j,(S.dec s).np j=S.np j - (if j=s then 1 else 0)/\(S.dec s).sc j=S.sc j)/\(S.dec s).keys=S.keys/\(S.dec s).passed=S.passed/\(S.dec s).fin=S.fin/\(S.dec s).ready=some (if S.np s - 1=0 then r++[s] else r):=by
 have hg:({ S.node s with npred:=(S.node s).npred - 1 }:NodeS).key=s:=node_key' s
 have hn:∀ j,((S.dec s).node j)=if j=s then { S.node s with npred:=(S.node s).npred - 1 } else S.node j:=fun j=>by
  rw[<- Gg hs hg]
  unfold SState.dec
  dsimp only
  set_option tactic.hygienic true in split <;> rfl
 refine⟨fun j=>?_,?_,?_,?_,?_⟩
 ·unfold np sc
  rw[hn j]
  by_cases e:j=s
  ·clear hg hn hr hs;subst e;simp
  ·simp[e]
 ·exact Mj hs
 ·unfold SState.dec;dsimp only;set_option tactic.hygienic true in split <;> rfl
 ·unfold SState.dec;dsimp only;set_option tactic.hygienic true in split <;> rfl
 ·unfold SState.dec np
  dsimp only
  set_option tactic.hygienic true in split
  ·refine(?_:Option.map _ S.ready=_);rw[hr];rfl
  ·exact hr
theorem decs:∀ (l:List Int) {S:SState} {r:List Int},S.ready=some r->(∀ s ∈ l,s ∈ S.keys)->(∀ s ∈ l,(l.count s:Int)<=S.np s)->∃ e:List Int,(∀ j,(l.foldl SState.dec S).np j=S.np j - l.count j/\(l.foldl SState.dec S).sc j=S.sc j)/\(l.foldl SState.dec S).keys=S.keys/\(l.foldl SState.dec S).passed=S.passed/\(l.foldl SState.dec S).fin=S.fin/\(l.foldl SState.dec S).ready=some (r++e)/\e.Nodup/\∀ x,x ∈ e <-> x ∈ l/\S.np x=l.count x
 | [],S,r,hr,_,_=>⟨[],by simp,rfl,rfl,rfl,by simpa using hr,by simp,by simp⟩
 | s :: l,S,r,hr,hk,hc=>by
  obtain⟨h1,h2,h3,h4,h5⟩:=Xj (hk s (by simp)) hr
  have hcs:=hc s (by simp)
  rw[List.count_cons_self]at hcs
  obtain⟨e,g1,g2,g3,g4,g5,g6,g7⟩:=decs l (S:=S.dec s) h5 (fun x hx=>by rw[h2];exact hk x (by simp[hx])) (fun x hx=>by
   rw[(h1 x).1]
   by_cases q:x=s
   ·subst q;simp;push_cast at hcs;lia
   ·have:=hc x (by simp[hx]);rw[List.count_cons_of_ne (Ne.symm q)]at this;simp[q];exact this)
  have key:∀ x,x ∈ e <-> x ∈ l/\S.np x=(s :: l).count x:=fun x=>by
   rw[g7 x,(h1 x).1]
   by_cases q:x=s
   ·subst q;simp only [if_true,List.count_cons_self];push_cast
    constructor
    ·rintro⟨a,b⟩;exact⟨a,by lia⟩
    ·rintro⟨a,b⟩;exact⟨a,by lia⟩
   ·rw[List.count_cons_of_ne (Ne.symm q)];simp[q]
  refine⟨(if S.np s - 1=0 then [s] else [])++e,fun j=>?_,g2.trans h2,g3.trans h3,g4.trans h4,?_,?_,fun x=>?_⟩
  ·rw[List.foldl_cons,(g1 j).1,(g1 j).2,(h1 j).1,(h1 j).2]
   refine⟨?_,rfl⟩
   by_cases q:j=s
   ·subst q;simp;lia
   ·rw[List.count_cons_of_ne (Ne.symm q)];simp[q]
  ·rw[List.foldl_cons,g5];set_option tactic.hygienic true in split <;> simp
  ·set_option tactic.hygienic true in split
   ·rename_i h0
    rw[List.nodup_append]
    refine⟨by simp,g6,fun u hu v hv=>?_⟩
    simp at hu;subst hu
    rintro rfl
    have:=(key u).mp hv
    have h9:=this.2
    rw[List.count_cons_self]at h9
    have:0 < l.count u:=List.count_pos_iff.mpr this.1
    push_cast at h9;lia
   ·simpa using g6
  ·rw[List.mem_append,key x,List.mem_cons]
   constructor
   ·rintro(q | q)
    ·set_option tactic.hygienic true in split at q
     ·rename_i h0
      simp at q;subst q
      refine⟨.inl rfl,?_⟩
      push_cast at hcs ⊢
      rw[List.count_cons_self];push_cast;lia
     ·simp at q
    ·exact⟨.inr q.1,q.2⟩
   ·rintro⟨q1,q2⟩
    by_cases q:x ∈ l
    ·exact .inr ⟨q,q2⟩
    ·left
     rcases q1 with rfl | q1
     ·rw[List.count_cons_self,List.count_eq_zero_of_not_mem q]at q2
      rw[if_pos (by rw[q2];rfl)];simp
     ·exact absurd q1 q
theorem Fb {D:List Int}{k:Int}(hk:k ∉ D):∀ l:List Int,(l.filter fun p=>decide (p ∉ D++[k])).length + l.count k=(l.filter fun p=>decide (p ∉ D)).length
 | []=>by simp
 | x :: l=>by
  have ih:=Fb hk l
  rw[List.filter_cons,List.filter_cons]
  by_cases e:x=k
  ·subst e
   have h1:decide (x ∉ D++[x])=false:=by simp
   have h2:decide (x ∉ D)=true:=by simp[hk]
   rw[h1,h2,List.count_cons_self]
   simp only [Bool.false_eq_true,if_false,if_true,List.length_cons];exact Ar.r14 ih
  ·rw[List.count_cons_of_ne e]
   by_cases hx:x ∈ D
   ·have h1:decide (x ∉ D++[k])=false:=by simp[hx]
    have h2:decide (x ∉ D)=false:=by simp[hx]
    rw[h1,h2];exact ih
   ·have h1:decide (x ∉ D++[k])=true:=by simp[hx,e]
    have h2:decide (x ∉ D)=true:=by simp[hx]
    rw[h1,h2];simp only [if_true,List.length_cons];exact Ar.r13 ih
theorem I.done1 {pre:Int->List Int}{S:SState}{D O r:List Int}(h:I pre S D O r){k:Int}(hk:k ∈ O):k ∈ S.keys/\(S.node k).npred = -1/\(∀ s ∈ (S.node k).succs,s ∈ S.keys)/\(S.done1 k).keys=S.keys/\∃ e,I pre (S.done1 k) (D++[k]) (O.erase k) (r++e):=by
 have hkD:k ∉ D:=fun q=>by have:=h.dn;rw[List.nodup_append]at this;exact this.2.2 k q k hk rfl
 have hkk:=(h.dk k (.inr hk)).1
 have hOn:O.Nodup:=by have:=h.dn;rw[List.nodup_append]at this;exact this.2.1
 have hDn:D.Nodup:=by have:=h.dn;rw[List.nodup_append]at this;exact this.1
 have memO:∀ j,j ∈ O.erase k <-> j ∈ O/\j ≠ k:=fun j=>by rw[hOn.mem_erase_iff];exact And.comm
 have hs:∀ s ∈ S.sc k,s ∈ S.keys/\k ∈ pre s/\s ∉ D/\s ∉ O/\s ≠ k:=fun s hs=>by
  have h2:0 < (S.sc k).count s:=List.count_pos_iff.mpr hs
  rw[h.sc]at h2
  have h3:k ∈ pre s:=List.count_pos_iff.mp h2
  have n1:¬ (s ∈ D\/s ∈ O):=fun q=>hkD ((h.dk s q).2 k h3)
  exact⟨(h.pk s k h3).2,h3,fun q=>n1 (.inl q),fun q=>n1 (.inr q),fun q=>n1 (.inr (q ▸ hk))⟩
 have hg:({ S.node k with npred:=-2 }:NodeS).key=k:=node_key' k
 have f1:∀ j,(S.set k { S.node k with npred:=-2 }).np j=(if j=k then -2 else S.np j)/\(S.set k { S.node k with npred:=-2 }).sc j=S.sc j:=fun j=>by
  unfold SState.np SState.sc
  rw[Gg hkk hg]
  by_cases e:j=k
  ·clear h hDn hOn hg hk hkD hkk hs memO;subst e;simp
  ·simp[e]
 have ke:(S.set k { S.node k with npred:=-2 }).keys=S.keys:=Cz hg
 obtain⟨e,g1,g2,g3,g4,g5,g6,g7⟩:=decs (S.sc k) (S:=S.set k { S.node k with npred:=-2 }) (r:=r) h.rd (fun s q=>by rw[ke];exact(hs s q).1) (fun s q=>by
  obtain⟨q1,q2,q3,q4,q5⟩:=hs s q
  rw[(f1 s).1,if_neg q5,h.np s q1 q3 q4,h.sc,<- Fb hkD (pre s)]
  exact Ar.r268)
 have kd:(S.done1 k).keys=S.keys:=g2.trans ke
 refine⟨hkk,h.npO k hk,fun s q=>(hs s q).1,kd,e,⟨?_,fun j hj hD hO=>?_,fun j hj=>?_,fun p j=>?_,fun j p hp=>?_,fun j hj=>?_,g5,?_,fun x=>?_,?_,?_,?_⟩⟩
 ·rw[kd];exact h.kn
 ·rw[kd]at hj
  have hjk:j ≠ k:=fun q=>hD (by simp[q])
  have hjD:j ∉ D:=fun q=>hD (by simp[q])
  have hjO:j ∉ O:=fun q=>hO ((memO j).mpr ⟨q,hjk⟩)
  refine(?_:((S.sc k).foldl SState.dec _).np j=_)
  rw[(g1 j).1,(f1 j).1,if_neg hjk,h.np j hj hjD hjO,h.sc,<- Fb hkD (pre j)]
  exact Ar.r267
 ·obtain⟨q1,q2⟩:=(memO j).mp hj
  refine(?_:((S.sc k).foldl SState.dec _).np j=_)
  rw[(g1 j).1,(f1 j).1,if_neg q2,h.npO j q1]
  have:j ∉ S.sc k:=fun q=>(hs j q).2.2.2.1 q1
  rw[List.count_eq_zero_of_not_mem this];rfl
 ·refine(?_:(((S.sc k).foldl SState.dec _).sc p).count j=_)
  rw[(g1 p).2,(f1 p).2];exact h.sc p j
 ·rw[kd];exact h.pk j p hp
 ·rw[kd]
  rcases hj with q | q
  ·rcases List.mem_append.mp q with q | q
   ·exact⟨(h.dk j (.inl q)).1,fun p hp=>List.mem_append_left _ ((h.dk j (.inl q)).2 p hp)⟩
   ·simp at q;clear f1 g1 g2 g3 g4 g5 g6 g7 hDn hOn hg hkD hs kd ke memO;subst q
    exact⟨hkk,fun p hp=>List.mem_append_left _ ((h.dk j (.inr hk)).2 p hp)⟩
  ·have q:=((memO j).mp q).1
   exact⟨(h.dk j (.inr q)).1,fun p hp=>List.mem_append_left _ ((h.dk j (.inr q)).2 p hp)⟩
 ·rw[List.nodup_append]
  refine⟨h.rn,g6,fun u hu v hv e=>?_⟩
  clear f1 g1 g2 g3 g4 g5 g6 hDn hOn hg hk hkk kd ke memO;subst e
  have q1:=hs u ((g7 u).mp hv).1
  exact hkD (((h.rm u).mp hu).2.2.2 k q1.2.1)
 ·rw[kd,List.mem_append,h.rm x,g7 x]
  constructor
  ·rintro(⟨q1,q2,q3,q4⟩ | ⟨q1,q2⟩)
   ·exact⟨q1,fun q=>by rcases List.mem_append.mp q with q | q;exact q2 q;simp at q;exact q3 (q ▸ hk),fun q=>q3 ((memO x).mp q).1,fun p hp=>List.mem_append_left _ (q4 p hp)⟩
   ·obtain⟨s1,s2,s3,s4,s5⟩:=hs x q1
    refine⟨s1,fun q=>by rcases List.mem_append.mp q with q | q;exact s3 q;simp at q;exact s5 q,fun q=>s4 ((memO x).mp q).1,fun p hp=>?_⟩
    rw[(f1 x).1,if_neg s5,h.np x s1 s3 s4,h.sc,<- Fb hkD (pre x)]at q2
    have:((pre x).filter fun p=>decide (p ∉ D++[k]))=[]:=by apply List.eq_nil_of_length_eq_zero;exact Ar.r261 q2
    rw[List.filter_eq_nil_iff]at this
    have:=this p hp
    rw[decide_eq_true_eq]at this
    exact Decidable.of_not_not this
  ·rintro⟨q1,q2,q3,q4⟩
   have hxk:x ≠ k:=fun q=>q2 (by simp[q])
   have hxD:x ∉ D:=fun q=>q2 (by simp[q])
   have hxO:x ∉ O:=fun q=>q3 ((memO x).mpr ⟨q,hxk⟩)
   by_cases hkx:k ∈ pre x
   ·right
    have hc:0 < (pre x).count k:=List.count_pos_iff.mpr hkx
    refine⟨List.count_pos_iff.mp (by rw[h.sc];exact hc),?_⟩
    rw[(f1 x).1,if_neg hxk,h.np x q1 hxD hxO,h.sc,<- Fb hkD (pre x)]
    have:((pre x).filter fun p=>decide (p ∉ D++[k]))=[]:=by
     rw[List.filter_eq_nil_iff];intro p hp;have:=q4 p hp;rw[decide_eq_true_eq];exact fun q=>q this
    rw[this];simp
   ·left
    refine⟨q1,hxD,hxO,fun p hp=>?_⟩
    rcases List.mem_append.mp (q4 p hp)with q | q
    ·exact q
    ·simp at q;exact absurd (q ▸ hp) hkx
 ·have pm:List.Perm (D++[k]++O.erase k) (D++O):=by
   rw[List.append_assoc]
   exact List.Perm.append_left D (List.perm_cons_erase hk).symm
  exact pm.nodup_iff.mpr h.dn
 ·refine(?_:((S.sc k).foldl SState.dec _).passed=_)
  rw[g3]
  refine(?_:S.passed=_)
  rw[h.ps,List.length_append,List.length_erase_of_mem hk]
  have:=List.length_pos_of_mem hk
  simp;lia
 ·refine(?_:((S.sc k).foldl SState.dec _).fin + 1=_)
  rw[g4]
  refine(?_:S.fin + 1=_)
  rw[h.fn];simp
theorem I.pos {pre:Int->List Int}{S:SState}{D r:List Int}(h:I pre S D [] r){rk:Int->Nat}(hr:∀ k,∀ p ∈ pre k,rk p < rk k){x:Int}(hx:x ∈ S.keys)(hD:x ∉ D):r ≠ []:=by
 intro e
 subst e
 have main:∀ (n:Nat) (x:Int),rk x<=n->x ∈ S.keys->x ∉ D->False:=by
  intro n
  induction n with
  | zero =>
   intro x hn hx hD
   have:=(h.rm x).mpr ⟨hx,hD,by simp,fun p hp=>by have:=hr x p hp;exact(Ar.r76 hn this).elim⟩
   simp at this
  | succ n ih =>
   intro x hn hx hD
   have:¬ ∀ p ∈ pre x,p ∈ D:=fun q=>by
    have:=(h.rm x).mpr ⟨hx,hD,by simp,q⟩
    simp at this
   apply this
   intro p hp
   by_cases hpD:p ∈ D
   ·exact hpD
   ·exact(ih p (by have:=hr x p hp;exact Ar.r71 hn this) (h.pk x p hp).1 hpD).elim
 exact main _ x (Nat.le_refl _) hx hD
theorem Bd.outs {B:Nat}:∀ (l:List Int) {S:SState},S.Bd B->(l.foldl SState.out S).Bd B
 | [],_,h=>h
 | k :: l,S,h=>Bd.outs l (h.np k (-1))
theorem Bd.getReady {S:SState}{B:Nat}(h:S.Bd B)(r:List Int):(S.getReady r).Bd B:=Bd.outs r h
theorem Bd.dones {B:Nat}:∀ (l:List Int) {S:SState},S.Bd B->(l.foldl SState.done1 S).Bd B
 | [],_,h=>h
 | k :: l,S,h=>Bd.dones l (h.done1 k)
theorem Bd.arcs {k:Int}:∀ (ps:List Int) {S:SState} {B:Nat},S.Bd B->(ps.foldl (SState.arc k) S).Bd (B + 2 * ps.length)
 | [],_,_,h=>h
 | p :: ps,S,B,h=>(Bd.arcs ps (h.arc k p)).mono (by simp;exact Ar.r200)
theorem Bd.add {S:SState}{B:Nat}(h:S.Bd B)(k:Int)(ps:List Int):(S.add k ps).Bd (B + 2 * ps.length + 1):=by
 unfold SState.add
 have h1:=h.get k
 have h2:=h1.np k (((S.get k).node k).npred + ps.length)
 exact(Bd.arcs ps h2).mono (by exact Ar.r199)
theorem I.len {pre:Int->List Int}{S:SState}{D O r:List Int}(h:I pre S D O r):(D++O).length<=S.keys.length:=Cd h.dn fun x hx=>(h.dk x (List.mem_append.mp hx)).1
theorem I.rlen {pre:Int->List Int}{S:SState}{D O r:List Int}(h:I pre S D O r):r.length<=S.keys.length:=Cd h.rn fun x hx=>((h.rm x).mp hx).1
end SState
end Mine
end
section
namespace Mine
section
variable {ρ:Rho} {H:AH} {f f':PF} {fs:LF} {a b:Int} {m n i k:Nat}
theorem Cw (h:f ρ H=some (.int a)) (h':f' ρ H=some (.int b)) (hb:0 < b):opP (iop Bt) f f' ρ H=some (.int (a % b)):=by
 simp only [opP,h,h',iop,Bt,if_pos hb,Option.map_some]
theorem Td (h:f ρ H=some (.int a))(h':f' ρ H=some (.int b))(hb:0 < b)(hb2:b < 1073741824):opP (iop Hk) f f' ρ H=some (.int (a / b)):=by
 simp only [opP,h,h',iop,Hk,if_pos (And.intro hb hb2),Option.map_some]
theorem dY (h:f ρ H=some (.int 2))(h':f' ρ H=some (.int (n:Int)))(hn:n<=1000000):opP (iop Np) f f' ρ H=some (.int ((2 ^ n:Nat):Int)):=by
 simp only [opP,h,h',iop,Np]
 rw[if_pos ⟨by exact Ar.r254,by exact Ar.r248 hn,by decide⟩]
 simp
theorem Ew (h:f ρ H=some (.int a))(h':f' ρ H=some (.int b)):opP (iop Es) f f' ρ H=some (.int (a + b)):=by simp only [opP,h,h',iop,Es,Option.map_some]
theorem Cp (h:f ρ H=some (.int a))(h':f' ρ H=some (.int b)):opP (iop subI) f f' ρ H=some (.int (a - b)):=by simp only [opP,h,h',iop,subI,Option.map_some]
theorem Ax {v w x:AV}(h:f ρ H=some v)(h':f' ρ H=some w)(hi:idx H v w=some x):opP idx f f' ρ H=some x:=by simp only [opP,h,h',hi]
theorem Ev {g:AH->AV->AV->Option Bool}{v w:AV}{r:Bool}(h:f ρ H=some v)(h':f' ρ H=some w)(hg:g H v w=some r):Aw g f f' ρ H=some r:=by simp only [Aw,h,h',hg]
theorem Lr:eqV H (.int a) (.int b)=some (decide (a=b)):=by
 refine(?_:eqA 7 (.int a) (.int b)=_)
 rfl
theorem neG_int:neG H (.int a) (.int b)=some (decide (a ≠ b)):=by
 unfold neG;rw[Lr];simp
theorem Ac {v:AV}{vs:List AV}(h:f ρ H=some v)(h':fs ρ H=some vs):Aa f fs ρ H=some (v :: vs):=by simp only [Aa,h,h']
theorem El {vs:List AV}(h:fs ρ H=some vs)(hz:vs.length<=lim)(hs:AV.stos vs=true):Ce fs ρ H=some (.lst false vs):=by simp only [Ce,h];rw[if_pos ⟨hz,hs⟩]
theorem Nc {g:Rho->AH->Option FObj}{lk:Bool}{vs:List AV}(h:g ρ H=some (.lst lk vs)):Ge g ρ H=some (.fl vs):=by simp only [Ge,h]
theorem bA {fs':LF}{vs ws:List AV}(h:fs ρ H=some vs)(h':fs' ρ H=some ws):Rj fs fs' ρ H=some (vs++ws):=by simp only [Rj,h,h']
theorem Tb {v:AV}{vs:List AV}(h:f ρ H=some v)(h':Av H v=some vs):Jo f ρ H=some vs:=by simp only [Jo,h,h']
theorem Tc {v:AV}{vs:List AV}(h:f ρ H=some v)(h':Mm H v=some vs):Hf f ρ H=some vs:=by simp only [Hf,h,h']
theorem kQ {v:AV}{vs:List AV}(h:f ρ H=some v)(h':itV H v=some vs):itP f ρ H=some vs:=by simp only [itP,h,h']
theorem dZ {g:AH->List AV->Option AV}{vs:List AV}{v:AV}(h:fs ρ H=some vs)(h':g H vs=some v):bP' g fs ρ H=some v:=by simp only [bP',h,h']
noncomputable def tb (n:Nat) (g:Nat->AV):List AV:=(List.range n).map g
theorem Cl (g:Nat->AV):(tb n g).length=n:=by simp[tb]
theorem Pz {g:Nat->AV}(h:k < n):(tb n g)[k]'(by rw[Cl];exact h)=g k:=by simp[tb]
theorem Ee {x:Addr}{lk:Bool}{g:Nat->AV}(hx:H x=some (.f (.lst lk (tb n g))))(h:k < n):idx H (.ref x) (.int (k:Int))=some (g k):=by
 rw[Uu hx (by rw[Cl];exact h),Pz h]
theorem gH {g:Nat->AV}{v:AV}:(tb n g).set k v=tb n (fun j=>if j=k then v else g j):=by
 apply List.ext_getElem
 ·simp[tb]
 ·intro i h1 h2
  simp only [tb,List.getElem_set,List.getElem_map,List.getElem_range]
  by_cases e:k=i
  ·simp[e]
  ·simp[e,Ne.symm e]
theorem Ua {x:Addr}{g:Nat->AV}{v:AV}(hx:H x=some (.f (.lst false (tb n g))))(h:k < n)(hv:v.sto=true):Sd H (.ref x) (.int (k:Int)) v=some (upd H x (.f (.lst false (tb n fun j=>if j=k then v else g j)))):=by
 rw[Yj hx (by rw[Cl];exact h) hv,gH]
theorem Ff {g:Nat->AV}(h:∀ i,i < n->(g i).sto=true):AV.stos (tb n g)=true:=by
 rw[stos_iff];intro v hv;unfold tb at hv
 obtain⟨i,hi,rfl⟩:=List.mem_map.mp hv
 exact h i (by simpa using hi)
theorem Hz {g g':Nat->AV}(h:∀ i,i < n->g i=g' i):tb n g=tb n g':=by
 unfold tb;apply List.map_congr_left;intro i hi;exact h i (by simpa using hi)
theorem jY (h:f ρ H=some (.int (n:Int)))(hn:n<=1000000):Pb (Aa f Ak) ρ H=some (tb n fun i=>.int (i:Int)):=by
 unfold Pb
 simp only [Aa,Ak,h,jX,jW]
 rw[if_pos (Wl hn),Sk]
 simp[tb,Function.comp_def]
theorem gA {α:Type}{tg:Tgt}{c:CF}{vs:List α}{e:α->AV}{ρ':α->Rho}{p:α->Bool}{g:α->AV}(hfs:fs ρ H=some (vs.map e))(hput:∀ x ∈ vs,tg.put H (e x) ρ=some (ρ' x))(hc:∀ x ∈ vs,c (ρ' x) H=some (p x))
  (hf:∀ x ∈ vs,p x=true->f (ρ' x) H=some (g x)/\(g x).sto=true) (hz:vs.length<=lim):Gb fs tg c (Go f) (.lst false []) ρ H=some (.lst false ((vs.filter p).map g)):=by
 unfold Gb
 rw[hfs]
 dsimp only
 have main:∀ (l:List α) (acc:List AV),(∀ x ∈ l,x ∈ vs)->acc.length + l.length<=lim->Cf tg c (Go f) ρ H (.lst false acc) (l.map e)=some (.lst false (acc++(l.filter p).map g)):=by
  intro l
  induction l with
  | nil=>intro acc _ _;simp[kU]
  | cons x l ih =>
   intro acc hl hz
   have hx:=hl x (by simp)
   simp only [List.map_cons,jK,hput x hx,hc x hx]
   simp only [List.length_cons]at hz
   cases q:p x with
   | true =>
    obtain⟨h1,h2⟩:=hf x hx q
    have he:Go f (ρ' x) H (.lst false acc)=some (.lst false (acc++[g x])):=by
     unfold Go;simp only [h1];rw[if_pos ⟨h2,by exact Ar.r58 hz⟩]
    simp only [he]
    rw[ih _ (fun y hy=>hl y (by simp[hy])) (by simp;exact Ar.r56 hz),List.filter_cons,q]
    simp
   | false =>
    dsimp only
    rw[ih _ (fun y hy=>hl y (by simp[hy])) (by exact Ar.r57 hz),List.filter_cons,q]
    simp
 simpa using main vs [] (fun x hx=>hx) (by simpa using hz)
theorem Qk {l:List Int}:Mf H (.fl (l.map .int))=some l:=by
 unfold Mf
 refine(?_:(some (l.map AV.int)).bind Mo=_)
 refine(?_:Mo (l.map .int)=some l)
 induction l with
 | nil=>rfl
 | cons x l ih=>exact congrArg (Option.map (x :: ·)) ih
theorem Ws {x:Addr}{lk:Bool}{l:List Int}(h:H x=some (.f (.lst lk (l.map .int)))):Mf H (.ref x)=some l:=by
 have:itV H (.ref x)=some (l.map .int):=Ib h
 unfold Mf
 rw[this,<- Qk (H:=H) (l:=l)];rfl
theorem lR {T:Wp AFlow}{x:Nat}{K:AFlow->Rho->AH->Prop}(I:Nat->Rho->AH->Prop)(h0:I 0 ρ H)
  (step:∀ (i:Nat) (ρ:Rho) (H:AH) (K':AFlow->Rho->AH->Prop),i < n->I i ρ H->(∀ ρ2 H2,I (i + 1) ρ2 H2->K' .next ρ2 H2/\K' .cont ρ2 H2)->T K' (ρ.set x (.int (i:Int))) H)
  (fin:∀ ρ H,I n ρ H->K .next ρ H):Dz (.one x) T K (tb n fun i=>.int (i:Int)) ρ H:=by
 refine Fa I h0 (fun i v ρ H K' hv hI hK=>?_) (by rw[Cl];exact fin)
 have hi:i < n:=by have:=(List.getElem?_eq_some_iff.mp hv).1;rw[Cl]at this;exact this
 have:v = .int (i:Int):=by
  have:=(List.getElem?_eq_some_iff.mp hv).2
  rw[Pz hi]at this;exact this.symm
 clear fin h0 hv;subst this
 exact⟨_,rfl,step i ρ H K' hi hI hK⟩
theorem Bc {v:AV}{j:Nat}(h:j ≠ i):(ρ.set i v) j=ρ j:=by simp[Rho.set,h]
end
end Mine
end
section
namespace Mine
noncomputable abbrev PG:=List AV->AH->Option AV
noncomputable def PFn (C:Cx) (k:Nat) (g:Value) (f:PG):Prop :=
 ∀ (A:Around) (s:Shared) (H:AH) (G:Gh) (O:Addr->Prop) (vs:List AV) (xs:List Value) (v:AV),AOk k A->FrsA C A O s.heap->Rel C H G O s.heap->VRels s.heap O G vs xs->f vs H=some v ->
  wpAny (model C.prog C.w) A (call g xs) (fun x s'=>VRel s'.heap O G v x/\Kp s s') (fun z0 z0=>False) s
noncomputable def PBody (C:Cx) (k:Nat) (sc:Sc) (body:List Stmt) (f:PF):Prop :=
 ∀ (A:Around) (env:Env) (s:Shared) (ρ:Rho) (H:AH) (G:Gh) (O:Addr->Prop) (v:AV),AOk k A->WF C A sc env ρ G O s.heap->Rel C H G O s.heap->f ρ H=some v ->
  wpAny (model C.prog C.w) A (execs body env) (fun fl s'=>∃ x,fl = .ret x/\VRel s'.heap O G v x/\Kp s s') (fun z0 z0=>False) s
section
variable {C:Cx} {k:Nat} {sc:Sc} {f f':PF}
theorem PBody.ret {e:Expr}{pos:Pos}{r:List Stmt}(h:PureE C k sc e f):PBody C k sc (.Return (some e) pos :: r) f:=by
 intro A env s ρ H G O v hA F R hv
 refine wpAny_execs_cons (wpAny_Return_some (wpAny_mono (h A env s ρ H G O v hA F R hv) (fun x s1 h1=>?_) fun z0 z0 x=>x))
 exact⟨x,rfl,h1⟩
theorem PBody.ite {e:Expr}{b r:List Stmt}{pos:Pos}{c:CF}(he:TestE C k sc e c)(hb:PBody C k sc b f)(hr:PBody C k sc r f'):PBody C k sc (.If e b [] pos :: r) (ifP c f f'):=by
 intro A env s ρ H G O v hA F R hv
 unfold ifP at hv
 have key:∀ q,c ρ H=some q->(if q=true then f ρ H else f' ρ H)=some v:=fun q hq=>by
  rw[hq]at hv;cases q <;> exact hv
 cases hc:c ρ H with
 | none=>rw[hc]at hv;exact nqa hv
 | some q =>
  have hv':=key q hc
  refine wpAny_execs_cons (wpAny_If (wpAny_mono (he A env s ρ H G O q hA F R hc) (fun c s1 h1=>?_) fun z0 z0 x=>x))
  obtain⟨rfl,k1⟩:=h1
  cases c with
  | true =>
   exact wpAny_mono (hb A env s1 ρ H G O v hA (F.keep k1.k) (R.keep k1.k) hv') (fun fl s2 h2=>by
    obtain⟨x,rfl,hx,k2⟩:=h2
    exact⟨x,rfl,hx,k1.trans' k2⟩) fun z0 z0 x=>x
  | false =>
   refine(?_:wpAny _ _ (execs [] env) _ _ s1)
   exact wpAny_execs_nil (wpAny_mono (hr A env s1 ρ H G O v hA (F.keep k1.k) (R.keep k1.k) hv') (fun fl s2 h2=>by
    obtain⟨x,rfl,hx,k2⟩:=h2
    exact⟨x,rfl,hx,k1.trans' k2⟩) fun z0 z0 x=>x)
noncomputable def Em (n:Nat) (f:PF):PG:=fun vs H=>if vs.length=n then f (fun i=>vs.getD i .undef) H else none
theorem PFn.fn {a:Addr}{o:Obj}{fd:FuncData}{body:List Stmt}{params:List Str}(ho:C.h0.get? a=some o)(hd:o.data = .func fd)(hcd:C.h0.CodeRec fd.code fd.qualname)(hbody:fd.body = .stmts body)(hclo:fd.closure=[])(hg:fd.globals=mainGlobals)(hb:fd.builtins=builtinsNs)
  (hsc:FnSc fd.scope sc params) (hbind:∀ xs:List Value,xs.length=params.length->bindArgs fd ⟨xs,[]⟩=pure (params.zip xs)) (hT:PBody C k sc body f) (hco:fd.scope.isCoroutine=false:=by rfl) (hgen:fd.scope.isGenerator=false:=by rfl):PFn C (k + 1) (.ref a) (Em params.length f):=by
 intro A s H G O vs xs v hA hF R hr hv
 unfold Em at hv
 refine Bj hv ?_;clear hv;intro hl hv
 obtain⟨hA1,hA2,hA3⟩:=hA
 have hxl:=hr.length
 refine wpAny_call (codeAny_call_function (by unfold recursionLimit;exact Ar.r51 hA2) (R.base a o ho).1 hd hco hgen hbody (hcd.keeps fun b o e=>(R.base b o e).1) ?_)
 rw[hbind xs (hxl.trans hl)]
 refine wpAny_pure ?_
 rw[hclo]
 refine wpAny_newFunctionEnv_cells hsc.kind (fun x hx=>?_) fun env he s2 X=>?_
 ·have hm:x.1 ∈ params:=by
   obtain⟨x1,x2⟩:=x
   exact(List.of_mem_zip hx).1
  rcases hsc.par x.1 hm with q | q
  ·exact .inl q
  ·right
   refine⟨q,?_⟩
   obtain⟨c,hcm⟩:=Cv fd.scope.names (s.heap.objs.size + 1) (PySem.mem_of_lookup q)
   obtain⟨c',hc'⟩:=Bo hcm
   rw[hc'];rfl
 ·have he':env=callEnvC fd s.heap.objs.size a:=he
  subst he'
  have F2:=Vn hsc hg hb hF R hr hl X
  have k2:Kp s s2:=⟨let ⟨h,tk,e⟩:=X.toInCall.same;⟨h,tk,e⟩,X.toInCall.keep⟩
  have R2:=R.keep k2.k
  refine⟨C.lim.keeps fun b o e=>(R2.base b o e).1,codeAny_func ?_⟩
  have hA':AOk k (A.deeper (callEnvC fd s.heap.objs.size a)):=⟨hA1,by refine(?_:A.depth + 1 + k + 20<=900);exact Ar.r50 hA2,by rw[Around.deeper_units];exact Ar.r65 hA3⟩
  refine wpAny_mono (hT _ _ s2 _ H G O v hA' F2 R2 hv) (fun fl s3 h3=>?_) fun z0 z0 x=>x.elim
  obtain⟨x,rfl,hx,k3⟩:=h3
  exact⟨hx,k2.trans' k3⟩
theorem PFn.le {k':Nat}{g:Value}{G:PG}(h:PFn C k g G)(hk:k<=k'):PFn C k' g G:=fun A s H Gh O vs xs v hA=>h A s H Gh O vs xs v (hA.le hk)
theorem PFn.fnK {a:Addr}{fd:FuncData}{params:List Str}{K:Frag}{ts ni:Addr}(E:Env0 C K ts ni)(hf:Da K a=some fd)(hok:dW K a=true)(hsc:Vc (Fj K a) sc params=true)(hkind:(Fj K a).kind = .function)
  (hbind:BindE fd params) (hT:PBody C k sc (Bb K a) f):PFn C (k + 1) (.ref a) (Em params.length f):=by
 obtain⟨o,h⟩:=kP E hf hok
 rw[h.sc]at hsc hkind
 exact PFn.fn h.ho h.hd h.cr h.bd h.cl h.gl h.bi (FnSc.of hkind hsc) hbind hT h.co h.ge
noncomputable def Bi (g:PG) (fs:LF):PF:=fun ρ H=>(fs ρ H).bind fun vs=>g vs H
theorem PureE.callN {x:Str}{p pos:Pos}{args:List Expr}{a:Addr}{fs:LF}{g:PG}{o:Obj}{fd:FuncData}(hx:x ∈ sc.globs)(hm:C.mg x=some (.ref a))(ho:C.h0.get? a=some o)(hd:o.data = .func fd)(hargs:ArgsF C k sc args fs)(hg:PFn C k (.ref a) g)
  (hdb:(x == ("__debug__":Str))=false:=by decide):PureE C k sc (.Call (.Name x p) args [] pos) (Bi g fs):=by
 intro A env s ρ H G O v hA F R hv
 obtain⟨vs,hvs,hv⟩:=Option.bind_eq_some_iff.mp hv
 refine wpAny_Call_NameR (wpAny_Name (Co F R hx (.inl hm) ?_) hdb)
 refine Calls.callWith_function (o:=o) (fd:=fd) (wpAny_mono (hargs (.ref a) pos A env s ρ H G _ vs hA F R hvs) (fun a' s1 h1=>?_) fun z0 z0 x=>x)
 obtain⟨xs,rfl,r1,k1⟩:=h1
 have R1:=R.keep k1.k
 refine⟨⟨(R1.base a o ho).1,hd⟩,?_⟩
 refine wpAny_mono (hg A s1 H G O vs xs v hA (F.keep k1.k).frs R1 r1 hv) (fun y s2 h2=>?_) fun z0 z0 x=>x
 exact⟨h2.1,k1.trans' h2.2⟩
theorem PureE.callNK {x:Str}{p pos:Pos}{args:List Expr}{a:Addr}{fs:LF}{g:PG}{K:Frag}{ts ni:Addr}(E:Env0 C K ts ni)(hx:x ∈ sc.globs)(hm:C.mg x=some (.ref a))(hd:(Da K a).isSome=true)(hargs:ArgsF C k sc args fs)(hg:PFn C k (.ref a) g)
  (hdb:(x == ("__debug__":Str))=false:=by decide):PureE C k sc (.Call (.Name x p) args [] pos) (Bi g fs):=by
 obtain⟨fd,hfd⟩:=Option.isSome_iff_exists.mp hd
 obtain⟨o,ho,hod⟩:=Gy hfd
 exact PureE.callN hx hm (E.hK a o ho) hod hargs hg hdb
noncomputable def callT (T:Addr->PG) (f:PF) (fs:LF):PF:=fun ρ H=>(f ρ H).bind fun u=>match u with
 | .ref a=>(fs ρ H).bind fun vs=>T a vs H
 | _=>none
theorem PureE.callT {fe i:Expr}{q pos:Pos}{args:List Expr}{fs:LF}{T:Addr->PG}(hf:PureE C k sc (.Subscript fe i q) f)(hargs:ArgsF C k sc args fs)(hg:∀ a vs H v,T a vs H=some v->PFn C k (.ref a) (T a)/\∃ o fd,C.h0.get? a=some o/\o.data = .func fd) :
  PureE C k sc (.Call (.Subscript fe i q) args [] pos) (Mine.callT T f fs):=by
 intro A env s ρ H G O v hA F R hv
 obtain⟨u,hu,hv⟩:=Option.bind_eq_some_iff.mp hv
 cases u with
 | ref a =>
  obtain⟨vs,hvs,hv⟩:=Option.bind_eq_some_iff.mp hv
  obtain⟨hp,o,fd,ho,hd⟩:=hg a vs H v hv
  refine(?_:wpAny _ A (do callWith pos (<- eval (.Subscript fe i q) env) [] (backTo pos (starEach args env)) (backToKw pos (keywordEach [] env))) _ _ s)
  refine wpAny_bind (wpAny_mono (hf A env s ρ H G O _ hA F R hu) (fun x s0 h0=>?_) fun z0 z0 x=>x)
  obtain⟨rx,k0⟩:=h0
  simp only [vRr]at rx
  subst rx
  have F0:=F.keep k0.k
  have R0:=R.keep k0.k
  refine Calls.callWith_function (o:=o) (fd:=fd) (wpAny_mono (hargs (.ref a) pos A env s0 ρ H G _ vs hA F0 R0 hvs) (fun a' s1 h1=>?_) fun z0 z0 x=>x)
  obtain⟨xs,rfl,r1,k1⟩:=h1
  have R1:=R0.keep k1.k
  refine⟨⟨(R1.base a o ho).1,hd⟩,?_⟩
  refine wpAny_mono (hp A s1 H G O vs xs v hA (F0.keep k1.k).frs R1 r1 hv) (fun y s2 h2=>?_) fun z0 z0 x=>x
  exact⟨h2.1,(k0.trans' k1).trans' h2.2⟩
 | _=>exact nqa hv
end
end Mine
end
section
namespace Mine
theorem Pq {a:Int}{n:Nat}(h:a.natAbs < 2 ^ n):Builtin.Int.intBits a<=n:=by
 unfold Builtin.Int.intBits
 set_option tactic.hygienic true in split
 ·exact Nat.zero_le _
 ·rename_i h0
  have:a.natAbs ≠ 0:=by intro e;apply h0;simpa using e
  exact(Nat.log2_lt this).mpr h
noncomputable def big (a:Int):Bool:=decide (a.natAbs < 2 ^ 1000)
noncomputable def Fw (a b:Int):Option Int:=if big a=true/\big b=true then some (a * b) else none
noncomputable def cL (a b:Int):Option Int:=if 0<=b/\b<=100/\big a=true then some (a * 2 ^ b.toNat) else none
section
variable {C:Cx} {k:Nat} {sc:Sc} {f f' fe:PF}
theorem BinR.mulB:BinR C k (binaryOp .Mult) (iop Fw):=.ofInt fun A s a b c p q Q h hQ=>by
 unfold Fw at h;refine Bj h ?_;clear h;intro h' h
 obtain rfl:=Option.some.inj h
 refine P.mul_int (hQ _ _) ?_
 have h1:=Pq (of_decide_eq_true h'.1)
 have h2:=Pq (of_decide_eq_true h'.2)
 unfold IntMulOk
 have:Builtin.Int.intTooBig ((Builtin.Int.intBits a:Int) + (Builtin.Int.intBits b:Int))=false:=decide_eq_false (by unfold bitsLine;omega)
 rw[this,Bool.and_false];exact Bool.false_ne_true
theorem BinR.shl:BinR C k (binaryOp .LShift) (iop cL):=.ofInt fun A s a b c p q Q h hQ=>by
 unfold cL at h;refine Bj h ?_;clear h;intro h' h
 obtain rfl:=Option.some.inj h
 have h1:=Pq (of_decide_eq_true h'.2.2)
 exact PyProof.Rows.lshift_int h'.1 (by have:=h'.2.1;omega) (hQ _ _)
noncomputable def inP (f:PF):PF:=fun ρ H=>match f ρ H with
 | some (.int a)=>some (.int (-a - 1))
 | _=>none
theorem PureE.inP {x:Expr}{pos:Pos}(h:PureE C k sc x f):PureE C k sc (.UnaryOp .Invert x pos) (Mine.inP f):=by
 intro A env s ρ H G O v hA F R hv
 unfold Mine.inP at hv
 refine aC hv ?_;clear hv;intro a ha hv
 obtain rfl:=Option.some.inj hv
 refine wpAny_UnaryOp (wpAny_mono (h A env s ρ H G O _ hA F R ha) (fun x s1 h1=>?_) fun z0 z0 x=>x)
 obtain⟨r,k1⟩:=h1
 simp only [vRi]at r
 obtain⟨t,rfl⟩:=r
 exact PyProof.Rows.invert_int ⟨⟨_,rfl⟩,k1.trans' .tok⟩
noncomputable def poP (f:PF):PF:=fun ρ H=>match f ρ H with
 | some (.int a)=>some (.int a)
 | _=>none
theorem PureE.poP {x:Expr}{pos:Pos}(h:PureE C k sc x f):PureE C k sc (.UnaryOp .UAdd x pos) (Mine.poP f):=by
 intro A env s ρ H G O v hA F R hv
 unfold Mine.poP at hv
 refine aC hv ?_;clear hv;intro a ha hv
 obtain rfl:=Option.some.inj hv
 refine wpAny_UnaryOp (wpAny_mono (h A env s ρ H G O _ hA F R ha) (fun x s1 h1=>?_) fun z0 z0 x=>x)
 obtain⟨r,k1⟩:=h1
 simp only [vRi]at r
 obtain⟨t,rfl⟩:=r
 exact PyProof.Rows.pos_int ⟨⟨_,rfl⟩,k1⟩
noncomputable def ifM (c:CF) (f f':Rho->AH->Option FObj):Rho->AH->Option FObj:=fun ρ H=>match c ρ H with
 | some true=>f ρ H
 | some false=>f' ρ H
 | _=>none
theorem MakeE.ifM {t b o:Expr}{pos:Pos}{c:CF}{m m':Rho->AH->Option FObj}(ht:TestE C k sc t c)(hb:MakeE C k sc b m)(ho:MakeE C k sc o m'):MakeE C k sc (.IfExp t b o pos) (Mine.ifM c m m'):=by
 intro A env s ρ H G O v hA F R hv
 unfold Mine.ifM at hv
 have key:∀ q,c ρ H=some q->(if q=true then m ρ H else m' ρ H)=some v:=fun q hq=>by
  rw[hq]at hv;cases q <;> exact hv
 cases hc:c ρ H with
 | none=>rw[hc]at hv;exact nqa hv
 | some q =>
  have hv':=key q hc
  have later:∀ {s1:Shared} {x:Value} {s2:Shared},Kp s s1->PostM C s1 G O v x s2->PostM C s G O v x s2:=fun {s1 x s2} k1 h=>by
   obtain⟨a,g,e,ho,hn,hf,k2⟩:=h
   exact⟨a,g,e,ho,hn,fun b hb=>⟨(by
    cases e:s.heap.get? b with
    | none=>rfl
    | some ob=>have:=(hf b hb).1;rw[k1.k b ob e]at this;exact nqb this),(hf b hb).2⟩,k1.trans' k2⟩
  refine(?_:wpAny _ A (do if <- isTrue t env (eval t env) then eval b env else eval o env) _ _ s)
  refine wpAny_bind (wpAny_mono (ht A env s ρ H G O q hA F R hc) (fun c s1 h1=>?_) fun z0 z0 x=>x)
  obtain⟨rfl,k1⟩:=h1
  cases c with
  | true=>exact wpAny_mono (hb A env s1 ρ H G O v hA (F.keep k1.k) (R.keep k1.k) hv') (fun x s2 h2=>later k1 h2) fun z0 z0 x=>x
  | false=>exact wpAny_mono (ho A env s1 ρ H G O v hA (F.keep k1.k) (R.keep k1.k) hv') (fun x s2 h2=>later k1 h2) fun z0 z0 x=>x
noncomputable def eR (W:Wp AV):Wp AV:=fun Q=>W fun v ρ H=>∃ vs,v = .tup vs/\∀ a,H a=none->Q (.ref a) ρ (upd H a (.f (.lst false vs)))
theorem ImpE.listT {x:Str} {p pos:Pos} {e:Expr} {W:Wp AV} (hx:x ∈ sc.globs) (hm:C.mg x=Option.none) (hb:C.mb x=some (.type "list")) (he:ImpE C k sc e W)
  (htr:∀ env,starEach [e] env=[(false,eval e env)]:=by intro _;rfl) (hns:Gr [e]:=by intro _;rfl) (hd:(x == ("__debug__":Str))=false:=by decide):ImpE C k sc (.Call (.Name x p) [e] [] pos) (eR W):=by
 intro A env s ρ H G Q hA F hs R hW
 refine wpAny_Call_NameR (wpAny_Name (Co F R hx (.inr ⟨hm,hb⟩) ?_) hd)
 refine PySem.callWith_type (Cn hns pos env) (Db (e:=e) (rest:=[]) (htr env) ?_)
 rw[htr env]
 refine Calls.spliced_cons (wpAny_mono (he A env s ρ H G _ hA F hs R hW) (fun y s1 h1=>Calls.spliced_nil ?_) fun z0 z0 x=>x)
 obtain⟨v,ρ1,H1,G1,⟨vs,rfl,hq⟩,rx,hsv,F1,hs1,R1,S1⟩:=h1
 simp only [vRp]at rx
 obtain⟨a,n,items,rfl,hg,hO,hz,hr⟩:=rx
 have hl:=hr.length
 refine call_list_seq a (.inr rfl) hg rfl rfl (fun h' c' hk hg'=>?_) (by have:=Bv;simp;exact Ar.r95 hz hl this)
 have kk:Kp s1 { s1 with heap:=h' }:=⟨⟨_,_,rfl⟩,hk⟩
 have M:Made C (own H1 G1) G1 (.lst false vs) s1 s1.heap.objs.size [] { s1 with heap:=h' }:=by
  refine⟨⟨rfl,by simpa [AV.sto]using hsv,hz,c',items,hg',?_⟩,List.pairwise_singleton _ _,fun b hb=>?_,kk⟩
  ·refine hr.wide fun b o xs n e hd hb=>⟨hk b o e,fun q=>?_⟩
   rcases q with q | q | q
   ·exact hb q
   ·rw[q]at e;exact absurd (Heap.lt_size e) (Nat.lt_irrefl _)
   ·exact absurd q List.not_mem_nil
  ·have e:b=s1.heap.objs.size:=hb.resolve_right List.not_mem_nil
   rw[e];exact⟨Mt _,_,hg'⟩
 obtain⟨hn,R2,S2⟩:=Made.step R1 M
 exact⟨.ref s1.heap.objs.size,ρ1,_,_,hq _ hn,by simp[vRr],rfl,S2.wf F1 hs1,hs1,R2,S1.trans (S2.frm F1)⟩
noncomputable def eQ (f fi:PF):Wp AV:=fun Q ρ H=>∃ (v:AV) (vs:List AV) (i:Nat) (x:AV) (H':AH),f ρ H=some v/\Av H v=some vs/\fi ρ H=some (.int (i:Int))/\vs[i]? = some x/\x.sto=true/\Ih H v (vs.eraseIdx i)=some H'/\Q x ρ H'
theorem VRels.erase {h:Heap}{O:Addr->Prop}{G:Gh}{vs:List AV}{xs:List Value}(i:Nat)(h1:VRels h O G vs xs):VRels h O G (vs.eraseIdx i) (xs.eraseIdx i):=by
 rw[List.eraseIdx_eq_take_drop_succ,List.eraseIdx_eq_take_drop_succ]
 exact(h1.take i).append (h1.drop (i + 1))
theorem ImpE.popI {o e:Expr} {apos pos:Pos} (ho:PureE C k sc o f) (he:PureE C k sc e fe) (hbase:∀ env,attributeBase o "pop" env (eval o env)=eval o env:=by intro _;rfl)
  (hfew:∀ env,((backTo pos (starEach [e] env)).all (fun x=>!x.1) && (backToKw pos (keywordEach [] env)).all (fun x=>x.1.isSome) && decide (([e]:List Expr).length + ([]:List Keyword).length + (if ([]:List Keyword).isEmpty then 0 else 1) < 30))=true:=by intro _;rfl)
  (hline:(apos.endLine == pos.line)=true:=by rfl) (htr:∀ env,starEach [e] env=[(false,eval e env)]:=by intro _;rfl):ImpE C k sc (.Call (.Attribute o "pop" apos) [e] [] pos) (eQ f fe):=by
 rintro A env s ρ H G Q hA F hs R ⟨v,vs,i,x,H',hv,hvs,hi,hx,hsx,hp,hq⟩
 refine Dy PySem.F.slot_list_pop PySem.F.type_list_pop (hbase env) (hfew env) hline (wpAny_mono (ho A env s ρ H G _ v hA F R hv) (fun ov s1 h1=>?_) fun z0 z0 x=>x)
 refine Ag fun PP ret=>?_
 obtain⟨rv,k1⟩:=h1
 have R1:=R.keep k1.k
 obtain⟨a,n,items,rfl,hg,hr,hz⟩:=Ao R1 rv hvs
 refine ret ?_
 refine⟨a,items,n,rfl,hg,?_⟩
 rw[htr env]
 have hl:=hr.length
 refine P.pop_at_list (wpAny_mono (he A env s1 ρ H G _ _ hA (F.keep k1.k) R1 hi) (fun y s2 h2=>?_) fun z0 z0 x=>x)
 obtain⟨ry,k2⟩:=h2
 have k12:=k1.trans' k2
 have R2:=R.keep k12.k
 have hg2:=k2.k _ _ hg
 simp only [vRi]at ry
 obtain⟨t,rfl⟩:=ry
 obtain⟨y,hy,hry⟩:=hr.get hx
 have hiv:=(List.getElem?_eq_some_iff.mp hx).1
 have hsi:seqIndex? (i:Int) items.toArray.size=some i:=by
  rw[List.size_toArray,hl]
  unfold seqIndex?
  simp only [show ¬ ((i:Int) < 0) by exact Ar.r255,if_false]
  rw[if_pos (by simp;exact Ar.r194 hiv)]
  simp
 obtain⟨n',hg'⟩:=Dv (h':=s2.heap) (ys:=items.eraseIdx i) (g:=fun xs=>xs.eraseIdxIfInBounds i) hg2 (by
  rw[Array.eraseIdxIfInBounds]
  have hlt:i < items.toArray.size:=by simp;rw[hl];exact hiv
  simp only [hlt,dif_pos]
  rw[List.eraseIdx_toArray])
 obtain⟨R3,S3⟩:=Ig (s':=s2) (tk:=s2.toks) (vs:=vs) (n:=n) (items:=items) R2 (rv.keep k2.k) hp Ck hg' ((hr.keep k2.k).erase i)
 have F2:=F.keep k12.k
 have hfit:Builtin.List.listFitsIndex (i:Int)=true:=by
  have h6:(vs.length:Int)<=1048576:=by rw[An]at hz;exact Ar.y152 hz
  unfold Builtin.List.listFitsIndex
  simp only [Bool.and_eq_true,decide_eq_true_eq]
  omega
 have hy':items.toArray[i]? = some y:=by simpa using hy
 have hsz:items.toArray.size<=sizeLine:=by have:=Bv;simp;exact Ar.r95 hz hl this
 have fin:PostE C A sc env s H G Q y { s2 with heap:=s2.heap.update a (Obj.mapSeq fun xs=>xs.eraseIdxIfInBounds i) }:=⟨x,ρ,H',G,hq,S3.val hsx (hry.keep k2.k),hsx,S3.wf F2 hs,hs,R3,(Step.kp R k12).trans (S3.frm F2)⟩
 exact⟨items.toArray,n,(i:Int),t,i,y,hsz,rfl,hg2,hfit,hsi,hy',fin⟩
noncomputable def fQ (fo:PF) (W:Wp AV):Wp AV:=fun Q ρ H=>∃ v vs0,fo ρ H=some v/\v.sto=true/\Av H v=some vs0/\W (fun x ρ1 H1=>∃ vs ws H',x = .tup ws/\Av H1 v=some vs/\(vs++ws).length<=lim/\Ih H1 v (vs++ws)=some H'/\Q .none ρ1 H') ρ H
theorem ImpE.extendI {o e:Expr} {apos pos:Pos} {W:Wp AV} (ho:PureE C k sc o f) (he:ImpE C k sc e W) (hbase:∀ env,attributeBase o "extend" env (eval o env)=eval o env:=by intro _;rfl)
  (hfew:∀ env,((backTo pos (starEach [e] env)).all (fun x=>!x.1) && (backToKw pos (keywordEach [] env)).all (fun x=>x.1.isSome) && decide (([e]:List Expr).length + ([]:List Keyword).length + (if ([]:List Keyword).isEmpty then 0 else 1) < 30))=true:=by intro _;rfl)
  (hline:(apos.endLine == pos.line)=true:=by rfl) (htr:∀ env,starEach [e] env=[(false,eval e env)]:=by intro _;rfl):ImpE C k sc (.Call (.Attribute o "extend" apos) [e] [] pos) (fQ f W):=by
 rintro A env s ρ H G Q hA F hs R ⟨v,vs0,hv,hsv,hvs0,hW⟩
 refine Dy PySem.F.slot_list_extend PySem.F.type_list_extend (hbase env) (hfew env) hline (wpAny_mono (ho A env s ρ H G _ v hA F R hv) (fun ov s1 h1=>?_) fun z0 z0 x=>x)
 refine Ag fun PP ret=>?_
 obtain⟨rv,k1⟩:=h1
 have R1:=R.keep k1.k
 have F1:=F.keep k1.k
 obtain⟨a,n,items,rfl,hg,hr,hz⟩:=Ao R1 rv hvs0
 refine ret ?_
 refine⟨a,items,n,rfl,hg,?_⟩
 rw[htr env]
 refine seqMethod1_meets PySem.F.slot_list_extend PySem.F.entry_list_extend (wpAny_mono (he A env s1 ρ H G _ hA F1 hs R1 hW) (fun y s2 h2=>?_) fun z0 z0 x=>x)
 obtain⟨x,ρ2,H2,G2,⟨vs,ws,H',rfl,hvs,hlim,hp,hq⟩,ry,hsx,F2,hs2,R2,S2⟩:=h2
 have rv2:=S2.valF F1 hsv rv
 obtain⟨a',n2,items2,e',hg2,hr2,hz2⟩:=Ao R2 rv2 hvs
 cases e'
 simp only [vRp]at ry
 obtain⟨b,n3,items3,rfl,hgb,hOb,hzb,hrb⟩:=ry
 have hl:=hr2.length
 have hlb:=hrb.length
 rw[List.length_append,<- hl,<- hlb]at hlim
 have hll:=Bv
 obtain⟨n',hg'⟩:=Dv (h':=s2.heap) (ys:=items2++items3) (g:=fun xs=>xs++items3.toArray) hg2 (by simp)
 obtain⟨R3,S3⟩:=Ig (s':=s2) (tk:=s2.toks) (vs:=vs) (n:=n2) (items:=items2) R2 rv2 hp Ck hg' (hr2.append hrb)
 refine⟨⟨_,hg2,rfl⟩,PySem.F.args_list_extend_2 _ _,_,AutoSeq1.list_extend_list_tuple_0 a items2.toArray n2 b items3.toArray n3 (extend_door (by simp;exact Ar.y27 hlim hll)) (by simp;exact Ar.r95 hz2 hl hll) (by simp;exact Ar.y26 hlim hll),hg2,hgb,?_⟩
 exact⟨.none,ρ2,H',G2,hq,by simp[vRn],rfl,S3.wf F2 hs2,hs2,R3,((Step.kp R k1).trans S2).trans (S3.frm F2)⟩
end
end Mine
end
section
namespace Mine
noncomputable abbrev GEs:=List (Int × Addr × List Int)
noncomputable abbrev bI (es:GEs):FObj:=.dic false (es.map fun p=>(p.1,AV.ref p.2.1))
noncomputable def addG (es:GEs):SState:=es.foldl (fun S p=>S.add p.1 p.2.2) .empty
inductive GOk (H:AH) (d:Addr) (es:GEs):Prop
 | mk (hd:H d=some (.f (bI es))) (hl:∀ p ∈ es,H p.2.1=some (.f (.lst false (p.2.2.map .int)))) (hz:(es.map fun p=>2 * p.2.2.length + 3).sum < 4000)
noncomputable def Vo:FW:=fun vs Q H=>∃ d es,vs=[.ref d]/\GOk H d es/\∀ a,H a=none->Q (.ref a) (upd H a (.srt (addG es)))
section
variable {C:Cx} {H:AH} {a:Addr} {k:Nat} {f:Value}
theorem Flat.other {σ:FSt}{H':AH}(F:Flat C false none H a σ)(h:∀ b,Cq C a σ b->H' b=H b):Flat C false none H' a σ:=by
 obtain⟨n1,i1⟩:=F.toL
 exact Flat.ofL n1 F.nk fun x hx=>(h x.1 (List.mem_map.mpr ⟨x,hx,rfl⟩)).trans (i1 x hx)
theorem To {k:Int}{ps:List Int}{S:SState}:(S.add k ps).ready=S.ready:=(SState.add_facts (S:=S) (k:=k) (ps:=ps)).2.2.2.1
theorem Ww {d:Addr}{es:GEs}{Q:AV->AH->Prop}(ok:GOk H d es)(hQ:∀ a H' σ,H a=none->Flat C false none H' a σ->σ.toS=addG es->(∀ b o,H b=some o->H' b=some o)->(∀ b,Cq C a σ b->H b=none)->Q (.ref a) H'):Hd C [.ref d] Q H:=by
 obtain⟨hd,hl,hz⟩:=ok
 intro a ha
 unfold Hw Cc
 refine⟨[.ref a,.ref d],rfl,?_⟩
 unfold Hx
 generalize hρ:(fun i=>([.ref a,.ref d]:List AV).getD i .undef)=ρ0
 change Rho at ρ0
 have r0:ρ0 0 = .ref a:=by rw[<- hρ];rfl
 have r1:ρ0 1 = .ref d:=by rw[<- hρ];rfl
 refine⟨.dic false [],rfl,fun d' hd'=>?_⟩
 have hda:d' ≠ a:=by first | exact Aj Af hd' rfl | exact Aj hd' Af rfl
 rw[Ab hda]at hd'
 refine⟨.ref a,_,Ah r0,Fg (at':=[]) (by rw[Ab (Ne.symm hda),Af]) rfl (Nat.le_of_ble_eq_true rfl),?_⟩
 refine⟨.none,rfl,rfl,.ref a,_,Ah r0,Fg Af rfl (Nat.le_of_ble_eq_true rfl),?_⟩
 refine⟨.int 0,rfl,rfl,.ref a,_,Ah r0,Fg Af rfl (Nat.le_of_ble_eq_true rfl),?_⟩
 refine⟨.int 0,rfl,rfl,.ref a,_,Ah r0,Fg Af rfl (Nat.le_of_ble_eq_true rfl),?_⟩
 generalize hH:upd (upd (upd (upd (upd (upd H a (.f (.inst C.tsC []))) d' (.f (.dic false []))) a (.f (.inst C.tsC (Dx [] "_node2info" (.ref d'))))) a (.f (.inst C.tsC (Dx (Dx [] "_node2info" (.ref d')) "_ready_nodes" .none)))) a (.f (.inst C.tsC (Dx (Dx (Dx [] "_node2info" (.ref d')) "_ready_nodes" .none) "_npassedout" (.int 0))))) a (.f (.inst C.tsC (Dx (Dx (Dx (Dx [] "_node2info" (.ref d')) "_ready_nodes" .none) "_npassedout" (.int 0)) "_nfinished" (.int 0))))=H1
 have e1:H1 a=some (.f (.inst C.tsC (Dp d' .none 0 0))):=by rw[<- hH,Af];rfl
 have e2:H1 d' = some (.f (.dic false [])):=by rw[<- hH,Ab hda,Ab hda,Ab hda,Ab hda,Af]
 have e3:∀ b,b ≠ a->b ≠ d'->H1 b=H b:=fun b h1 h2=>by rw[<- hH,Ab h1,Ab h1,Ab h1,Ab h1,Ab h2,Ab h1]
 have F0:Flat C false none H1 a ⟨d',0,[],none,0,0⟩:=⟨e1,e2,(fun r hr=>by exact nqa hr),(fun n hn=>by simp at hn),(fun n hn=>by simp at hn),(by simp),(by simp),(by simp),(fun h=>absurd rfl h)⟩
 have p0:∀ b,Cq C a ⟨d',0,[],none,0,0⟩ b->H b=none:=fun b hb=>by
  rcases parts_iff.mp hb with q | q | ⟨q,_⟩ | ⟨n,hn,_⟩
  ·rw[q];exact ha
  ·rw[q];exact hd'
  ·exact absurd rfl q
  ·simp at hn
 have keep0:∀ b o,H b=some o->H1 b=some o:=fun b o hb=>by
  rw[e3 b (fun q=>by rw[q,ha]at hb;exact nqa hb) (fun q=>by rw[q,hd']at hb;exact nqa hb)];exact hb
 clear hH e1 e2 hρ
 have t1:Aw isNotG (vP 1) (cP .none) ρ0 H1=some true:=by simp only [Aw,Ah r1,cP];rfl
 refine(?_:Ad (ifT (Bg (Aw isNotG (vP 1) (cP .none))) _ Ai) Ai _ ρ0 H1)
 refine Wi t1 (Js ?_)
 have hdd:=keep0 d _ hd
 refine Qf hdd rfl ?_
 have hL:∀ b,b ≠ d->upd H1 d (.f (bI es).hold) b=H1 b:=fun b hb=>Ab hb
 have hLd:upd H1 d (.f (bI es).hold) d=some (.f (bI es).hold):=Af
 have hnd:∀ b,Cq C a ⟨d',0,[],none,0,0⟩ b->b ≠ d:=fun b hb q=>by rw[q]at hb;rw[p0 d hb]at hd;exact nqa hd
 generalize upd H1 d (.f (bI es).hold)=H2 at hL hLd ⊢
 have F1:=F0.other (H':=H2) fun b hb=>hL b (hnd b hb)
 have lz:es.length<=lim:=by
  have:∀ es:GEs,es.length<=(es.map fun p=>2 * p.2.2.length + 3).sum:=fun es=>by
   induction es with
   | nil=>exact Nat.le_refl _
   | cons p es ih=>rw[List.map_cons,List.sum_cons,List.length_cons];exact Ar.y58 ih
  have:=this es
  rw[An];exact Ar.y88 hz this
 have live2:∀ b,H b ≠ none->H2 b ≠ none:=fun b hb=>by
  by_cases q:b=d
  ·rw[q,hLd];exact nofun
  ·rw[hL b q]
   cases e:H b with
   | none=>exact absurd e hb
   | some o=>rw[keep0 b o e];exact nofun
 have hlist:∀ p ∈ es,H2 p.2.1=some (.f (.lst false (p.2.2.map .int))):=fun p hp=>by
  have h1:=hl p hp
  rw[hL _ fun q=>by rw[q,hd]at h1;cases h1]
  exact keep0 _ _ h1
 have nP0:∀ b,H b ≠ none->¬ Cq C a ⟨d',0,[],none,0,0⟩ b:=fun b hb q=>hb (p0 b q)
 refine⟨imA (es.map fun p=>(p.1,AV.ref p.2.1)),?_,?_,?_⟩
 ·unfold dF
  rw[Ah r1]
  refine(?_:(match H2 d with | some (.f (.dic true es))=>if es.length<=lim then some (imA es) else none | _=>none)=_)
  rw[hLd]
  exact if_pos (by rw[List.length_map];exact lz)
 ·refine stos_iff.mpr fun v hv=>?_
  unfold imA at hv
  obtain⟨p,hp,rfl⟩:=List.mem_map.mp hv
  obtain⟨q,_,rfl⟩:=List.mem_map.mp hp
  rfl
 refine Fa (fun i ρ H'=>∃ σ,Flat C false none H' a σ/\Frm C a H2 ⟨d',0,[],none,0,0⟩ H' σ/\σ.toS=addG (es.take i)/\σ.ready=none/\ρ 0 = .ref a/\σ.toS.Bd ((es.take i).map fun p=>2 * p.2.2.length + 3).sum) ⟨_,F1,.refl,rfl,rfl,r0,⟨Nat.zero_le _,fun n hn=>absurd hn List.not_mem_nil⟩⟩ ?_ ?_
 ·rintro i v ρ H' K' hv ⟨σ,F,fr,hS,hr,q0,hB⟩ hK
  unfold imA at hv
  rw[List.getElem?_map,List.getElem?_map]at hv
  obtain⟨p,hp,rfl⟩:=Option.map_eq_some_iff.mp hv
  obtain⟨q,hq,rfl⟩:=Option.map_eq_some_iff.mp hp
  obtain⟨x,l,ps⟩:=q
  have hm:=List.mem_of_getElem? hq
  have hll:H' l=some (.f (.lst false (ps.map .int))):=by
   have h1:=hlist _ hm
   rw[fr.out l (nP0 l (by rw[hl _ hm];exact nofun)) (by rw[h1];exact nofun)];exact h1
  refine⟨(ρ.set 2 (.int x)).set 3 (.ref l),rfl,?_⟩
  have et:es.take (i + 1)=es.take i++[(x,l,ps)]:=by rw[List.take_succ,hq];rfl
  have hsum:((es.take (i + 1)).map fun p=>2 * p.2.2.length + 3).sum=((es.take i).map fun p=>2 * p.2.2.length + 3).sum + (2 * ps.length + 3):=by
   rw[et,List.map_append,List.sum_append];rfl
  have htl:((es.take (i + 1)).map fun p=>2 * p.2.2.length + 3).sum<=(es.map fun p=>2 * p.2.2.length + 3).sum:=by
   have e:=List.take_append_drop (i + 1) es
   conv=>rhs;rw[<- e]
   rw[List.map_append,List.sum_append];exact Nat.le_add_right _ _
  refine Sj (a:=a) (ns:=Bl) (vs:=.int x :: ps.map .int) (Ah (i:=0) (by exact q0)) F.inst (by decide) (Ac (Ae rfl) ?_) (Ay (x :: ps)) ?_
  ·refine Eq.trans (b:=some (ps.map AV.int++[])) ?_ (congrArg some (List.append_nil _))
   exact bA (ws:=[]) (kQ (v:=.ref l) (Ah rfl) (Ib hll)) rfl
  refine bW F hr hB (by rw[An];exact Ar.y87 hz hsum htl) fun H3 σ3 F3 fr3 hS3=>?_
  have hS4:σ3.toS=addG (es.take (i + 1)):=by
   rw[hS3,hS,et];unfold addG;rw[List.foldl_append];rfl
  refine(hK ((ρ.set 2 (.int x)).set 3 (.ref l)) H3 ⟨σ3,F3,fr.trans fr3,hS4,?_,q0,?_⟩).1
  ·have:σ3.toS.ready=none:=by rw[hS3,To];exact hr
   exact this
  ·rw[hS3,hsum]
   exact(hB.add x ps).mono (by exact Ar.y109)
 ·rintro ρ H' ⟨σ,F,fr,hS,hr,q0,hB⟩
  have el:(imA (es.map fun p=>(p.1,AV.ref p.2.1))).length=es.length:=by unfold imA;rw[List.length_map,List.length_map]
  rw[el,List.take_length]at hS
  have np:∀ b,Cq C a σ b->b ≠ d:=fun b hb q=>by
   rw[q]at hb
   rcases fr.new d hb with h1 | h1
   ·exact hnd d h1 rfl
   ·rw[hLd]at h1;exact nqb h1
  refine⟨rfl,?_⟩
  refine hQ a _ σ ha (F.other fun b hb=>Ab (np b hb)) hS (fun b o hb=>?_) fun b hb=>?_
  ·by_cases q:b=d
   ·rw[q,Af,<- hb,q,hd]
   ·rw[Ab q,fr.out b (nP0 b (by rw[hb];exact nofun)) (live2 b (by rw[hb];exact nofun)),hL b q];exact keep0 b o hb
  ·rcases fr.new b hb with h1 | h1
   ·exact p0 b h1
   ·cases e:H b with
    | none=>rfl
    | some o=>exact absurd h1 (live2 b (by rw[e];exact nofun))
theorem eI (h:CallR C k f (Hd C)):CallR C k f Vo:=by
 rintro A s H G vs xs Q hA hF R hr hst ⟨d,es,e,ok,hq⟩
 refine CallR.packNew (S':=addG es) (W':=fun vs Q H=>∃ d,vs=[.ref d]/\GOk H d es/\∀ a,H a=none->Q (.ref a) (upd H a (.srt (addG es)))) h ?_ A s H G vs xs Q hA hF R hr hst ⟨d,e,ok,hq⟩
 rintro vs Q H ⟨d,rfl,ok,hq⟩
 refine Ww ok fun a H' σ ha F hS hk hp=>?_
 obtain⟨n1,i1⟩:=F.toL
 exact⟨a,σ.L C a,rfl,ha,⟨σ,hS,rfl,F.nk⟩,n1,i1,hk,hp,hq a ha⟩
end
end Mine
end
section
namespace Mine
end Mine
end
section
namespace Mine
structure HS (As:List Addr) (os:List AObj) (H:AH):Prop where
 nd:As.Nodup
 ln:As.length=os.length
 at':∀ (i:Nat) (a:Addr) (o:AObj),As[i]? = some a->os[i]? = some o->H a=some o
section
variable {As:List Addr} {os:List AObj} {H:AH} {a b:Addr} {o:AObj}
theorem HS.mem (h:HS As os H)(ha:a ∈ As):∃ o,H a=some o:=by
 obtain⟨i,hi,e⟩:=List.getElem_of_mem ha
 exact⟨os[i]'(h.ln ▸ hi),h.at' i a _ (List.getElem?_eq_some_iff.mpr ⟨hi,e⟩) (List.getElem?_eq_some_iff.mpr ⟨h.ln ▸ hi,rfl⟩)⟩
theorem HS.fresh (h:HS As os H)(hb:H b=none):HS As os (upd H b o) :=
 ⟨h.nd,h.ln,fun i a o' ha ho=>by
  have q:=h.at' i a o' ha ho
  rw[Ab fun e=>by rw[e,hb]at q;exact nqa q];exact q⟩
theorem HS.snoc (h:HS As os H)(hb:H b=none):HS (As++[b]) (os++[o]) (upd H b o):=by
 have hn:b ∉ As:=fun q=>by obtain⟨o,e⟩:=h.mem q;rw[hb]at e;exact nqa e
 refine⟨?_,by rw[List.length_append,List.length_append,h.ln];rfl,fun i a o' ha ho=>?_⟩
 ·rw[List.nodup_append]
  exact⟨h.nd,List.pairwise_singleton _ _,fun x hx y hy e=>hn (by rw[<- List.mem_singleton.mp hy,<- e];exact hx)⟩
 ·by_cases q:i < As.length
  ·rw[List.getElem?_append_left q]at ha
   rw[List.getElem?_append_left (h.ln ▸ q)]at ho
   exact(h.fresh hb).at' i a o' ha ho
  ·rw[List.getElem?_append_right (Nat.le_of_not_lt q)]at ha
   rw[List.getElem?_append_right (h.ln ▸ Nat.le_of_not_lt q),<- h.ln]at ho
   cases e:i - As.length with
   | zero=>rw[e]at ha ho;rw[<- Option.some.inj ha,<- Option.some.inj ho];exact Af
   | succ n=>rw[e]at ha;exact nqa ha
theorem HS.set (h:HS As os H)(i:Nat)(hi:As[i]? = some a):HS As (os.set i o) (upd H a o):=by
 refine⟨h.nd,by rw[List.length_set];exact h.ln,fun j c o' hc ho=>?_⟩
 by_cases q:i=j
 ·subst q
  rw[List.getElem?_set_self (h.ln ▸ (List.getElem?_eq_some_iff.mp hi).1)]at ho
  rw[hi]at hc
  rw[<- Option.some.inj hc,<- Option.some.inj ho];exact Af
 ·rw[List.getElem?_set_ne q]at ho
  have hca:c ≠ a:=fun e=>by
   subst e
   obtain⟨h1,e1⟩:=List.getElem?_eq_some_iff.mp hi
   obtain⟨h2,e2⟩:=List.getElem?_eq_some_iff.mp hc
   exact q ((List.getElem_inj h.nd).mp (e1.trans e2.symm))
  rw[Ab hca];exact h.at' j c o' hc ho
theorem HS.get (h:HS As os H)(i:Nat)(ha:As[i]? = some a)(ho:os[i]? = some o):H a=some o:=h.at' i a o ha ho
theorem HS.one (h:H a=some o):HS [a] [o] H:=⟨List.pairwise_singleton _ _,rfl,fun i b o' hb ho=>by
 cases i with
 | zero=>rw[<- Option.some.inj hb,<- Option.some.inj ho];exact h
 | succ i=>exact nqa hb⟩
end
end Mine
end
section
namespace Mine
section
variable {H:AH} {x b:Addr} {lk:Bool} {k:Nat} {M:List (List AV)} {vs:List AV} {ρ:Rho} {fs:LF}
theorem Jt {us ws:List AV}(h:H x=some (.f (.lst false us)))(hz:ws.length<=lim)(hs:AV.stos ws=true):Ih H (.ref x) ws=some (upd H x (.f (.lst false ws))):=by
 refine(?_:(match H x with | some (.f (.lst false _))=>if ws.length<=lim/\AV.stos ws=true then some (upd H x (.f (.lst false ws))) else none | _=>none)=_)
 rw[h];exact if_pos ⟨hz,hs⟩
theorem Om (h:fs ρ H=some vs)(hz:vs.length<=lim):Ex fs ρ H=some (.tup vs):=by simp only [Ex,h];rw[if_pos hz]
theorem kE {v:AV}(h:Av H v=some vs):neG H v (.fl [])=some (!vs.isEmpty):=by
 unfold neG eqV
 rw[h]
 clear h;cases vs <;> rfl
theorem Lz {vs:List AV}(h:H x=some (.f (.lst lk vs))):Av H (.ref x)=some vs:=Ib h
end
end Mine
end
section
namespace Mine
end Mine
end
section
namespace Mine
end Mine
end
section
namespace Mine
section
variable {C:Cx} {k:Nat} {sc:Sc} {f f':PF}
theorem ArgsE.icons {i:Int}{j:Nat}{p:Pos}{rest:List Expr}{fs:LF}(hr:ArgsE C k sc rest fs):ArgsE C k sc (.Constant (.int i) j p :: rest) (Aa (cP (.int i)) fs):=ArgsE.cons .int hr fun z0=>rfl
theorem StmtR.letInts {x:Str}{i:Nat}{elts:List Expr}{q p pos:Pos}{fs:LF}(hx:(x,i) ∈ sc.vars)(h:ArgsE C k sc elts fs):StmtR C k sc (.Assign [.Name x p] (.List elts q) pos) (Bh i (Ch (Ce fs))):=.let hx (.ofMake (.list h)) fun z0=>rfl
theorem StmtsR.start {b rest:List Stmt}{st:Stmt}{T t r:Wp AFlow}(e:b=st :: rest)(f:T=Ad t r)(h1:StmtR C k sc st t)(h2:StmtsR C k sc rest r):StmtsR C k sc b T:=by subst e;subst f;exact .cons h1 h2
end
end Mine
end
section
namespace Mine
section
variable {C:Cx} {k:Nat} {sc:Sc} {f:PF}
theorem ArgsE.itcons {es rest:List Expr}{n:Nat}{p:Pos}{fs gs:LF}(h:ArgsE C k sc es fs)(hr:ArgsE C k sc rest gs):ArgsE C k sc (.Tuple es n p :: rest) (Aa (Ex fs) gs):=ArgsE.cons (.tuple h) hr fun z0=>rfl
theorem jO {x y:Str}{n n':Nat}{p1 p2 p p':Pos}{e1 e2:Expr}(h1:(p2.line == p1.line)=true)(h7:([x,y]:List Str).eraseDups.length=2)(h3:([e1,e2].any fun | .Starred ..=>true | _=>false)=false)(h4:[e1,e2].all (foldedForSure 8)=false)(h5:[e1,e2].all (constantsAlone 8)=false) :
  ∀ env,swappedStores [.Tuple [.Name x p1,.Name y p2] n p] (.Tuple [e1,e2] n' p') env=pure none\/swappedStores [.Tuple [.Name x p1,.Name y p2] n p] (.Tuple [e1,e2] n' p') env=pure (some [x,y]):=by
 intro env
 have h6:(p1.line == p1.line)=true:=beq_self_eq_true _
 cases hb:(env.blockKind != .function) with
 | true=>left;simp[swappedStores,hb]
 | false =>
  cases hx:(env.kindOf x == some .local) with
  | false=>left;cases hy:(env.kindOf y == some .local) <;> simp_all [swappedStores,List.filterMap,Expr.pos]
  | true =>
   cases hy:(env.kindOf y == some .local) with
   | false=>left;simp_all [swappedStores,List.filterMap,Expr.pos]
   | true =>
    right
    have h4':¬ (foldedForSure 8 e1=true/\foldedForSure 8 e2=true):=fun q=>by
     simp only [List.all_cons,List.all_nil,q.1,q.2]at h4;exact nqc h4
    have h5':¬ (constantsAlone 8 e1=true/\constantsAlone 8 e2=true):=fun q=>by
     simp only [List.all_cons,List.all_nil,q.1,q.2]at h5;exact nqc h5
    simp only [List.any_cons,List.any_nil,Bool.or_false,Bool.or_eq_false_iff]at h3
    clear h4 h5
    have h8:∀ b:Bool,b=false->b=true->False:=fun b q1 q2=>by rw[q1]at q2;exact nqd q2
    simp[swappedStores,List.filterMap,Expr.pos,hb,hx,hy,h1,h7]
    refine(if_neg fun q=>Or.elim q (fun z=>h8 _ h3.1 z) (fun z=>h8 _ h3.2 z)).trans ((if_neg h4').trans (if_neg h5'))
noncomputable def eL (i j:Nat) (f:PF):Wp AFlow:=fun Q ρ H=>∃ a b,f ρ H=some (.tup [a,b])/\a.sto=true/\b.sto=true/\Q .next ((ρ.set i a).set j b) H
theorem StmtR.unpack2 {x y:Str}{i j n:Nat}{e:Expr}{p1 p2 p pos:Pos}(hx:(x,i) ∈ sc.vars)(hy:(y,j) ∈ sc.vars)(hij:i ≠ j)(he:PureE C k sc e f)(hsw:∀ env,swapsWith e (some (.Tuple [.Name x p1,.Name y p2] n p)) pos.line env=pure false:=by intro _;rfl)
  (hss:∀ env,swappedStores [.Tuple [.Name x p1,.Name y p2] n p] e env=pure none\/swappedStores [.Tuple [.Name x p1,.Name y p2] n p] e env=pure (some [x,y])):StmtR C k sc (.Assign [.Tuple [.Name x p1,.Name y p2] n p] e pos) (eL i j f):=by
 rintro A env s ρ H G Q hA F hs R ⟨a,b,hv,ha,hb,hq⟩
 have hst:(AV.tup [a,b]).sto=true:=by
  refine(?_:AV.stos [a,b]=true)
  simp only [AV.stos,ha,hb];rfl
 rcases hss env with hss | hss
 ·refine wpAny_Assign_stores (wpAny_mono (he A env s ρ H G _ _ hA F R hv) (fun z s1 h1=>?_) fun z0 z0 x=>x) (hsw env) hss
  obtain⟨rz,k1⟩:=h1
  have F1:=F.keep k1.k
  have R1:=R.keep k1.k
  have ht:AssignR C sc (.Tuple [.Name x p1,.Name y p2] n p) (.many [i,j]):=.tuple (.cons hx (.cons hy .nil))
  refine(?_:wpAny _ _ (assign (.Tuple [.Name x p1,.Name y p2] n p) env z) _ _ _)
  refine ht k A env s1 ρ ((ρ.set i a).set j b) H G _ _ z _ hA F1 R1 rz rfl fun s2 s3 k2 fs F3=>?_
  have fs':=fs.mono fun z0=>Bp
  have F2:=F1.keep k2.k
  have R2:=R1.keep k2.k
  exact⟨.next,_,H,G,hq,trivial,F3,(hs.set ha).set hb,R2.fs F2 fs',((Step.kp R k1).trans (.kp R1 k2)).trans (.fs F2 R2 fs')⟩
 ·refine Assign_Tuple_swapped (names:=[x,y]) (wpAny_mono (he A env s ρ H G _ _ hA F R hv) (fun z s1 h1=>?_) fun z0 z0 x=>x) (hsw env) hss
  obtain⟨rz,k1⟩:=h1
  simp only [vRp]at rz
  obtain⟨t,m,items,rfl,hg,hO,hz,hr⟩:=rz
  simp only [vSn,vSc]at hr
  obtain⟨v1,r1,rfl,hv1,v2,r2,rfl,hv2,rfl⟩:=hr
  have F1:=F.keep k1.k
  have R1:=R.keep k1.k
  have U:=unpackItems_tuple (prog:=C.prog) (w:=C.w) (A:=A) (E:=fun z0 z0=>False) (s:=s1) (t:=t) (items:=[v1,v2].toArray) (Q:=fun items s₂=>wpAny (model C.prog C.w) A (assignInOrder (([x,y]:List Str).reverse.map fun n=>bindName env n) items.reverse) (fun z0=>PostS C A sc env s H G Q .next) (fun z0 z0=>False) s₂) hA.1 (Mn hg) fun h' he'=>?_
  ·exact U
  ·have k2:Kp s1 { s1 with heap:=h' }:=⟨⟨_,_,rfl⟩,fun b o e=>he' b o (Nat.ne_of_lt (Heap.lt_size e)) e⟩
   have F2:=F1.keep k2.k
   have R2:=R1.keep k2.k
   refine(?_:wpAny _ A (do holding [v1] (bindName env y v2);do holding [] (bindName env x v1);pure ()) _ _ _)
   refine wpAny_bind (wpAny_holding (wpAny_bindName (Bz F2 hy (hv2.keep k2.k) fun s3 F3 fs3 hv3=>?_)))
   have R3:=R2.fs F2 (fs3.mono fun z0=>Bp)
   have hsq:=VRel.frm (env:=env) (h:=h') (h':=s3.heap) (by obtain⟨m,hm,_⟩:=F2.ns;exact Cy hm) (fun z d hz=>let ⟨ov,q⟩:=F2.cli z d hz;Dg q) (fs3.mono fun z0=>Bp).k
   have hv1':VRel s3.heap (own H G) G a v1:=(hv1.keep k2.k).mono (fun b o xs n e hd hb=>⟨hsq b o xs n e hd,hb⟩) ha
   refine wpAny_bind (wpAny_holding (wpAny_bindName (Bz F3 hx hv1' fun s4 F4 fs4 hv4=>wpAny_pure ?_)))
   have R4:=R3.fs F3 (fs4.mono fun z0=>Bp)
   have e:(ρ.set j b).set i a=(ρ.set i a).set j b:=by
    funext l
    unfold Rho.set
    by_cases h1:l=i
    ·by_cases h2:l=j
     ·exact absurd (h1.symm.trans h2) hij
     ·rw[if_pos h1,if_neg h2,if_pos h1]
    ·rw[if_neg h1]
     by_cases h2:l=j
     ·rw[if_pos h2,if_pos h2]
     ·rw[if_neg h2,if_neg h2,if_neg h1]
   rw[e]at F4
   exact⟨.next,_,H,G,hq,trivial,F4,(hs.set ha).set hb,R4,(((Step.kp R k1).trans (.kp R1 k2)).trans (.fs F2 R2 (fs3.mono fun z0=>Bp))).trans (.fs F3 R3 (fs4.mono fun z0=>Bp))⟩
end
end Mine
end
section
namespace Mine
end Mine
end
section
namespace Mine
theorem lN {H:AH}{a:Addr}{lk:Bool}{vs:List AV}{i:Nat}{v:AV}(ha:H a=some (.f (.lst lk vs)))(h:vs[i]? = some v):idx H (.ref a) (.int (i:Int))=some v:=by
 obtain⟨h1,h2⟩:=List.getElem?_eq_some_iff.mp h
 rw[Uu ha h1,h2]
section
variable {ρ:Rho} {H:AH} {f f1 f2 fs':PF} {c c':CF}
theorem Kz {v w:AV}(h1:f1 ρ H=some v)(h2:f2 ρ H=some w):Ex (Aa f1 (Aa f2 Ak)) ρ H=some (.tup [v,w]):=Om (Ac h1 (Ac h2 rfl)) (by rw[An];exact(by decide:2<=1048576))
theorem eK {i:Nat}{vs:List AV}(h:ρ i = .fl vs):vP i ρ H=some (.fl vs):=by unfold vP;rw[h]
structure Laid (n:Nat) (l:List Int) (W:Nat->Nat->Option Int):Prop where
 up:∀ u v,W u v ≠ none->u < v/\v < n
 on:∀ x ∈ l,∀ u v:Nat,u < v -> (x % (n:Int)=u /\ x / (n:Int) % (n:Int)=v \/ x % (n:Int)=v /\ x / (n:Int) % (n:Int)=u) -> W u v ≠ none
end
end Mine
end
section
namespace Mine
end Mine
end
section
namespace Mine
end Mine
end
section
namespace Mine
end Mine
end
section
namespace Mine
end Mine
end
section
namespace Mine
namespace L01
noncomputable def iA:Sc:={ vars:=[("a",0),("b",1)],cel:=[],globs:=[],top:=true }
noncomputable def fK:PF:=(opP (iop Es) (vP 0) (vP 1))
noncomputable def Kx:PG:=Em 2 fK
noncomputable def hY:Sc:={ vars:=[("a",0)],cel:=[],globs:=[],top:=true }
noncomputable def fJ:PF:=(inP (vP 0))
noncomputable def Vb:PG:=Em 1 fJ
noncomputable def Wf:Sc:={ vars:=[("a",0),("b",1)],cel:=[],globs:=[],top:=true }
noncomputable def Na:PF:=(opP (iop cL) (vP 0) (vP 1))
noncomputable def Iz:PG:=Em 2 Na
noncomputable def gZ:Sc:={ vars:=[("a",0),("b",1)],cel:=[],globs:=[],top:=true }
noncomputable def aZ:PF:=(opP (iop Bt) (vP 0) (vP 1))
noncomputable def Kv:PG:=Em 2 aZ
noncomputable def gY:Sc:={ vars:=[("a",0),("b",1)],cel:=[],globs:=[],top:=true }
noncomputable def fH:PF:=(opP (iop Fw) (vP 0) (vP 1))
noncomputable def Ku:PG:=Em 2 fH
noncomputable def gX:Sc:={ vars:=[("a",0)],cel:=[],globs:=[],top:=true }
noncomputable def fG:PF:=(negP (vP 0))
noncomputable def Kt:PG:=Em 1 fG
noncomputable def gW:Sc:={ vars:=[("a",0)],cel:=[],globs:=[],top:=true }
noncomputable def fF:PF:=(poP (vP 0))
noncomputable def Ol:PG:=Em 1 fF
noncomputable def gV:Sc:={ vars:=[("a",0),("b",1)],cel:=[],globs:=[],top:=true }
noncomputable def fC:PF:=(opP (iop subI) (vP 0) (vP 1))
noncomputable def Va:PG:=Em 2 fC
abbrev Mz:Addr:=28
abbrev Mu:Addr:=77
abbrev Mx:Addr:=56
abbrev Mw:Addr:=63
abbrev My:Addr:=35
abbrev Mv:Addr:=70
noncomputable def fnT (a:Addr):PG:=if a=Mz then Kx else if a=Mu then Va else if a=Mx then Ku else if a=Mw then Kt else if a=My then Vb else if a=Mv then Ol else fun z0 z0=>none
noncomputable def Oz:Sc:={ vars:=[("needs",0),("turn",1),("sorter",2),("waiting",3),("order",4)],cel:=[],globs:=["TopologicalSorter","list","len"],top:=true }
noncomputable def Uq:Wp AFlow:=(Bh 2 (Hm (Aa (vP 0) Ak) Vo))
noncomputable def Up (C:Cx):Wp AFlow:=(Bm (Eu C "prepare" (vP 2) Ak Nk))
noncomputable def Uo (C:Cx):Wp AFlow:=(Bh 3 (eR (Eu C "get_ready" (vP 2) Ak Fs)))
noncomputable def Un:Wp AFlow:=(Bh 4 (Ch (Ce Ak)))
noncomputable def Um (C:Cx):Wp AFlow:=(Fd (Bg (Aw neG (vP 3) (Ge (Ce Ak)))) (Ad (Bm (Oq (vP 4) (eQ (vP 3) (opP (iop Bt) (vP 1) (bP' Er (Aa (vP 3) Ak)))))) (Ad (Bm (Eu C "done" (vP 2) (Aa (opP idx (vP 4) (negP (cP (.int 1)))) Ak) Vp)) (Ad (Bm (fQ (vP 3) (Eu C "get_ready" (vP 2) Ak Fs))) Ai))) Ai)
noncomputable def Ul:Wp AFlow:=(Lg (Aq (vP 4)))
noncomputable def Gq (C:Cx):Wp AFlow :=
 (Ad Uq (Ad (Up C) (Ad (Uo C) (Ad Un (Ad (Um C) (Ad Ul Ai))))))
noncomputable def Ed (C:Cx):FW:=Cc (Eb 2) (Gq C)
noncomputable def Ic:Sc:={ vars:=[("kind",0),("size",1),("x",2),("y",3)],cel:=[],globs:=["add","sub","mul","neg","invert","pos","lshift"],top:=true }
noncomputable def Dt:PF:=(ifP (Aw ltV (vP 0) (cP (.int 3))) (callT fnT (opP idx (Ge (Ce (Aa (cP (.ref Mz)) (Aa (cP (.ref Mu)) (Aa (cP (.ref Mx)) Ak))))) (vP 0)) (Aa (vP 2) (Aa (vP 3) Ak))) (ifP (Aw ltV (vP 0) (cP (.int 6))) (callT fnT (opP idx (Ge (Ce (Aa (cP (.ref Mw)) (Aa (cP (.ref My)) (Aa (cP (.ref Mv)) Ak))))) (opP (iop subI) (vP 0) (cP (.int 3)))) (Aa (vP 2) Ak)) (Bi Iz (Aa (vP 2) (Aa (vP 1) Ak)))))
noncomputable def Ct:PG:=Em 4 Dt
noncomputable def Ie:Sc:={ vars:=[("kind",0),("size",1),("slope",2),("x",3),("y",4)],cel:=[],globs:=["neg","mul","pos","lshift"],top:=true }
noncomputable def Du:PF:=(ifP (Aw ltV (vP 0) (cP (.int 3))) (opP idx (Ge (Ce (Aa (Ex (Aa (vP 2) (Aa (vP 2) Ak))) (Aa (Ex (Aa (vP 2) (Aa (Bi Kt (Aa (vP 2) Ak)) Ak))) (Aa (Ex (Aa (Bi Ku (Aa (vP 2) (Aa (vP 4) Ak))) (Aa (Bi Ku (Aa (vP 2) (Aa (vP 3) Ak))) Ak))) Ak))))) (vP 0)) (ifP (Aw ltV (vP 0) (cP (.int 6))) (opP idx (Ge (Ce (Aa (Ex (Aa (Bi Kt (Aa (vP 2) Ak)) (Aa (cP (.int 0)) Ak))) (Aa (Ex (Aa (Bi Kt (Aa (vP 2) Ak)) (Aa (cP (.int 0)) Ak))) (Aa (Ex (Aa (Bi Ol (Aa (vP 2) Ak)) (Aa (cP (.int 0)) Ak))) Ak))))) (opP (iop subI) (vP 0) (cP (.int 3)))) (Ex (Aa (Bi Iz (Aa (vP 2) (Aa (vP 1) Ak))) (Aa (cP (.int 0)) Ak)))))
noncomputable def Cu:PG:=Em 5 Du
noncomputable def Oy:Sc:={ vars:=[("nodes",0),("leaves",1),("square",2),("moved",3),("step",4),("values",5),("kind",6),("a",7),("b",8),("size",9),("x",10),("y",11),("value",12)],cel:=["moved","step"],globs:=["enumerate","len"],top:=true }
noncomputable def Le:Sc:={ vars:=[("place",13),("x",14),("moved",3),("step",4)],cel:=["moved","step"],globs:=[],top:=false }
noncomputable def Uk:Wp AFlow:=(Bh 5 (Ch (Gb (enP (vP 1)) (.many [13,14]) ttC (Go (ifP (Aw eqV (vP 13) (vP 3)) (opP (iop Es) (vP 14) (vP 4)) (vP 14))) (.lst false []))))
noncomputable def Uj:Wp AFlow:=(Mq (Ja (Hf (vP 0)) (.many [6,7,8,9]) (Ad (eL 10 11 (Ex (Aa (opP idx (vP 5) (vP 7)) (Aa (opP idx (vP 5) (vP 8)) Ak)))) (Ad (Bh 12 (Aq (opP idx (Ge (Ce (Aa (opP (iop Es) (vP 10) (vP 11)) (Aa (opP (iop subI) (vP 10) (vP 11)) (Aa (opP (iop Fw) (vP 10) (vP 11)) (Aa (negP (vP 10)) (Aa (opP (iop subI) (negP (cP (.int 1))) (vP 10)) (Aa (vP 10) (Aa (opP (iop Fw) (vP 10) (opP (iop Np) (cP (.int 2)) (vP 9))) Ak))))))))) (vP 6)))) (Ad (Bm (Kd (vP 5) (opP (iop Bt) (ifP (Aw eqV (bP' Er (Aa (vP 5) Ak)) (vP 3)) (opP (iop Es) (vP 12) (vP 4)) (vP 12)) (vP 2)))) Ai)))))
noncomputable def Ui:Wp AFlow:=(Lg (Aq (vP 5)))
noncomputable def Gp:Wp AFlow :=
 (Ad Uk (Ad Uj (Ad Ui Ai)))
noncomputable def Ec:FW:=Cc (Eb 5) Gp
noncomputable def hJ:Sc:={ vars:=[("script",0),("nodes",1),("x",2),("count",3),("rest",4),("turn",5),("top",6),("tops",7),("leaves",8),("needs",9),("users",10),("node",11),("kind",12),("a",13),("b",14),("size",15),("one",16),("values",17),("slopes",18),("first",19),("second",20),("square",21),("plain",22),("moved",23)],cel:=["top"],globs:=["len","abs","sum","range","_law_order","mod","_law_worked_out","_law_given_back","add","_law_plain","enumerate"],top:=true }
noncomputable def Wh:Sc:={ vars:=[("place",24),("x",25),("top",6)],cel:=["top"],globs:=[],top:=false }
noncomputable def Wg:Sc:={ vars:=[("node",26)],cel:=[],globs:=[],top:=false }
noncomputable def st1:Wp AFlow:=(Bh 1 (Ch (Ce (Aa (Ex (Aa (cP (.int 2)) (Aa (cP (.int 0)) (Aa (cP (.int 1)) (Aa (cP (.int 1)) Ak))))) (Aa (Ex (Aa (cP (.int 1)) (Aa (cP (.int 2)) (Aa (cP (.int 3)) (Aa (cP (.int 1)) Ak))))) (Aa (Ex (Aa (cP (.int 2)) (Aa (cP (.int 4)) (Aa (cP (.int 4)) (Aa (cP (.int 1)) Ak))))) (Aa (Ex (Aa (cP (.int 0)) (Aa (cP (.int 5)) (Aa (cP (.int 3)) (Aa (cP (.int 1)) Ak))))) Ak)))))))
noncomputable def st2:Wp AFlow:=(Ja (Hf (vP 0)) (.one 2) (Ad (Bh 3 (Aq (opP (iop Es) (cP (.int 3)) (bP' Er (Aa (vP 1) Ak))))) (Ad (Bh 4 (Aq (opP (iop Hk) (opP (iop Hk) (vP 2) (cP (.int 7))) (vP 3)))) (Ad (Bm (Kd (vP 1) (Ex (Aa (opP (iop Bt) (vP 2) (cP (.int 7))) (Aa (opP (iop subI) (opP (iop subI) (vP 3) (cP (.int 1))) (opP (iop Bt) (opP (iop Hk) (vP 2) (cP (.int 7))) (vP 3))) (Aa (opP (iop Bt) (vP 4) (vP 3)) (Aa (opP (iop Es) (cP (.int 1)) (opP (iop Bt) (vP 4) (cP (.int 5)))) Ak))))))) Ai))))
noncomputable def st3:Wp AFlow:=(Bh 5 (Aq (bP' jL (Aa (bP' Ow (Aa (vP 0) Ak)) Ak))))
noncomputable def st4:Wp AFlow:=(Bh 3 (Aq (opP (iop Es) (cP (.int 3)) (bP' Er (Aa (vP 1) Ak)))))
noncomputable def st5:Wp AFlow:=(Bh 6 (Aq (opP (iop Es) (opP (iop Np) (cP (.int 10)) (cP (.int 6))) (opP (iop Bt) (vP 5) (opP (iop Np) (cP (.int 10)) (cP (.int 30)))))))
noncomputable def st6:Wp AFlow:=(Bh 7 (Ch (Ce (Aa (vP 6) (Aa (negP (vP 6)) Ak)))))
noncomputable def st7:Wp AFlow:=(Bh 8 (Ch (Ce (Aa (opP (iop Bt) (opP (iop Es) (cP (.int 2)) (vP 5)) (vP 6)) (Aa (negP (opP (iop Bt) (opP (iop Es) (cP (.int 3)) (opP (iop Hk) (vP 5) (cP (.int 7)))) (vP 6))) (Aa (opP (iop Bt) (opP (iop subI) (cP (.int 5)) (vP 5)) (vP 6)) Ak))))))
noncomputable def st8:Wp AFlow:=(Bh 9 (Ch eC))
noncomputable def st9:Wp AFlow:=(Bh 10 (Po (Pb (Aa (vP 3) Ak)) (.one 26) (Yz ttC) (.dic false []) fun D=>Vl (vP 26) (Zo (Ce Ak)) D))
noncomputable def gT:Wp AFlow:=(Ja (Pb (Aa (opP (iop subI) (vP 3) (cP (.int 1))) (Aa (cP (.int 2)) (Aa (negP (cP (.int 1))) Ak)))) (.one 11) (Ad (Xw (.many [12,13,14,15]) (Aq (opP idx (vP 1) (opP (iop subI) (vP 11) (cP (.int 3)))))) (Ad (Rf (Ch (ifM (Aw ltV (vP 12) (cP (.int 3))) (Ce (Aa (vP 13) (Aa (vP 14) Ak))) (Ce (Aa (vP 13) Ak)))) (vP 9) (vP 11)) (Ad (Mq (Ja (Hf (opP idx (vP 9) (vP 11))) (.one 16) (Ad (Bm (Kd (opP idx (vP 10) (vP 16)) (vP 11))) Ai))) Ai))))
noncomputable def jR:Wp AFlow:=(Bh 17 (Ch (Ce (Rj (Jo (vP 8)) (Jo (Ge (Ce (Sm (Jo (Ge (Ce (Aa (cP (.int 0)) Ak)))) (bP' Er (Aa (vP 1) Ak))))))))))
noncomputable def gS (C:Cx):Wp AFlow:=(aR (Hm (Aa (vP 9) (Aa (vP 5) Ak)) (Ed C)) (.one 11) (Ad (ifT (Bg (Aw gtG (vP 11) (cP (.int 2)))) (Ad (Xw (.many [12,13,14,15]) (Aq (opP idx (vP 1) (opP (iop subI) (vP 11) (cP (.int 3)))))) (Ad (Vx (Aq (Bi Kv (Aa (Bi Ct (Aa (vP 12) (Aa (vP 15) (Aa (opP idx (vP 17) (vP 13)) (Aa (opP idx (vP 17) (vP 14)) Ak))))) (Aa (opP idx (vP 7) (opP (iop Bt) (vP 11) (cP (.int 2)))) Ak)))) (vP 17) (vP 11)) Ai)) Ai) Ai))
noncomputable def jQ:Wp AFlow:=(Bh 18 (Ch (Ce (Sm (Jo (Ge (Ce (Aa (cP (.int 1)) Ak)))) (vP 3)))))
noncomputable def gR (C:Cx):Wp AFlow:=(aR (Hm (Aa (vP 10) (Aa (vP 5) Ak)) (Ed C)) (.one 11) (Ad (ifT (Bg (Aw gtG (vP 11) (cP (.int 2)))) (Ad (Xw (.many [12,13,14,15]) (Aq (opP idx (vP 1) (opP (iop subI) (vP 11) (cP (.int 3)))))) (Ad (Xw (.many [19,20]) (Aq (Bi Cu (Aa (vP 12) (Aa (vP 15) (Aa (opP idx (vP 18) (vP 11)) (Aa (opP idx (vP 17) (vP 13)) (Aa (opP idx (vP 17) (vP 14)) Ak)))))))) (Ad (Vx (Aq (Bi Kv (Aa (Bi Kx (Aa (opP idx (vP 18) (vP 13)) (Aa (vP 19) Ak))) (Aa (opP idx (vP 7) (opP (iop Bt) (vP 13) (cP (.int 2)))) Ak)))) (vP 18) (vP 13)) (Ad (Vx (Aq (Bi Kv (Aa (Bi Kx (Aa (opP idx (vP 18) (vP 14)) (Aa (vP 20) Ak))) (Aa (opP idx (vP 7) (opP (iop Bt) (vP 14) (cP (.int 2)))) Ak)))) (vP 18) (vP 14)) Ai)))) Ai) Ai))
noncomputable def gQ:Wp AFlow:=(Bh 21 (Aq (opP (iop Fw) (vP 6) (vP 6))))
noncomputable def gP:Wp AFlow:=(Bh 22 (Hm (Aa (vP 1) (Aa (vP 8) (Aa (vP 21) (Aa (negP (cP (.int 1))) (Aa (cP (.int 0)) Ak))))) Ec))
noncomputable def gN:Wp AFlow:=(ifT (Bg (Aw neG (vP 17) (Ge (Gb (enP (vP 22)) (.many [24,25]) ttC (Go (ifP (Aw eqV (opP (iop Bt) (vP 24) (cP (.int 2))) (cP (.int 1))) (negP (opP (iop Bt) (negP (vP 25)) (vP 6))) (opP (iop Bt) (vP 25) (vP 6)))) (.lst false []))))) (Ad (Lg (Aq (cP (.bool false)))) Ai) Ai)
noncomputable def gM:Wp AFlow:=(Ja (Pb (Aa (vP 3) Ak)) (.one 11) (Ad (Bh 23 (Hm (Aa (vP 1) (Aa (vP 8) (Aa (vP 21) (Aa (vP 11) (Aa (vP 6) Ak))))) Ec)) (Ad (ifT (Bg (Aw neG (opP (iop Bt) (opP (iop subI) (bP' Ow (Aa (vP 23) Ak)) (bP' Ow (Aa (vP 22) Ak))) (vP 21)) (opP (iop Bt) (opP (iop Fw) (vP 6) (opP idx (vP 18) (vP 11))) (vP 21)))) (Ad (Lg (Aq (cP (.bool false)))) Ai) Ai) Ai)))
noncomputable def gL:Wp AFlow:=(Lg (Aq (cP (.bool true))))
noncomputable def bY (C:Cx):Wp AFlow :=
 (Ad st1 (Ad st2 (Ad st3 (Ad st4 (Ad st5 (Ad st6 (Ad st7 (Ad st8 (Ad st9 (Ad gT (Ad jR (Ad (gS C) (Ad jQ (Ad (gR C) (Ad gQ (Ad gP (Ad gN (Ad gM (Ad gL Ai)))))))))))))))))))
noncomputable def bX (C:Cx):FW:=Cc (Eb 1) (bY C)
end L01
end Mine
end
section
namespace Mine
noncomputable def nL (l:List Nat):List Int:=l.map fun (j:Nat)=>(j:Int)
theorem HS.cons {As:List Addr}{os:List AObj}{H:AH}{b:Addr}{o:AObj}(h:HS As os H)(hb:H b=none):HS (b :: As) (o :: os) (upd H b o):=by
 have hn:b ∉ As:=fun q=>by obtain⟨o,e⟩:=h.mem q;rw[hb]at e;exact nqa e
 refine⟨List.nodup_cons.mpr ⟨hn,h.nd⟩,congrArg Nat.succ h.ln,fun i a o' ha ho=>?_⟩
 cases i with
 | zero=>rw[<- Option.some.inj ha,<- Option.some.inj ho];exact Af
 | succ i=>exact(h.fresh hb).at' i a o' ha ho
structure Srs (n:Nat) (pre:Nat->List Nat) (rk:Nat->Nat):Prop where
 lt:∀ k,k < n->∀ j ∈ pre k,j < n
 ln:∀ k,k < n->(pre k).length<=n
 rk:∀ k,k < n->∀ j ∈ pre k,rk j < rk k
 n60:n<=60
inductive SRd (n:Nat) (pre:Nat->List Nat) (S:SState):Prop
 | mk (pr:Int->List Int) (r:List Int) (P1:∀ k:Nat,k < n->pr k=nL (pre k)) (P2:∀ x,(∀ k:Nat,k < n->x ≠ (k:Int))->pr x=[]) (I:SState.I pr S [] [] r) (bd:S.Bd (121 * n))
  (k10:∀ x ∈ S.keys,∃ k:Nat,k < n/\x=(k:Int)) (all:∀ k:Nat,k < n->(k:Int) ∈ S.keys)
end Mine
end
section
namespace Mine
namespace L01
noncomputable def sm (f:Nat->Int) (n:Nat):Int:=Nat.rec 0 (fun i s=>s + f i) n
theorem smS {f:Nat->Int}{n:Nat}:sm f (n + 1)=sm f n + f n:=rfl
theorem Cm {f g:Nat->Int}:∀ {n:Nat},(∀ i,i < n->f i=g i)->sm f n=sm g n
 | 0,_=>rfl
 | n + 1,h=>by rw[smS,smS,Cm fun i hi=>h i (Nat.lt_succ_of_lt hi),h n (Nat.lt_succ_self n)]
theorem sm_add {f g:Nat->Int}:∀ {n:Nat},sm (fun i=>f i + g i) n=sm f n + sm g n
 | 0=>rfl
 | n + 1=>by rw[smS,smS,smS,sm_add];exact Ar.y143
theorem Jm {f:Nat->Int}{c:Int}:∀ {n:Nat},sm (fun i=>c * f i) n=c * sm f n
 | 0=>(Int.mul_zero c).symm
 | n + 1=>by rw[smS,smS,Jm,Int.mul_add]
theorem sm_zero:∀ {n:Nat},sm (fun _=>0) n=0
 | 0=>rfl
 | n + 1=>by rw[smS,sm_zero];rfl
theorem Ub {f:Nat->Nat->Int}{n:Nat}:∀ {m:Nat},sm (fun i=>sm (fun j=>f i j) n) m=sm (fun j=>sm (fun i=>f i j) m) n
 | 0=>sm_zero.symm
 | m + 1=>by
  rw[smS,Ub]
  exact sm_add.symm
theorem Sb {f:Nat->Int}{k:Nat}:∀ {n:Nat},sm (fun i=>if i=k then f i else 0) n=if k < n then f k else 0
 | 0=>(if_neg (Nat.not_lt_zero k)).symm
 | n + 1=>by
  rw[smS,Sb]
  by_cases e:n=k
  ·rw[if_pos e,<- e,if_neg (Nat.lt_irrefl n),if_pos (Nat.lt_succ_self n),Int.zero_add]
  ·rw[if_neg e,Int.add_zero]
   by_cases h:k < n
   ·rw[if_pos h,if_pos (Nat.lt_succ_of_lt h)]
   ·rw[if_neg h,if_neg fun q=>h (Nat.lt_of_le_of_ne (Nat.le_of_lt_succ q) (Ne.symm e))]
theorem Lx {f:Nat->Int}:∀ {n:Nat},sm f (3 + n)=sm f 3 + sm (fun k=>f (3 + k)) n
 | 0=>(Int.add_zero _).symm
 | n + 1=>by
  show sm f (3 + n) + f (3 + n)=sm f 3 + (sm (fun k=>f (3 + k)) n + f (3 + n))
  rw[Lx,Int.add_assoc]
noncomputable def Cg (M x y:Int):Prop:=∃ q,x=y + M * q
section
variable {M x y z x' y':Int}
theorem Cg.refl (x:Int):Cg M x x:=⟨0,by rw[Int.mul_zero,Int.add_zero]⟩
theorem Cg.of (h:x=y):Cg M x y:=h ▸ .refl x
theorem Cg.symm (h:Cg M x y):Cg M y x:=by
 obtain⟨q,rfl⟩:=h
 exact⟨-q,by rw[Int.mul_neg];exact Ar.y136⟩
theorem Cg.trans (h:Cg M x y)(h':Cg M y z):Cg M x z:=by
 obtain⟨q,rfl⟩:=h;obtain⟨r,rfl⟩:=h'
 exact⟨r + q,by rw[Int.mul_add];exact Ar.y138⟩
theorem Cg.add (h:Cg M x y)(h':Cg M x' y'):Cg M (x + x') (y + y'):=by
 obtain⟨q,rfl⟩:=h;obtain⟨r,rfl⟩:=h'
 exact⟨q + r,by rw[Int.mul_add];exact Ar.y143⟩
theorem Cg.neg (h:Cg M x y):Cg M (-x) (-y):=by
 obtain⟨q,rfl⟩:=h
 exact⟨-q,by rw[Int.mul_neg];exact Ar.y132⟩
theorem Cg.sub (h:Cg M x y)(h':Cg M x' y'):Cg M (x - x') (y - y'):=by
 rw[Int.sub_eq_add_neg,Int.sub_eq_add_neg];exact h.add h'.neg
theorem Cg.mul (h:Cg M x y)(h':Cg M x' y'):Cg M (x * x') (y * y'):=by
 obtain⟨q,rfl⟩:=h;obtain⟨r,rfl⟩:=h'
 refine⟨y * r + q * y' + M * (q * r),?_⟩
 rw[Int.add_mul,Int.mul_add,Int.mul_add,Int.mul_add,Int.mul_add]
 have e1:y * (M * r)=M * (y * r):=by rw[<- Int.mul_assoc,Int.mul_comm y M,Int.mul_assoc]
 have e2:M * q * y' = M * (q * y'):=Int.mul_assoc ..
 have e3:M * q * (M * r)=M * (M * (q * r)):=by rw[Int.mul_assoc,<- Int.mul_assoc q M r,Int.mul_comm q M,Int.mul_assoc M q r]
 rw[e1,e2,e3];exact Ar.y141
theorem Cg.mod:Cg M (x % M) x:=⟨-(x / M),by
 have:=Int.emod_add_mul_ediv x M
 rw[Int.mul_neg];exact Ar.y137 this⟩
theorem Cg.emod (h:Cg M x y):x % M=y % M:=by
 obtain⟨q,rfl⟩:=h
 exact Int.add_mul_emod_self_left ..
theorem Cg.of_mul {T:Int}(h:Cg (T * T) x y):Cg T x y:=by
 obtain⟨q,rfl⟩:=h
 exact⟨T * q,by rw[Int.mul_assoc]⟩
theorem Cg.scale {T:Int}(h:Cg T x y):Cg (T * T) (T * x) (T * y):=by
 obtain⟨q,rfl⟩:=h
 exact⟨q,by rw[Int.mul_add,Int.mul_assoc]⟩
theorem Qb {f g:Nat->Int}:∀ {n:Nat},(∀ i,i < n->Cg M (f i) (g i))->Cg M (sm f n) (sm g n)
 | 0,_=>.refl _
 | n + 1,h=>(Qb fun i hi=>h i (Nat.lt_succ_of_lt hi)).add (h n (Nat.lt_succ_self n))
end
structure Nd where
 k:Nat
 a:Nat
 b:Nat
 z:Nat
noncomputable def op (n:Nd) (x y:Int):Int:=[x + y,x - y,x * y,-x,-1 - x,x,x * 2 ^ n.z].getD n.k 0
noncomputable def da (n:Nd) (x y:Int):Int:=[1,1,y,-1,-1,1,2 ^ n.z].getD n.k 0
noncomputable def db (n:Nd) (x y:Int):Int:=[1,-1,x,0,0,0,0].getD n.k 0
theorem kd {P:Nat->Prop}{k:Nat}(h:k < 7)(h0:P 0)(h1:P 1)(h2:P 2)(h3:P 3)(h4:P 4)(h5:P 5)(h6:P 6):P k:=by
 match k,h with
 | 0,_=>exact h0
 | 1,_=>exact h1
 | 2,_=>exact h2
 | 3,_=>exact h3
 | 4,_=>exact h4
 | 5,_=>exact h5
 | 6,_=>exact h6
theorem Ze {M x y x' y':Int}{n:Nd}(hk:n.k < 7)(h:Cg M x x')(h':Cg M y y'):Cg M (op n x y) (op n x' y'):=by
 unfold op
 refine kd (P:=fun k=>Cg M ([x + y,x - y,x * y,-x,-1 - x,x,x * 2 ^ n.z].getD k 0) ([x' + y',x' - y',x' * y',-x',-1 - x',x',x' * 2 ^ n.z].getD k 0)) hk (h.add h') (h.sub h') (h.mul h') h.neg ((Cg.refl (-1)).sub h) h (h.mul (.refl _))
theorem kT {M x y x' y':Int}{n:Nd}(hk:n.k < 7)(h':Cg M y y'):Cg M (da n x y) (da n x' y'):=by
 unfold da
 exact kd (P:=fun k=>Cg M ([1,1,y,-1,-1,1,2 ^ n.z].getD k 0) ([1,1,y',-1,-1,1,2 ^ n.z].getD k 0)) hk (.refl _) (.refl _) h' (.refl _) (.refl _) (.refl _) (.refl _)
theorem kS {M x y x' y':Int}{n:Nd}(hk:n.k < 7)(h:Cg M x x'):Cg M (db n x y) (db n x' y'):=by
 unfold db
 exact kd (P:=fun k=>Cg M ([1,-1,x,0,0,0,0].getD k 0) ([1,-1,x',0,0,0,0].getD k 0)) hk (.refl _) (.refl _) h (.refl _) (.refl _) (.refl _) (.refl _)
theorem kR {n:Nd}(hk:n.k < 7)(h:¬ n.k < 3){x y:Int}:db n x y=0:=by
 unfold db
 revert h
 exact kd (P:=fun k=>¬ k < 3->[1,-1,x,0,0,0,0].getD k 0=0) hk (fun h=>absurd (by decide) h) (fun h=>absurd (by decide) h) (fun h=>absurd (by decide) h) (fun _=>rfl) (fun _=>rfl) (fun _=>rfl) fun _=>rfl
theorem cR {T x y u v:Int}{n:Nd}(hk:n.k < 7):Cg (T * T) (op n (x + T * u) (y + T * v)) (op n x y + T * (da n x y * u + db n x y * v)):=by
 unfold op da db
 refine kd (P:=fun k=>Cg (T * T) ([(x + T * u) + (y + T * v),(x + T * u) - (y + T * v),(x + T * u) * (y + T * v),-(x + T * u),-1 - (x + T * u),(x + T * u),(x + T * u) * 2 ^ n.z].getD k 0) ([x + y,x - y,x * y,-x,-1 - x,x,x * 2 ^ n.z].getD k 0 + T * ([1,1,y,-1,-1,1,2 ^ n.z].getD k 0 * u + [1,-1,x,0,0,0,0].getD k 0 * v))) hk ?_ ?_ ?_ ?_ ?_ ?_ ?_
 ·refine .of (?_:x + T * u + (y + T * v)=x + y + T * (1 * u + 1 * v))
  rw[Int.one_mul,Int.one_mul,Int.mul_add];exact Ar.y143
 ·refine .of (?_:x + T * u - (y + T * v)=x - y + T * (1 * u + -1 * v))
  rw[Int.one_mul,Int.mul_add,Int.neg_mul,Int.one_mul,Int.mul_neg];exact Ar.y144
 ·refine⟨u * v,(?_:(x + T * u) * (y + T * v)=x * y + T * (y * u + x * v) + T * T * (u * v))⟩
  rw[Int.add_mul,Int.mul_add,Int.mul_add,Int.mul_add]
  have e1:x * (T * v)=T * (x * v):=by rw[<- Int.mul_assoc,Int.mul_comm x T,Int.mul_assoc]
  have e2:T * u * y=T * (y * u):=by rw[Int.mul_assoc,Int.mul_comm u y]
  have e3:T * u * (T * v)=T * T * (u * v):=by rw[Int.mul_assoc,<- Int.mul_assoc u T v,Int.mul_comm u T,Int.mul_assoc T u v,Int.mul_assoc]
  rw[e1,e2,e3];exact Ar.y142
 ·refine .of (?_:-(x + T * u) = -x + T * (-1 * u + 0 * v))
  rw[Int.zero_mul,Int.add_zero,Int.neg_mul,Int.one_mul,Int.mul_neg];exact Ar.y132
 ·refine .of (?_:-1 - (x + T * u) = -1 - x + T * (-1 * u + 0 * v))
  rw[Int.zero_mul,Int.add_zero,Int.neg_mul,Int.one_mul,Int.mul_neg];exact Ar.y133
 ·refine .of (?_:x + T * u=x + T * (1 * u + 0 * v))
  rw[Int.zero_mul,Int.add_zero,Int.one_mul]
 ·refine .of (?_:(x + T * u) * 2 ^ n.z=x * 2 ^ n.z + T * (2 ^ n.z * u + 0 * v))
  rw[Int.zero_mul,Int.add_zero,Int.add_mul,Int.mul_assoc,Int.mul_comm u]
structure Fm (n:Nat) (nd:Nat->Nd):Prop where
 k:∀ j,j < n->(nd j).k < 7
 a:∀ j,j < n->(nd j).a < 3 + j
 b:∀ j,j < n->(nd j).b < 3 + j
 z:∀ j,j < n->(nd j).z<=5
structure Pv (n:Nat) (nd:Nat->Nd) (lf:Nat->Int) (S m st:Int) (V:Nat->Int):Prop where
 leaf:∀ i,i < 3->V i=lf i + if (i:Int)=m then st else 0
 node:∀ j,j < n -> V (3 + j)=(op (nd j) (V (nd j).a) (V (nd j).b) + if ((3 + j:Nat):Int)=m then st else 0) % S
structure Tg (n:Nat) (nd:Nat->Nd) (V:Nat->Int) (m:Nat) (t:Nat->Int):Prop where
 leaf:∀ i,i < 3->t i=if i=m then 1 else 0
 node:∀ j,j < n->t (3 + j)=(if 3 + j=m then 1 else 0) + (da (nd j) (V (nd j).a) (V (nd j).b) * t (nd j).a + db (nd j) (V (nd j).a) (V (nd j).b) * t (nd j).b)
section
variable {n m:Nat} {nd:Nat->Nd} {lf:Nat->Int} {T:Int} {V V' t s:Nat->Int}
theorem lG (F:Fm n nd)(V:Nat->Int)(m:Nat):∃ t,Tg n nd V m t:=by
 have main:∀ k,k<=n->∃ t,Tg k nd V m t:=by
  intro k
  induction k with
  | zero=>intro _;exact⟨fun i=>if i=m then 1 else 0,fun i _=>rfl,fun j h=>absurd h (Nat.not_lt_zero j)⟩
  | succ k ih =>
   intro hk
   obtain⟨t,h1,h2⟩:=ih (Nat.le_of_succ_le hk)
   obtain⟨t2,low,top⟩:∃ t2:Nat->Int,(∀ i,i < 3 + k->t2 i=t i)/\t2 (3 + k)=(if 3 + k=m then 1 else 0) + (da (nd k) (V (nd k).a) (V (nd k).b) * t (nd k).a + db (nd k) (V (nd k).a) (V (nd k).b) * t (nd k).b) :=
    ⟨fun i=>if i=3 + k then (if 3 + k=m then 1 else 0) + (da (nd k) (V (nd k).a) (V (nd k).b) * t (nd k).a + db (nd k) (V (nd k).a) (V (nd k).b) * t (nd k).b) else t i,fun i hi=>if_neg (Nat.ne_of_lt hi),if_pos rfl⟩
   refine⟨t2,fun i hi=>(low i (by exact Ar.y86 hi)).trans (h1 i hi),fun j hj=>?_⟩
   have la:=low (nd j).a (by have:=F.a j (by exact Ar.y24 hk hj);exact Ar.y82 hj this)
   have lb:=low (nd j).b (by have:=F.b j (by exact Ar.y24 hk hj);exact Ar.y82 hj this)
   rw[la,lb]
   by_cases e:j=k
   ·rw[e];exact top
   ·have hj':j < k:=by exact Ar.y80 hj e
    rw[low (3 + j) (by exact Ar.y103 hj')]
    exact h2 j hj'
 exact main n (Nat.le_refl n)
theorem kF (F:Fm n nd)(p:Pv n nd lf (T * T) (-1) 0 V)(p':Pv n nd lf (T * T) (m:Int) T V')(g:Tg n nd V m t):∀ i,i < 3 + n->Cg (T * T) (V' i) (V i + T * t i):=by
 intro i
 have one:∀ {i:Nat},(if (i:Int)=(m:Int) then T else 0)=T * (if i=m then 1 else 0):=fun {i}=>by
  by_cases e:i=m
  ·rw[if_pos e,if_pos (by rw[e]),Int.mul_one]
  ·rw[if_neg e,if_neg (show ¬(i:Int)=(m:Int) from fun q=>e (Int.ofNat.inj q)),Int.mul_zero]
 have no:∀ {i:Nat},(if (i:Int) = -1 then (0:Int) else 0)=0:=fun {i}=>ite_self _
 induction i using Nat.strongRecOn with
 | ind i ih =>
  intro hi
  by_cases h:i < 3
  ·rw[p'.leaf i h,p.leaf i h,g.leaf i h,one,no,Int.add_zero];exact .refl _
  ·obtain⟨j,rfl⟩:∃ j,i=3 + j:=⟨i - 3,by exact Ar.y61 h⟩
   have hj:j < n:=by exact Ar.y76 hi
   have ha:=F.a j hj
   have hb:=F.b j hj
   rw[p'.node j hj,p.node j hj,g.node j hj,one,no,Int.add_zero]
   refine Cg.mod.trans ?_
   have h1:=Ze (F.k j hj) (ih _ ha (by exact Ar.y101 hj ha)) (ih _ hb (by exact Ar.y101 hj hb))
   refine(h1.add (.refl _)).trans ?_
   refine((cR (F.k j hj)).add (.refl _)).trans ?_
   refine(Cg.of (?_:_=op (nd j) (V (nd j).a) (V (nd j).b) + T * ((if 3 + j=m then 1 else 0) + (da (nd j) (V (nd j).a) (V (nd j).b) * t (nd j).a + db (nd j) (V (nd j).a) (V (nd j).b) * t (nd j).b)))).trans (Cg.mod.symm.add (.refl _))
   rw[Int.mul_add T (if 3 + j=m then 1 else 0)];exact Ar.y139
noncomputable def cb (nd:Nat->Nd) (W:Nat->Int) (k j:Nat):Int:=(if j=(nd k).a then da (nd k) (W (nd k).a) (W (nd k).b) else 0) + if j=(nd k).b then db (nd k) (W (nd k).a) (W (nd k).b) else 0
noncomputable def Sl (n:Nat) (nd:Nat->Nd) (W:Nat->Int) (T:Int) (s:Nat->Int):Prop:=∀ j,j < 3 + n->Cg T (s j) (1 + sm (fun k=>s (3 + k) * cb nd W k j) n)
theorem Ov {f:Nat->Int}{k N:Nat}(h:k < N):sm (fun i=>f i * if i=k then 1 else 0) N=f k:=by
 have:sm (fun i=>f i * if i=k then 1 else 0) N=sm (fun i=>if i=k then f i else 0) N:=Cm fun i _=>by
  by_cases e:i=k
  ·rw[if_pos e,if_pos e,Int.mul_one]
  ·rw[if_neg e,if_neg e,Int.mul_zero]
 rw[this,Sb,if_pos h]
theorem adj (F:Fm n nd)(g:Tg n nd V m t)(hs:Sl n nd V T s)(hm:m < 3 + n):Cg T (sm t (3 + n)) (s m):=by
 have h1:Cg T (sm t (3 + n)) (sm (fun i=>t i * s i + -1 * sm (fun k=>s (3 + k) * (cb nd V k i * t i)) n) (3 + n)):=by
  refine Qb fun i hi=>?_
  have h:=(hs i hi).sub (.refl (sm (fun k=>s (3 + k) * cb nd V k i) n))
  have h2:=((Cg.refl (M:=T) (t i)).mul h).symm
  have e1:t i * (1 + sm (fun k=>s (3 + k) * cb nd V k i) n - sm (fun k=>s (3 + k) * cb nd V k i) n)=t i:=by
   rw[Int.add_sub_cancel,Int.mul_one]
  rw[e1]at h2
  refine h2.trans (.of ?_)
  rw[Int.mul_sub,Int.sub_eq_add_neg,Int.neg_mul,Int.one_mul,<- Jm]
  refine congrArg (fun z=>t i * s i + -z) (Cm fun k _=>?_)
  rw[Int.mul_comm (t i),Int.mul_assoc]
 refine h1.trans ?_
 have h3:sm (fun i=>sm (fun k=>s (3 + k) * (cb nd V k i * t i)) n) (3 + n)=sm (fun k=>s (3 + k) * (t (3 + k) + -1 * if 3 + k=m then 1 else 0)) n:=by
  rw[Ub]
  refine Cm fun k hk=>?_
  rw[Jm]
  refine congrArg _ ?_
  have ha:=F.a k hk
  have hb:=F.b k hk
  have e:sm (fun i=>cb nd V k i * t i) (3 + n)=da (nd k) (V (nd k).a) (V (nd k).b) * t (nd k).a + db (nd k) (V (nd k).a) (V (nd k).b) * t (nd k).b:=by
   have e1:sm (fun i=>cb nd V k i * t i) (3 + n)=sm (fun i=>(da (nd k) (V (nd k).a) (V (nd k).b) * t i) * (if i=(nd k).a then 1 else 0) + (db (nd k) (V (nd k).a) (V (nd k).b) * t i) * (if i=(nd k).b then 1 else 0)) (3 + n):=Cm fun i _=>by
    unfold cb
    rw[Int.add_mul]
    refine congr (congrArg HAdd.hAdd ?_) ?_
    ·by_cases q:i=(nd k).a
     ·rw[if_pos q,if_pos q,Int.mul_one]
     ·rw[if_neg q,if_neg q,Int.mul_zero,Int.zero_mul]
    ·by_cases q:i=(nd k).b
     ·rw[if_pos q,if_pos q,Int.mul_one]
     ·rw[if_neg q,if_neg q,Int.mul_zero,Int.zero_mul]
   rw[e1,sm_add,Ov (f:=fun i=>da (nd k) (V (nd k).a) (V (nd k).b) * t i) (by exact Ar.y101 hk ha),Ov (f:=fun i=>db (nd k) (V (nd k).a) (V (nd k).b) * t i) (by exact Ar.y101 hk hb)]
  rw[e,g.node k hk]
  omega
 refine .of ?_
 rw[sm_add,Jm,h3,Lx]
 have e4:sm (fun i=>t i * s i) 3=sm (fun i=>s i * if i=m then 1 else 0) 3:=Cm fun i hi=>by rw[g.leaf i hi,Int.mul_comm]
 have e5:sm (fun k=>s (3 + k) * (t (3 + k) + -1 * if 3 + k=m then 1 else 0)) n=sm (fun k=>t (3 + k) * s (3 + k)) n + -1 * sm (fun k=>s (3 + k) * if 3 + k=m then 1 else 0) n:=by
  rw[<- Jm,<- sm_add]
  refine Cm fun k _=>?_
  rw[Int.mul_add,Int.mul_comm (s (3 + k)) (t (3 + k)),Int.neg_mul,Int.one_mul,Int.neg_mul,Int.one_mul,Int.mul_neg]
 have e6:=Lx (f:=fun i=>s i * if i=m then 1 else 0) (n:=n)
 rw[Ov hm]at e6
 rw[e4,e5]
 omega
theorem Vv (F:Fm n nd) (p:Pv n nd lf (T * T) (-1) 0 V) (p':Pv n nd lf (T * T) (m:Int) T V') (hs:Sl n nd V T s) (hm:m < 3 + n):(sm V' (3 + n) - sm V (3 + n)) % (T * T)=T * s m % (T * T):=by
 obtain⟨t,g⟩:=lG F V m
 refine Cg.emod ?_
 have h1:Cg (T * T) (sm V' (3 + n)) (sm V (3 + n) + T * sm t (3 + n)):=by
  have:=Qb (kF F p p' g)
  rw[sm_add,Jm]at this;exact this
 have h2:=(h1.sub (.refl (sm V (3 + n)))).trans (.of (?_:_=T * sm t (3 + n)))
 ·exact h2.trans (adj F g hs hm).scale
 ·exact Ar.y135
theorem Sl.cg {W:Nat->Int}(F:Fm n nd)(hs:Sl n nd W T s)(h:∀ i,i < 3 + n->Cg T (W i) (V i)):Sl n nd V T s:=by
 intro j hj
 refine(hs j hj).trans ((Cg.refl 1).add (Qb fun k hk=>(Cg.refl (s (3 + k))).mul ?_))
 have ha:=F.a k hk
 have hb:=F.b k hk
 unfold cb
 refine Cg.add ?_ ?_
 ·by_cases q:j=(nd k).a
  ·rw[if_pos q,if_pos q];exact kT (F.k k hk) (h _ (by exact Ar.y101 hk hb))
  ·rw[if_neg q,if_neg q];exact .refl _
 ·by_cases q:j=(nd k).b
  ·rw[if_pos q,if_pos q];exact kS (F.k k hk) (h _ (by exact Ar.y101 hk ha))
  ·rw[if_neg q,if_neg q];exact .refl _
end
end L01
end Mine
end
section
namespace Mine
namespace SState
theorem I.getReady2 {pre:Int->List Int}{S:SState}{D O r:List Int}(h:I pre S D O r):I pre (S.getReady r) D (O++r) []/\(S.getReady r).keys=S.keys:=by
 refine Ag fun PP ret=>?_
 obtain⟨h1,h2,h3,h4⟩:=outs r (S:=S) (fun k hk=>((h.rm k).mp hk).1)
 refine ret ?_
 refine⟨⟨?_,fun k hk hD hO=>?_,fun k hk=>?_,fun p k=>?_,fun k p hp=>?_,fun k hk=>?_,rfl,List.nodup_nil,fun x=>?_,?_,?_,?_⟩,h2⟩
 ·refine(?_:(r.foldl SState.out S).keys.Nodup);rw[h2];exact h.kn
 ·refine(?_:(r.foldl SState.out S).np k=_)
  rw[(h1 k).1,if_neg fun q=>hO (List.mem_append_right _ q)]
  have hk':k ∈ S.keys:=by rw[<- h2];exact hk
  exact h.np k hk' hD fun q=>hO (List.mem_append_left _ q)
 ·refine(?_:(r.foldl SState.out S).np k=_)
  rw[(h1 k).1]
  by_cases q:k ∈ r
  ·rw[if_pos q]
  ·rw[if_neg q];exact h.npO k ((List.mem_append.mp hk).resolve_right q)
 ·refine(?_:((r.foldl SState.out S).sc p).count k=_)
  rw[(h1 p).2];exact h.sc p k
 ·refine(?_:p ∈ (r.foldl SState.out S).keys/\k ∈ (r.foldl SState.out S).keys)
  rw[h2];exact h.pk k p hp
 ·refine(?_:k ∈ (r.foldl SState.out S).keys/\_)
  rw[h2]
  rcases hk with hk | hk
  ·exact h.dk k (.inl hk)
  ·rcases List.mem_append.mp hk with q | q
   ·exact h.dk k (.inr q)
   ·have:=(h.rm k).mp q;exact⟨this.1,this.2.2.2⟩
 ·refine(?_:x ∈ [] <-> x ∈ (r.foldl SState.out S).keys/\_)
  rw[h2]
  constructor
  ·intro q;exact absurd q List.not_mem_nil
  ·rintro⟨q1,q2,q3,q4⟩
   exact absurd ((h.rm x).mpr ⟨q1,q2,fun q=>q3 (List.mem_append_left _ q),q4⟩) fun q=>q3 (List.mem_append_right _ q)
 ·rw[<- List.append_assoc,List.nodup_append]
  refine⟨h.dn,h.rn,fun u hu v hv e=>?_⟩
  have hv:=(h.rm v).mp hv
  rw[e]at hu
  rcases List.mem_append.mp hu with q | q
  ·exact hv.2.1 q
  ·exact hv.2.2.1 q
 ·refine(?_:S.passed + r.length=_)
  rw[h.ps,List.length_append];exact Ar.y169
 ·refine(?_:(r.foldl SState.out S).fin=_)
  rw[h4];exact h.fn
theorem B.addG {pre:Int->List Int}{S:SState}(h:B pre S){k:Int}{ps:List Int}:B (fun j=>if j=k then pre j++ps else pre j) (S.add k ps):=by
 obtain⟨h1,h2,h3,h4,h5,h6⟩:=add_facts (S:=S) (k:=k) (ps:=ps)
 refine⟨h3 h.kn,fun j=>?_,fun p j=>?_,fun j p hp=>?_,h4.trans h.rd,h5.trans h.ps,h6.trans h.fn⟩
 ·rw[(h1 j).1,h.np j]
  by_cases e:j=k
  ·rw[if_pos e,if_pos e,List.length_append,Int.natCast_add]
  ·rw[if_neg e,if_neg e,Int.add_zero]
 ·rw[(h1 p).2,List.count_append,h.sc p j,List.count_replicate]
  by_cases e:j=k
  ·rw[if_pos e,e,List.count_append,beq_self_eq_true,if_pos rfl]
  ·have:(k == j)=false:=by simp;exact fun q=>e q.symm
   rw[if_neg e,this];rfl
 ·rw[h2,h2]
  by_cases e:j=k
  ·rw[if_pos e]at hp
   rcases List.mem_append.mp hp with hp | hp
   ·exact⟨.inl (h.pk j p hp).1,.inl (h.pk j p hp).2⟩
   ·exact⟨.inr (.inr hp),.inr (.inl e)⟩
  ·rw[if_neg e]at hp
   exact⟨.inl (h.pk j p hp).1,.inl (h.pk j p hp).2⟩
noncomputable def prG (es:GEs) (pr:Int->List Int):Int->List Int:=es.foldl (fun pr p=>fun j=>if j=p.1 then pr j++p.2.2 else pr j) pr
theorem B.foldG:∀ (es:GEs) {pre:Int->List Int} {S:SState},B pre S->B (prG es pre) (es.foldl (fun S p=>S.add p.1 p.2.2) S)
 | [],_,_,h=>h
 | p :: es,_,_,h=>B.foldG es (h.addG (k:=p.1) (ps:=p.2.2))
theorem prG_mem {p k:Int}:∀ (es:GEs) {pre:Int->List Int},p ∈ prG es pre k <-> p ∈ pre k\/∃ e ∈ es,e.1=k/\p ∈ e.2.2
 | [],pre=>by
  refine(?_:p ∈ pre k <-> _)
  constructor
  ·exact .inl
  ·rintro(h | ⟨e,he,_⟩)
   ·exact h
   ·exact absurd he List.not_mem_nil
 | q :: es,pre=>by
  refine(prG_mem es (pre:=fun j=>if j=q.1 then pre j++q.2.2 else pre j)).trans ?_
  by_cases h:k=q.1
  ·rw[if_pos h,List.mem_append,or_assoc]
   refine or_congr Iff.rfl ?_
   constructor
   ·rintro(h1 | ⟨e,he,h1⟩)
    ·exact⟨q,List.mem_cons_self,h.symm,h1⟩
    ·exact⟨e,List.mem_cons_of_mem _ he,h1⟩
   ·rintro⟨e,he,h1⟩
    rcases List.mem_cons.mp he with q1 | he
    ·rw[q1]at h1;exact .inl h1.2
    ·exact .inr ⟨e,he,h1⟩
  ·rw[if_neg h]
   refine or_congr Iff.rfl ?_
   constructor
   ·rintro⟨e,he,h1⟩;exact⟨e,List.mem_cons_of_mem _ he,h1⟩
   ·rintro⟨e,he,h1⟩
    rcases List.mem_cons.mp he with q1 | he
    ·rw[q1]at h1;exact absurd h1.1.symm h
    ·exact⟨e,he,h1⟩
theorem keysG {x:Int}:∀ (es:GEs) {S:SState},x ∈ (es.foldl (fun S p=>S.add p.1 p.2.2) S).keys <-> x ∈ S.keys\/∃ e ∈ es,x=e.1\/x ∈ e.2.2
 | [],S=>by
  refine(?_:x ∈ S.keys <-> _)
  constructor
  ·exact .inl
  ·rintro(h | ⟨e,he,_⟩)
   ·exact h
   ·exact absurd he List.not_mem_nil
 | q :: es,S=>by
  refine(keysG es (S:=S.add q.1 q.2.2)).trans ?_
  rw[(add_facts (S:=S) (k:=q.1) (ps:=q.2.2)).2.1 x,or_assoc]
  refine or_congr Iff.rfl ?_
  constructor
  ·rintro(h1 | ⟨e,he,h1⟩)
   ·exact⟨q,List.mem_cons_self,h1⟩
   ·exact⟨e,List.mem_cons_of_mem _ he,h1⟩
  ·rintro⟨e,he,h1⟩
   rcases List.mem_cons.mp he with q1 | he
   ·rw[q1]at h1;exact .inl h1
   ·exact .inr ⟨e,he,h1⟩
theorem bdG:∀ (es:GEs) {S:SState} {b:Nat},S.Bd b->(es.foldl (fun S p=>S.add p.1 p.2.2) S).Bd (b + (es.map fun p=>2 * p.2.2.length + 3).sum)
 | [],_,_,h=>h
 | p :: es,S,b,h=>by
  refine(bdG es (h.add p.1 p.2.2)).mono ?_
  rw[List.map_cons,List.sum_cons];exact Ar.y108
end SState
noncomputable abbrev Keep (H H':AH):Prop:=∀ b o,H b=some o->H' b=some o
theorem Keep.upd {H H':AH}{b:Addr}{o:AObj}(h:Keep H H')(hb:H b=none):Keep H (Mine.upd H' b o):=fun c o' hc=>by
 rw[Ab fun e=>by rw[e,hb]at hc;exact nqa hc];exact h c o' hc
theorem Keep.none {H H':AH}{b:Addr}(h:Keep H H')(hb:H' b=none):H b=none:=by
 cases e:H b with
 | none=>rfl
 | some o=>rw[h b o e]at hb;exact nqb hb
namespace L01
structure Ordr (es:GEs) (D:List Int):Prop where
 nd:D.Nodup
 mem:∀ x,x ∈ D <-> ∃ e ∈ es,x=e.1\/x ∈ e.2.2
 bef:∀ (i:Nat) e,e ∈ es->D[i]? = some e.1->∀ p ∈ e.2.2,p ∈ D.take i
noncomputable abbrev oI (l:List Int):AObj:=.f (.lst false (l.map .int))
inductive WO (H:AH) (pr:Int->List Int) (K:List Int) (turn:Int) (aS aW aO:Addr) (m:Nat) (ρ:Rho) (H':AH):Prop
 | mk (D O W:List Int) (S:SState) (hm:m=4000 - D.length) (r1:ρ 1 = .int turn) (r2:ρ 2 = .ref aS) (r3:ρ 3 = .ref aW) (r4:ρ 4 = .ref aO) (kp:Keep H H') (s:HS [aO,aW,aS] [oI D,oI W,.srt S] H') (I:SState.I pr S D O []) (pm:W.Perm O) (bd:S.Bd 4000) (kk:S.keys=K)
  (bf:∀ (i:Nat) k,D[i]? = some k->∀ p ∈ pr k,p ∈ D.take i)
theorem wT {A B:Prop}(h:A):(if true=true then A else B):=h
theorem wF {A B:Prop}(h:B):(if false=true then A else B):=h
theorem wN {Q:AFlow->Rho->AH->Prop}{ρ:Rho}{H:AH}(h:Q .next ρ H):Ai Q ρ H:=h
section
variable {C:Cx} {T':Wp AFlow} {Q K:AFlow->Rho->AH->Prop} {ρ:Rho} {H:AH}
theorem Pm {f:PF}{a:Addr}{lk:Bool}{vs:List AV}(h:f ρ H=some (.ref a))(ha:H a=some (.f (.lst lk vs))):bP' Er (Aa f Ak) ρ H=some (.int (vs.length:Int)) :=
 dZ (vs:=[.ref a]) (Ac h rfl) (by rw[eT,eS,ha];rfl)
theorem Zy {a:Addr}{lk:Bool}{l:List Int}{x:Int}(h:H a=some (.f (.lst lk ((l++[x]).map .int)))):idx H (.ref a) (.int (-1))=some (.int x):=by
 rw[Qs,h]
 refine(?_:Gm ((l++[x]).map AV.int) (-1)=_)
 unfold Gm
 have:seqIndex? (-1) ((l++[x]).map AV.int).length=some l.length:=by
  unfold seqIndex?
  simp
  exact Ar.y158
 rw[this,List.map_append]
 refine(?_:(l.map AV.int++[AV.int x])[l.length]? = _)
 rw[List.getElem?_append_right (by rw[List.length_map];exact Nat.le_refl _),List.length_map,Nat.sub_self];rfl
theorem Jz {l:List Int}{i:Nat}:(l.map AV.int).eraseIdx i=(l.eraseIdx i).map AV.int:=by
 rw[List.eraseIdx_eq_take_drop_succ,List.eraseIdx_eq_take_drop_succ,List.map_append,List.map_take,List.map_drop]
theorem Te {l:List Int}{i:Nat}{x:Int}(h:l[i]? = some x):l.Perm (x :: l.eraseIdx i):=by
 obtain⟨hi,e⟩:=List.getElem?_eq_some_iff.mp h
 have h1:l.take i++l.drop i=l:=List.take_append_drop i l
 rw[List.drop_eq_getElem_cons hi,e]at h1
 rw[List.eraseIdx_eq_take_drop_succ]
 conv=>lhs;rw[<- h1]
 exact List.perm_middle
theorem Md {d:Addr}{es:GEs}{turn:Int}{rk:Int->Nat}{Q:AV->AH->Prop}(ok:GOk H d es)(hrk:∀ e ∈ es,∀ p ∈ e.2.2,rk p < rk e.1)
  (hQ:∀ aO H' D,Keep H H'->H aO=none->H' aO=some (oI D)->Ordr es D->Q (.ref aO) H'):Ed C [.ref d,.int turn] Q H:=by
 unfold Ed Cc
 refine⟨_,rfl,?_⟩
 unfold Gq
 generalize hρ:(fun i=>([.ref d,.int turn]:List AV).getD i .undef)=ρ0
 change Rho at ρ0
 have g0:ρ0 0 = .ref d:=by rw[<- hρ];rfl
 have g1:ρ0 1 = .int turn:=by rw[<- hρ];rfl
 clear hρ
 have hz:(es.map fun p=>2 * p.2.2.length + 3).sum < 4000:=by obtain⟨_,_,h⟩:=ok;exact h
 have B0:SState.B (SState.prG es fun z0=>[]) (addG es):=SState.B.empty.foldG es
 have bd0:(addG es).Bd (0 + (es.map fun p=>2 * p.2.2.length + 3).sum):=SState.bdG es ⟨Nat.zero_le _,fun n hn=>absurd hn List.not_mem_nil⟩
 replace bd0:(addG es).Bd 3999:=bd0.mono (by exact Ar.y89 hz)
 have ks:∀ x,x ∈ (addG es).keys <-> ∃ e ∈ es,x=e.1\/x ∈ e.2.2:=fun x=>(SState.keysG es (S:=.empty)).trans ⟨fun h=>h.resolve_left List.not_mem_nil,.inr⟩
 have pm0:∀ {p k:Int},p ∈ SState.prG es (fun z0=>[]) k <-> ∃ e ∈ es,e.1=k/\p ∈ e.2.2:=(SState.prG_mem es).trans ⟨fun h=>h.resolve_left List.not_mem_nil,.inr⟩
 have hr:∀ k,∀ p ∈ SState.prG es (fun z0=>[]) k,rk p < rk k:=fun k p hp=>by
  obtain⟨e,he,e1,h⟩:=pm0.mp hp
  rw[<- e1];exact hrk e he p h
 generalize SState.prG es (fun z0=>[])=pr at B0 pm0 hr
 unfold Uq
 refine Yp (vs:=[.ref d]) (Ac (Ah g0) rfl) rfl ⟨d,es,rfl,ok,fun aS fS=>?_⟩
 have kp1:Keep H (upd H aS (.srt (addG es))):=Keep.upd (fun b o h=>h) fS
 have s1:HS [aS] [.srt (addG es)] (upd H aS (.srt (addG es))):=HS.one Af
 generalize (upd H aS (.srt (addG es)))=H1 at kp1 s1 ⊢
 have q1:(ρ0.set 2 (.ref aS)) 1 = .int turn:=g1
 have q2:(ρ0.set 2 (.ref aS)) 2 = .ref aS:=rfl
 unfold Up
 refine Sj (a:=aS) (ns:=Bl) (vs:=[]) (Ah q2) (by unfold Bq;rw[s1.get 0 rfl rfl]) (by decide) rfl rfl ?_
 refine⟨aS,addG es,rk,rfl,s1.get 0 rfl rfl,B0.rd,B0.dag hr (by have:=bd0.1;refine(?_:_ < 4096);exact Ar.y46 this),?_⟩
 obtain⟨r,I⟩:=B0.prep
 have kp2:Keep H (upd H1 aS (.srt (addG es).prep)):=kp1.upd fS
 have s2:HS [aS] [.srt (addG es).prep] (upd H1 aS (.srt (addG es).prep)):=s1.set 0 rfl
 refine(?_:Ad _ _ _ _ (upd H1 aS (.srt (addG es).prep)))
 generalize (upd H1 aS (.srt (addG es).prep))=H2 at kp2 s2 ⊢
 have bd1:(addG es).prep.Bd 3999:=bd0
 have kk1:(addG es).prep.keys=(addG es).keys:=rfl
 generalize (addG es).prep=S1 at s2 I bd1 kk1 ⊢
 have kl:∀ {S:SState},S.Bd 4000->S.keys.length<=4000:=fun {S} h=>by
  unfold SState.keys;rw[List.length_map];exact h.1
 have lz:∀ {m:Nat},m<=8000->m<=lim:=fun h=>by rw[An];exact Nat.le_trans h (by decide)
 replace bd1:S1.Bd 4000:=bd1.mono (by decide)
 obtain⟨I2,hk2⟩:=I.getReady2
 rw[List.nil_append]at I2
 unfold Uo
 refine(⟨aS,Bl,[],Ah q2,by unfold Bq;rw[s2.get 0 rfl rfl],by decide,rfl,rfl,aS,S1,r,rfl,s2.get 0 rfl rfl,I.rd,lz (Nat.le_trans I.rlen (Nat.le_trans (kl bd1) (by decide))),fun x hx=>((I.rm x).mp hx).1,r.map .int,rfl,fun aW fW=>?_⟩)
 have kp3:Keep H (upd H2 aS (.srt (S1.getReady r))):=kp2.upd fS
 have s3:HS [aS] [.srt (S1.getReady r)] (upd H2 aS (.srt (S1.getReady r))):=s2.set 0 rfl
 generalize (upd H2 aS (.srt (S1.getReady r)))=H3 at kp3 s3 fW ⊢
 have nW:=kp3.none fW
 have kp4:Keep H (upd H3 aW (oI r)):=kp3.upd nW
 have s4:HS [aW,aS] [oI r,.srt (S1.getReady r)] (upd H3 aW (oI r)):=s3.cons (o:=oI r) fW
 refine(?_:Ad _ _ _ _ (upd H3 aW (oI r)))
 generalize (upd H3 aW (oI r))=H4 at kp4 s4 ⊢
 unfold Un
 refine Fv (o:=.lst false []) rfl fun aO fO=>?_
 have nO:=kp4.none fO
 have kp5:Keep H (upd H4 aO (oI [])):=kp4.upd nO
 have s5:HS [aO,aW,aS] [oI [],oI r,.srt (S1.getReady r)] (upd H4 aO (oI [])):=s4.cons (o:=oI []) fO
 refine(?_:Ad _ _ _ _ (upd H4 aO (oI [])))
 generalize (upd H4 aO (oI []))=H5 at kp5 s5 ⊢
 unfold Um
 refine⟨WO H pr (addG es).keys turn aS aW aO,4000,.mk [] r r (S1.getReady r) rfl q1 q2 rfl rfl kp5 s5 I2 (.refl _) (bd1.getReady r) (hk2.trans kk1) fun i k h=>nqa h,?_⟩
 clear kp1 s1 kp2 s2 kp3 s3 kp4 s4 kp5 s5 I2 I hk2 kk1 fW fO q1 q2 B0 bd0 bd1 S1 H1 H2 H3 H4 H5
 rintro m ρ2 H6 ⟨D,O,W,S,rfl,r1,r2,r3,r4,kp,s,I,pm,bd,kk,bf⟩
 have hl:=I.len
 have hkl:=kl bd
 rw[List.length_append]at hl
 have hwl:=pm.length_eq
 refine⟨!(W.map AV.int).isEmpty,Ev (w:=.fl []) (Ah r3) rfl (kE (Lz (s.get 1 rfl rfl))),?_⟩
 by_cases hW:W=[]
 ·rw[hW]
  refine wF (wN ?_)
  unfold Ul
  refine Uf (Ah r4) rfl (hQ aO H6 D kp nO (s.get 0 rfl rfl) ⟨?_,fun x=>?_,fun i e he hi p hp=>bf i _ hi p (pm0.mpr ⟨e,he,rfl,hp⟩)⟩)
  ·have:=I.dn;rw[List.nodup_append]at this;exact this.1
  ·rw[hW]at pm
   have hO:O=[]:=List.Perm.eq_nil pm.symm
   rw[hO]at I
   rw[<- ks x,<- kk]
   constructor
   ·intro h;exact(I.dk x (.inl h)).1
   ·intro h;exact Classical.byContradiction fun q=>I.pos hr h q rfl
 ·have hpos:0 < W.length:=List.length_pos_iff.mpr hW
  have hb:(!(W.map AV.int).isEmpty)=true:=by cases W with | nil=>exact absurd rfl hW | cons a l=>rfl
  rw[hb]
  refine wT ?_
  obtain ⟨i,hi⟩:∃ i:Nat,turn % (W.length:Int)=(i:Int):=⟨(turn % (W.length:Int)).toNat,(Int.toNat_of_nonneg (Int.emod_nonneg _ (by exact Ar.y149 hpos))).symm⟩
  have hil:i < W.length:=by
   have:=Int.emod_lt_of_pos turn (b:=(W.length:Int)) (by exact Ar.y148 hpos)
   exact Ar.y147 hi this
  have hx:W[i]? = some W[i]:=List.getElem?_eq_getElem hil
  generalize W[i]=x at hx
  have hmod:opP (iop Bt) (vP 1) (bP' Er (Aa (vP 3) Ak)) ρ2 H6=some (.int (i:Int)):=by
   have h1:bP' Er (Aa (vP 3) Ak) ρ2 H6=some (.int (W.length:Int)):=by
    have:=Pm (Ah (H:=H6) r3) (s.get 1 rfl rfl)
    rw[List.length_map]at this;exact this
   rw[<- hi];exact Cw (Ae r1) h1 (by omega)
  have hp:=Te hx
  have hxO:x ∈ O:=pm.mem_iff.mp (hp.mem_iff.mpr List.mem_cons_self)
  obtain⟨d1,d2,d3,d4,e,I3⟩:=I.done1 hxO
  rw[List.nil_append]at I3
  obtain⟨I4,hk4⟩:=I3.getReady2
  have bd3:(S.done1 x).Bd 4000:=SState.Bd.dones [x] bd
  have hl3:=I4.len
  have hkl3:=kl (bd3.getReady e)
  rw[List.length_append,List.length_append,List.length_append,List.length_singleton]at hl3
  have hel:(O.erase x).length=O.length - 1:=List.length_erase_of_mem hxO
  have hwe:(W.eraseIdx i).length=W.length - 1:=List.length_eraseIdx_of_lt hil
  refine(⟨.ref aO,D.map .int,Ah r4,rfl,Lz (s.get 0 rfl rfl),.ref aW,W.map .int,i,.int x,_,Ah r3,Lz (s.get 1 rfl rfl),hmod,by rw[List.getElem?_map,hx];rfl,rfl,Jt (ws:=(W.map AV.int).eraseIdx i) (s.get 1 rfl rfl) (by rw[Jz,List.length_map];exact lz (by exact Ar.y16 hwl hl3 hkl3 hel hwe)) (by rw[Jz];exact Ay _),?_⟩)
  rw[Jz]
  have kp1:Keep H (upd H6 aW (oI (W.eraseIdx i))):=kp.upd nW
  have s1:HS [aO,aW,aS] [oI D,oI (W.eraseIdx i),.srt S] (upd H6 aW (oI (W.eraseIdx i))):=s.set 1 rfl
  generalize (upd H6 aW (oI (W.eraseIdx i)))=H7 at kp1 s1 ⊢
  have e1:D.map AV.int++[.int x]=(D++[x]).map .int:=by rw[List.map_append];rfl
  refine⟨D.map .int,_,Lz (s1.get 0 rfl rfl),Jt (ws:=D.map AV.int++[.int x]) (s1.get 0 rfl rfl) (by rw[e1,List.length_map,List.length_append,List.length_singleton];exact lz (by exact Ar.y21 hl3 hkl3)) (by rw[e1];exact Ay _),?_⟩
  rw[e1]
  have kp2:Keep H (upd H7 aO (oI (D++[x]))):=kp1.upd nO
  have s2:HS [aO,aW,aS] [oI (D++[x]),oI (W.eraseIdx i),.srt S] (upd H7 aO (oI (D++[x]))):=s1.set 0 rfl
  refine(?_:Ad _ _ _ _ (upd H7 aO (oI (D++[x]))))
  generalize (upd H7 aO (oI (D++[x])))=H8 at kp2 s2 ⊢
  refine Sj (a:=aS) (ns:=Bl) (vs:=[.int x]) (Ah r2) (by unfold Bq;rw[s2.get 2 rfl rfl]) (by decide) (Ac (Ax (Ah r4) rfl (Zy (s2.get 0 rfl rfl))) rfl) rfl ?_
  refine⟨aS,S,[],[x],4000,rfl,s2.get 2 rfl rfl,I.rd,⟨d1,d2,d3,trivial⟩,bd,by rw[An,List.length_nil,List.length_singleton];exact Ar.y107,?_⟩
  have kp3:Keep H (upd H8 aS (.srt (S.done1 x))):=kp2.upd fS
  have s3:HS [aO,aW,aS] [oI (D++[x]),oI (W.eraseIdx i),.srt (S.done1 x)] (upd H8 aS (.srt (S.done1 x))):=s2.set 2 rfl
  refine(?_:Ad _ _ _ _ (upd H8 aS (.srt (S.done1 x))))
  generalize (upd H8 aS (.srt (S.done1 x)))=H9 at kp3 s3 ⊢
  refine(⟨.ref aW,(W.eraseIdx i).map .int,Ah r3,rfl,Lz (s3.get 1 rfl rfl),aS,Bl,[],Ah r2,by unfold Bq;rw[s3.get 2 rfl rfl],by decide,rfl,rfl,aS,S.done1 x,e,rfl,s3.get 2 rfl rfl,I3.rd,lz (by exact Ar.y22 hl3 hkl3),fun y hy=>((I3.rm y).mp hy).1,?_⟩)
  have kp4:Keep H (upd H9 aS (.srt ((S.done1 x).getReady e))):=kp3.upd fS
  have s4:HS [aO,aW,aS] [oI (D++[x]),oI (W.eraseIdx i),.srt ((S.done1 x).getReady e)] (upd H9 aS (.srt ((S.done1 x).getReady e))):=s3.set 2 rfl
  generalize (upd H9 aS (.srt ((S.done1 x).getReady e)))=H10 at kp4 s4 ⊢
  have e2:(W.eraseIdx i).map AV.int++e.map .int=(W.eraseIdx i++e).map .int:=List.map_append.symm
  refine⟨(W.eraseIdx i).map .int,e.map .int,_,rfl,Lz (s4.get 1 rfl rfl),by rw[e2,List.length_map,List.length_append];exact lz (by exact Ar.y15 hwl hl3 hkl3 hel hwe),Jt (ws:=(W.eraseIdx i).map AV.int++e.map .int) (s4.get 1 rfl rfl) (by rw[e2,List.length_map,List.length_append];exact lz (by exact Ar.y15 hwl hl3 hkl3 hel hwe)) (by rw[e2];exact Ay _),?_⟩
  rw[e2]
  have kp5:Keep H (upd H10 aW (oI (W.eraseIdx i++e))):=kp4.upd nW
  have s5:HS [aO,aW,aS] [oI (D++[x]),oI (W.eraseIdx i++e),.srt ((S.done1 x).getReady e)] (upd H10 aW (oI (W.eraseIdx i++e))):=s4.set 1 rfl
  refine wN ⟨4000 - (D.length + 1),by exact Ar.y23 hl3 hkl3,.mk (D++[x]) _ _ _ (by rw[List.length_append];rfl) r1 r2 r3 r4 kp5 s5 I4 ?_ (bd3.getReady e) (hk4.trans (d4.trans kk)) fun j k hj p hpk=>?_⟩
  ·refine List.Perm.append_right e ?_
   exact List.Perm.cons_inv (hp.symm.trans (pm.trans (List.perm_cons_erase hxO)))
  ·by_cases q:j < D.length
   ·rw[List.getElem?_append_left q]at hj
    rw[List.take_append_of_le_length (Nat.le_of_lt q)]
    exact bf j k hj p hpk
   ·have hj2:=(List.getElem?_eq_some_iff.mp hj).1
    rw[List.length_append,List.length_singleton]at hj2
    have ej:j=D.length:=by exact Ar.y62 q hj2
    rw[ej]at hj ⊢
    rw[List.getElem?_append_right (Nat.le_refl _),Nat.sub_self]at hj
    have ek:x=k:=Option.some.inj hj
    rw[List.take_append_of_le_length (Nat.le_refl _),List.take_length]
    rw[<- ek]at hpk
    exact(I.dk x (.inr hxO)).2 p hpk
end
end L01
end Mine
end
section
namespace Mine
namespace L01
section
variable {C:Cx} {T':Wp AFlow} {Q K:AFlow->Rho->AH->Prop} {ρ:Rho} {H:AH} {f f':PF} {fs fs':LF} {c:CF}
theorem Nb {b:Bool}{v:AV}(hc:c ρ H=some b)(h:(if b=true then f ρ H else f' ρ H)=some v):ifP c f f' ρ H=some v:=by
 unfold ifP;rw[hc];cases b <;> exact h
theorem Ez {H:AH}{vs:List AV}{i:Nat}{v:AV}(h:vs[i]? = some v):idx H (.fl vs) (.int (i:Int))=some v:=by
 refine(?_:Gm vs (i:Int)=_)
 unfold Gm
 have hi:=(List.getElem?_eq_some_iff.mp h).1
 have:seqIndex? (i:Int) vs.length=some i:=by
  unfold seqIndex?
  simp only [show ¬ ((i:Int) < 0) by exact Ar.r255,if_false]
  rw[if_pos (by simp;exact Ar.r194 hi)]
  simp
 rw[this];exact h
theorem iV {l:List Int}{i:Nat}(h:i < l.length):(l.map AV.int)[i]? = some (.int (l.getD i 0)):=by
 rw[List.getElem?_map,List.getD_eq_getElem?_getD,List.getElem?_eq_getElem h];rfl
theorem Tl {x:Int}(h:x.natAbs < 2 ^ 1000):big x=true:=decide_eq_true h
theorem Jb {a b:Int}(h:f ρ H=some (.int a))(h':f' ρ H=some (.int b))(ha:a.natAbs < 2 ^ 1000)(hb:b.natAbs < 2 ^ 1000):opP (iop Fw) f f' ρ H=some (.int (a * b)):=by
 simp only [opP,h,h',iop,Fw,if_pos (And.intro (Tl ha) (Tl hb)),Option.map_some]
theorem Gn {a:Int}(h:f ρ H=some (.int a)):negP f ρ H=some (.int (-a)):=by
 unfold negP;rw[h]
theorem Ll {n:Nat}{g g':Nat->AV}{v:AV}(h:∀ i,i < n->g i=g' i)(hv:g' n=v):tb n g++[v]=tb (n + 1) g':=by
 rw[Hz h]
 unfold tb
 rw[List.range_succ,List.map_append,<- hv];rfl
theorem bE {n:Nat}{g:Nat->AV}:enA (tb n g)=(List.range n).map fun (i:Nat)=>AV.tup [.int (i:Int),g i]:=by
 apply List.ext_getElem?
 intro i
 by_cases h:i < n
 ·rw[bF (v:=g i) (by rw[List.getElem?_eq_getElem (by rw[Cl];exact h),Pz h]),List.getElem?_map,List.getElem?_range h];rfl
 ·rw[List.getElem?_eq_none (by rw[Ls,Cl];exact Ar.y63 h),List.getElem?_eq_none (by rw[List.length_map,List.length_range];exact Ar.y63 h)]
noncomputable def eN (n:Nd):AV:=.tup [.int (n.k:Int),.int (n.a:Int),.int (n.b:Int),.int (n.z:Int)]
noncomputable abbrev oN (n:Nat) (nd:Nat->Nd):AObj:=.f (.lst false (tb n fun j=>eN (nd j)))
noncomputable abbrev oV (n:Nat) (V:Nat->Int):AObj:=.f (.lst false (tb n fun i=>.int (V i)))
theorem Pv.step {j:Nat} {nd:Nat -> Nd} {lf V:Nat -> Int} {S m st:Int} (p:Pv j nd lf S m st V) (F:∀ k,k <= j -> (nd k).a < 3 + k /\ (nd k).b < 3 + k):∃ V',(∀ i,i < 3 + j -> V i=V' i) /\ V' (3 + j)=(op (nd j) (V (nd j).a) (V (nd j).b) + if ((3 + j:Nat):Int)=m then st else 0) % S /\ Pv (j + 1) nd lf S m st V':=by
 obtain ⟨V',low,top⟩:∃ V':Nat -> Int,(∀ i,i < 3 + j -> V i=V' i) /\ V' (3 + j)=(op (nd j) (V (nd j).a) (V (nd j).b) + if ((3 + j:Nat):Int)=m then st else 0) % S :=
  ⟨fun i => if i=3 + j then (op (nd j) (V (nd j).a) (V (nd j).b) + if ((3 + j:Nat):Int)=m then st else 0) % S else V i,fun i hi => (if_neg (Nat.ne_of_lt hi)).symm,if_pos rfl⟩
 refine⟨V',low,top,fun i hi=>(low i (by exact Ar.y86 hi)).symm.trans (p.leaf i hi),fun k hk=>?_⟩
 obtain⟨ha,hb⟩:=F k (by exact Ar.y83 hk)
 rw[<- low _ (by exact Ar.y82 hk ha:(nd k).a < 3 + j),<- low _ (by exact Ar.y82 hk hb:(nd k).b < 3 + j)]
 by_cases e:k=j
 ·rw[e];exact top
 ·rw[<- low (3 + k) (by exact Ar.y79 hk e)];exact p.node k (by exact Ar.y80 hk e)
theorem kC {n:Nd}{x y:Int}{fx fy fk fz:PF}(hk:n.k < 7)(hz:n.z<=5)(h1:fx ρ H=some (.int x))(h2:fy ρ H=some (.int y))(h3:fk ρ H=some (.int (n.k:Int)))(h4:fz ρ H=some (.int (n.z:Int)))(hx:x.natAbs < 2 ^ 1000)(hy:y.natAbs < 2 ^ 1000) :
  opP idx (Ge (Ce (Aa (opP (iop Es) fx fy) (Aa (opP (iop subI) fx fy) (Aa (opP (iop Fw) fx fy) (Aa (negP fx) (Aa (opP (iop subI) (negP (cP (.int 1))) fx) (Aa fx (Aa (opP (iop Fw) fx (opP (iop Np) (cP (.int 2)) fz)) Ak))))))))) fk ρ H=some (.int (op n x y)):=by
 have e2:((2 ^ n.z:Nat):Int)=(2:Int) ^ n.z:=by simp
 have hp:=dY (ρ:=ρ) (H:=H) (f:=cP (.int 2)) (f':=fz) rfl h4 (by exact Ar.y47 hz)
 rw[e2]at hp
 have hb:((2:Int) ^ n.z).natAbs < 2 ^ 1000:=by
  rw[<- e2,Int.natAbs_natCast]
  exact Nat.pow_lt_pow_right (by decide) (by exact Ar.y48 hz)
 have hl:=Nc (El (ρ:=ρ) (H:=H) (Ac (Ew h1 h2) (Ac (Cp h1 h2) (Ac (Jb h1 h2 hx hy) (Ac (Gn h1) (Ac (Cp (a:=-1) (f:=negP (cP (.int 1))) rfl h1) (Ac h1 (Ac (Jb h1 hp hx hb) (rfl:Ak ρ H=some [])))))))) (by rw[An];exact(by decide:7<=1048576)) rfl)
 refine Ax hl h3 (Ez ?_)
 exact iV (l:=[x + y,x - y,x * y,-x,-1 - x,x,x * 2 ^ n.z]) hk
theorem Mc {Q:AV->AH->Prop}{aN aL:Addr}{n:Nat}{nd:Nat->Nd}{lf:Nat->Int}{S m st:Int}(F:Fm n nd)(hn:n<=1000)(hN:H aN=some (oN n nd))(hL:H aL=some (oV 3 lf))(hS:0 < S)(hS2:S < 2 ^ 400)(hlf:∀ i,i < 3->(lf i).natAbs < 2 ^ 400)(hst:st.natAbs < 2 ^ 400)
  (hQ:∀ aV H' V,Keep H H'->H aV=none->H' aV=some (oV (3 + n) V)->Pv n nd lf S m st V->Q (.ref aV) H'):Ec [.ref aN,.ref aL,.int S,.int m,.int st] Q H:=by
 unfold Ec Cc
 refine⟨_,rfl,?_⟩
 unfold Gp
 generalize hρ:(fun i=>([.ref aN,.ref aL,.int S,.int m,.int st]:List AV).getD i .undef)=ρ0
 change Rho at ρ0
 have g0:ρ0 0 = .ref aN:=by rw[<- hρ];rfl
 have g1:ρ0 1 = .ref aL:=by rw[<- hρ];rfl
 have g2:ρ0 2 = .int S:=by rw[<- hρ];rfl
 have g3:ρ0 3 = .int m:=by rw[<- hρ];rfl
 have g4:ρ0 4 = .int st:=by rw[<- hρ];rfl
 clear hρ
 unfold Uk
 refine Fv (o:=.lst false (((List.range 3).filter fun z0=>true).map fun i=>.int (lf i + if (i:Int)=m then st else 0))) ?_ fun aV fV=>?_
 ·refine gA (vs:=List.range 3) (e:=fun (i:Nat)=>AV.tup [.int (i:Int),.int (lf i)]) (ρ':=fun i=>(ρ0.set 13 (.int (i:Int))).set 14 (.int (lf i))) ?_ (fun i hi=>rfl) (fun i hi=>rfl) (fun i hi z0=>⟨?_,rfl⟩) (by rw[List.length_range,An];decide)
  ·refine(?_:(match vP 1 ρ0 H with | some (.ref a)=>(Av H (.ref a)).map enA | _=>none)=_)
   rw[Ah g1]
   refine(?_:(Av H (.ref aL)).map enA=_)
   rw[Ib hL]
   exact congrArg some bE
  ·refine Nb (b:=decide ((i:Int)=m)) (Ev (v:=.int (i:Int)) (w:=.int m) rfl (Ae (by exact g3)) Lr) ?_
   by_cases q:(i:Int)=m
   ·rw[decide_eq_true q,if_pos rfl,if_pos q]
    exact Ew (a:=lf i) rfl (Ae (by exact g4))
   ·rw[decide_eq_false q,if_neg Bool.false_ne_true,if_neg q,Int.add_zero];rfl
 have e0:((List.range 3).filter fun z0=>true).map (fun (i:Nat)=>AV.int (lf i + if (i:Int)=m then st else 0))=tb (3 + 0) fun i=>.int (lf i + if (i:Int)=m then st else 0):=by rw[List.filter_eq_self.mpr fun z0 z0=>rfl];rfl
 have kp0:Keep H (upd H aV (oV (3 + 0) fun i=>lf i + if (i:Int)=m then st else 0)):=Keep.upd (fun b o h=>h) fV
 refine(?_:Ad _ _ _ (ρ0.set 5 (.ref aV)) (upd H aV (.f (.lst false _))))
 rw[e0]
 have p0:Pv 0 nd lf S m st fun i=>lf i + if (i:Int)=m then st else 0:=⟨fun i hi=>rfl,fun j hj=>absurd hj (Nat.not_lt_zero j)⟩
 have b0:∀ i,i < 3 + 0->(lf i + if (i:Int)=m then st else 0).natAbs < 2 ^ 500:=fun i hi=>by
  have h1:=hlf i hi
  by_cases q:(i:Int)=m
  ·rw[if_pos q];omega
  ·rw[if_neg q];omega
 have hV:upd H aV (oV (3 + 0) fun i=>lf i + if (i:Int)=m then st else 0) aV=some (oV (3 + 0) fun i=>lf i + if (i:Int)=m then st else 0):=Af
 refine(?_:Ad _ _ _ (ρ0.set 5 (.ref aV)) (upd H aV (oV (3 + 0) fun i=>lf i + if (i:Int)=m then st else 0)))
 generalize hV0:(fun (i:Nat)=>lf i + if (i:Int)=m then st else 0)=V0 at p0 hV kp0 ⊢
 have b0:∀ i,i < 3 + 0->(V0 i).natAbs < 2 ^ 500:=by rw[<- hV0];exact b0
 clear hV0 e0
 generalize (upd H aV (oV (3 + 0) V0))=H1 at hV kp0 ⊢
 have hN1:=kp0 _ _ hN
 have hne:aV ≠ aN:=fun e=>by rw[e,hN]at fV;exact nqb fV
 unfold Uj
 refine Qf hN1 rfl ?_
 have kp1:Keep (upd H1 aN (.f (FObj.hold (.lst false (tb n fun j=>eN (nd j)))))) (upd H1 aN (.f (FObj.hold (.lst false (tb n fun j=>eN (nd j)))))):=fun b o h=>h
 have hN2:upd H1 aN (.f (FObj.hold (.lst false (tb n fun j=>eN (nd j))))) aN=some (.f (.lst true (tb n fun j=>eN (nd j)))):=Af
 have hV2:upd H1 aN (.f (FObj.hold (.lst false (tb n fun j=>eN (nd j))))) aV=some (oV (3 + 0) V0):=by rw[Ab hne];exact hV
 refine⟨tb n fun j=>eN (nd j),Tc (Ah (by exact g0)) (by refine(?_:(match upd H1 aN _ aN with | some (.f (.lst true vs))=>some vs | _=>none)=_);rw[hN2]),Ff fun i z0=>rfl,?_⟩
 have kpH:∀ {H2},(∀ b o,H b=some o->b ≠ aN->H2 b=some o)->Keep H (upd H2 aN (oN n nd)):=fun {H2} k b o hb=>by
  by_cases e:b=aN
  ·rw[e,Af,<- hN,<- e];exact hb
  ·rw[Ab e];exact k b o hb e
 have kq:∀ b o,H b=some o->b ≠ aN->upd H1 aN (.f (FObj.hold (.lst false (tb n fun j=>eN (nd j))))) b=some o:=fun b o hb e=>by rw[Ab e];exact kp0 b o hb
 generalize (upd H1 aN (.f (FObj.hold (.lst false (tb n fun j=>eN (nd j))))))=H2 at kq hN2 hV2 ⊢
 refine Fa (fun j ρ' H'=>(ρ' 2 = .int S/\ρ' 3 = .int m/\ρ' 4 = .int st/\ρ' 5 = .ref aV)/\(∀ b o,H b=some o->b ≠ aN->H' b=some o)/\∃ V,H' aV=some (oV (3 + j) V)/\Pv j nd lf S m st V/\∀ i,i < 3 + j->(V i).natAbs < 2 ^ 500) ⟨⟨g2,g3,g4,rfl⟩,kq,V0,hV2,p0,b0⟩ ?_ ?_
 ·rintro j v ρ1 H3 K' hv ⟨⟨r2,r3,r4,r5⟩,kq,V,hV,p,bV⟩ hK
  obtain⟨hj,e⟩:=List.getElem?_eq_some_iff.mp hv
  rw[Cl]at hj
  rw[Pz hj]at e
  rw[<- e]
  clear e hv
  have hk:=F.k j hj
  have ha:=F.a j hj
  have hb:=F.b j hj
  have hz:=F.z j hj
  obtain⟨V',low,top,p'⟩:=p.step (fun k hk=>⟨F.a k (by exact Ar.y99 hj hk),F.b k (by exact Ar.y99 hj hk)⟩)
  refine⟨(((ρ1.set 6 (.int ((nd j).k:Int))).set 7 (.int ((nd j).a:Int))).set 8 (.int ((nd j).b:Int))).set 9 (.int ((nd j).z:Int)),rfl,?_⟩
  have q2:((((ρ1.set 6 (.int ((nd j).k:Int))).set 7 (.int ((nd j).a:Int))).set 8 (.int ((nd j).b:Int))).set 9 (.int ((nd j).z:Int))) 2 = .int S:=r2
  have q3:((((ρ1.set 6 (.int ((nd j).k:Int))).set 7 (.int ((nd j).a:Int))).set 8 (.int ((nd j).b:Int))).set 9 (.int ((nd j).z:Int))) 3 = .int m:=r3
  have q4:((((ρ1.set 6 (.int ((nd j).k:Int))).set 7 (.int ((nd j).a:Int))).set 8 (.int ((nd j).b:Int))).set 9 (.int ((nd j).z:Int))) 4 = .int st:=r4
  have q5:((((ρ1.set 6 (.int ((nd j).k:Int))).set 7 (.int ((nd j).a:Int))).set 8 (.int ((nd j).b:Int))).set 9 (.int ((nd j).z:Int))) 5 = .ref aV:=r5
  have q6:((((ρ1.set 6 (.int ((nd j).k:Int))).set 7 (.int ((nd j).a:Int))).set 8 (.int ((nd j).b:Int))).set 9 (.int ((nd j).z:Int))) 6 = .int ((nd j).k:Int):=rfl
  have q7:((((ρ1.set 6 (.int ((nd j).k:Int))).set 7 (.int ((nd j).a:Int))).set 8 (.int ((nd j).b:Int))).set 9 (.int ((nd j).z:Int))) 7 = .int ((nd j).a:Int):=rfl
  have q8:((((ρ1.set 6 (.int ((nd j).k:Int))).set 7 (.int ((nd j).a:Int))).set 8 (.int ((nd j).b:Int))).set 9 (.int ((nd j).z:Int))) 8 = .int ((nd j).b:Int):=rfl
  have q9:((((ρ1.set 6 (.int ((nd j).k:Int))).set 7 (.int ((nd j).a:Int))).set 8 (.int ((nd j).b:Int))).set 9 (.int ((nd j).z:Int))) 9 = .int ((nd j).z:Int):=rfl
  generalize ((((ρ1.set 6 (.int ((nd j).k:Int))).set 7 (.int ((nd j).a:Int))).set 8 (.int ((nd j).b:Int))).set 9 (.int ((nd j).z:Int)))=ρ2 at q2 q3 q4 q5 q6 q7 q8 q9 ⊢
  refine(⟨.int (V (nd j).a),.int (V (nd j).b),Kz (Ax (Ah q5) (Ae q7) (Ee hV ha)) (Ax (Ah q5) (Ae q8) (Ee hV hb)),rfl,rfl,?_⟩)
  have h500:∀ {x:Int},x.natAbs < 2 ^ 500->x.natAbs < 2 ^ 1000:=fun h=>Nat.lt_trans h (Nat.pow_lt_pow_right (by decide) (by decide))
  refine Jr (v:=.int (op (nd j) (V (nd j).a) (V (nd j).b))) (kC hk hz (Ae rfl) (Ae rfl) (Ae (by exact q6)) (Ae (by exact q9)) (h500 (bV _ ha)) (h500 (bV _ hb))) rfl ?_
  have w2:(((ρ2.set 10 (.int (V (nd j).a))).set 11 (.int (V (nd j).b))).set 12 (.int (op (nd j) (V (nd j).a) (V (nd j).b)))) 2 = .int S:=q2
  have w3:(((ρ2.set 10 (.int (V (nd j).a))).set 11 (.int (V (nd j).b))).set 12 (.int (op (nd j) (V (nd j).a) (V (nd j).b)))) 3 = .int m:=q3
  have w4:(((ρ2.set 10 (.int (V (nd j).a))).set 11 (.int (V (nd j).b))).set 12 (.int (op (nd j) (V (nd j).a) (V (nd j).b)))) 4 = .int st:=q4
  have w5:(((ρ2.set 10 (.int (V (nd j).a))).set 11 (.int (V (nd j).b))).set 12 (.int (op (nd j) (V (nd j).a) (V (nd j).b)))) 5 = .ref aV:=q5
  have w12:(((ρ2.set 10 (.int (V (nd j).a))).set 11 (.int (V (nd j).b))).set 12 (.int (op (nd j) (V (nd j).a) (V (nd j).b)))) 12 = .int (op (nd j) (V (nd j).a) (V (nd j).b)):=rfl
  refine(?_:Ad _ _ _ (((ρ2.set 10 (.int (V (nd j).a))).set 11 (.int (V (nd j).b))).set 12 (.int (op (nd j) (V (nd j).a) (V (nd j).b)))) H3)
  generalize (((ρ2.set 10 (.int (V (nd j).a))).set 11 (.int (V (nd j).b))).set 12 (.int (op (nd j) (V (nd j).a) (V (nd j).b))))=ρ3 at w2 w3 w4 w5 w12 ⊢
  have hval:opP (iop Bt) (ifP (Aw eqV (bP' Er (Aa (vP 5) Ak)) (vP 3)) (opP (iop Es) (vP 12) (vP 4)) (vP 12)) (vP 2) ρ3 H3=some (.int (V' (3 + j))):=by
   rw[top]
   refine Cw (Nb (b:=decide (((3 + j:Nat):Int)=m)) (Ev (v:=.int ((3 + j:Nat):Int)) (w:=.int m) ?_ (Ae w3) Lr) ?_) (Ae w2) hS
   ·have:=Pm (Ah (H:=H3) w5) hV
    rw[Cl]at this;exact this
   ·by_cases q:((3 + j:Nat):Int)=m
    ·rw[decide_eq_true q,if_pos rfl,if_pos q];exact Ew (Ae w12) (Ae w4)
    ·rw[decide_eq_false q,if_neg Bool.false_ne_true,if_neg q,Int.add_zero];exact Ae w12
  have e1:(tb (3 + j) fun i=>AV.int (V i))++[.int (V' (3 + j))]=tb (3 + (j + 1)) fun i=>.int (V' i):=Ll (n:=3 + j) (fun i hi=>congrArg AV.int (low i hi)) rfl
  refine cO (Ah w5) (Lz hV) hval (Jt (ws:=(tb (3 + j) fun i=>AV.int (V i))++[.int (V' (3 + j))]) hV (by rw[e1,Cl,An];exact Ar.y41 hn hj) (by rw[e1];exact Ff fun z0 z0=>rfl)) ?_
  rw[e1]
  refine(hK ρ3 _ ⟨⟨w2,w3,w4,w5⟩,fun b o hb e=>?_,V',Af,p',fun i hi=>?_⟩).1
  ·rw[Ab fun q=>by rw[q,fV]at hb;exact nqa hb];exact kq b o hb e
  ·by_cases q:i < 3 + j
   ·rw[<- low i q];exact bV i q
   ·have:i=3 + j:=by exact Ar.y77 hi q
    rw[this,top]
    generalize (op (nd j) (V (nd j).a) (V (nd j).b) + if ((3 + j:Nat):Int)=m then st else 0)=z
    have h1:=Int.emod_nonneg z (b:=S) (by exact Ar.y119 hS)
    have h2:=Int.emod_lt_of_pos z hS
    omega
 ·rintro ρ1 H3 ⟨⟨r2,r3,r4,r5⟩,kq,V,hV,p,bV⟩
  rw[Cl]at hV p
  dsimp only
  unfold Ui
  exact Uf (Ah r5) rfl (hQ aV _ V (kpH kq) fV (by rw[Ab hne];exact hV) p)
end
end L01
end Mine
end
section
namespace Mine
namespace L01
noncomputable def rp (T:Int) (i:Nat) (x:Int):Int:=if i % 2=1 then -(-x % T) else x % T
noncomputable def tp (T:Int) (i:Nat):Int:=if i % 2=1 then -T else T
theorem Ug {T x:Int}{i:Nat}:Cg T (rp T i x) x:=by
 unfold rp
 by_cases h:i % 2=1
 ·rw[if_pos h]
  have:=(Cg.mod (M:=T) (x:=-x)).neg
  rw[Int.neg_neg]at this;exact this
 ·rw[if_neg h];exact .mod
theorem jV {T x y:Int}{i:Nat}(h:Cg T x y):rp T i x=rp T i y:=by
 unfold rp
 rw[h.emod,h.neg.emod]
theorem Yq {T x:Int}{i:Nat}(hT:0 < T):(rp T i x).natAbs < T.natAbs:=by
 unfold rp
 by_cases h:i % 2=1
 ·rw[if_pos h]
  have h1:=Int.emod_nonneg (-x) (b:=T) (by exact Ar.y119 hT)
  have h2:=Int.emod_lt_of_pos (-x) hT
  omega
 ·rw[if_neg h]
  have h1:=Int.emod_nonneg x (b:=T) (by exact Ar.y119 hT)
  have h2:=Int.emod_lt_of_pos x hT
  exact Ar.y127 h1 h2
theorem aY {a T:Int} (h:0 < T):a.fmod (-T) = -(-a % T):=by
 rw[Int.fmod_eq_emod,Int.emod_neg]
 have h1:=Int.emod_nonneg a (b:=T) (by exact Ar.y119 h)
 have h2:=Int.emod_lt_of_pos a h
 have h3:=Int.emod_add_mul_ediv a T
 by_cases d:T ∣ a
 ·rw[if_pos (.inr (Int.neg_dvd.mpr d))]
  rw[Int.emod_eq_zero_of_dvd d,Int.emod_eq_zero_of_dvd (Int.dvd_neg.mpr d)];rfl
 ·rw[if_neg fun q=>q.elim (fun z=>by omega) fun z=>d (Int.neg_dvd.mp z)]
  have hr:0 < a % T:=by
   have:a % T ≠ 0:=fun e => d (Int.dvd_of_emod_eq_zero e)
   exact Ar.y121 h1 this
  have e:-a=(T - a % T) + T * (-(a / T) - 1):=by
   rw[Int.mul_sub,Int.mul_neg,Int.mul_one];exact Ar.y140 h3
  have e2:(T - a % T) % T=T - a % T:=Int.emod_eq_of_lt (by exact Ar.y129 h2) (by exact Ar.y126 hr)
  rw[e,Int.add_mul_emod_self_left,e2];exact Ar.y134
section
variable {ρ:Rho} {H:AH} {f f' fk fz fs1 fx fy:PF} {fs:LF} {x y s T:Int} {i:Nat} {n:Nd}
theorem Dn {g:PG}{vs:List AV}{v:AV}(h:fs ρ H=some vs)(hg:g vs H=some v):Bi g fs ρ H=some v:=by
 unfold Bi;rw[h];exact hg
theorem Dd {m:Nat}{f:PF}{vs:List AV}{v:AV}(hl:vs.length=m)(h:f (fun i=>vs.getD i .undef) H=some v):Em m f vs H=some v:=by
 unfold Em;rw[if_pos hl];exact h
theorem Qz:Kx [.int x,.int y] H=some (.int (x + y)):=Dd rfl (Ew (Ae rfl) (Ae rfl))
theorem aK:Va [.int x,.int y] H=some (.int (x - y)):=Dd rfl (Cp (Ae rfl) (Ae rfl))
theorem Ms (hx:x.natAbs < 2 ^ 1000)(hy:y.natAbs < 2 ^ 1000):Ku [.int x,.int y] H=some (.int (x * y)):=Dd rfl (Jb (Ae rfl) (Ae rfl) hx hy)
theorem Qx:Kt [.int x] H=some (.int (-x)):=Dd rfl (Gn (Ae rfl))
theorem aQ:Vb [.int x] H=some (.int (-1 - x)):=Dd rfl ((congrArg (fun z=>some (AV.int z)) (by exact Ar.y124:-x - 1 = -1 - x)).symm ▸ rfl)
theorem Qw:Ol [.int x] H=some (.int x):=Dd rfl rfl
theorem Kw {z:Nat}(hx:x.natAbs < 2 ^ 1000)(hz:z<=5):Iz [.int x,.int (z:Int)] H=some (.int (x * 2 ^ z)):=by
 refine Dd rfl ?_
 have h1:vP 0 (fun i=>([.int x,.int (z:Int)]:List AV).getD i .undef) H=some (.int x):=Ae rfl
 have h2:vP 1 (fun i=>([.int x,.int (z:Int)]:List AV).getD i .undef) H=some (.int (z:Int)):=Ae rfl
 unfold Na
 simp only [opP,h1,h2,iop,cL]
 rw[if_pos ⟨by exact Ar.y161,by exact Ar.y153 hz,Tl hx⟩,Int.toNat_natCast];rfl
theorem Qy (hT:0 < T):Kv [.int x,.int (tp T i)] H=some (.int (rp T i x)):=by
 refine Dd rfl ?_
 have h1:vP 0 (fun j=>([.int x,.int (tp T i)]:List AV).getD j .undef) H=some (.int x):=Ae rfl
 have h2:vP 1 (fun j=>([.int x,.int (tp T i)]:List AV).getD j .undef) H=some (.int (tp T i)):=Ae rfl
 unfold aZ
 simp only [opP,h1,h2,iop,Bt]
 unfold tp rp
 by_cases h:i % 2=1
 ·rw[if_pos h,if_pos h,if_neg (by exact Ar.y120 hT),if_pos (by omega),aY hT];rfl
 ·rw[if_neg h,if_neg h,if_pos hT];rfl
theorem Ea {a b c:AV}(ha:a.sto=true)(hb:b.sto=true)(hc:c.sto=true){fa fb fc:PF}(h1:fa ρ H=some a)(h2:fb ρ H=some b)(h3:fc ρ H=some c):Ge (Ce (Aa fa (Aa fb (Aa fc Ak)))) ρ H=some (.fl [a,b,c]) :=
 Nc (El (Ac h1 (Ac h2 (Ac h3 rfl))) (by rw[An];exact(by decide:3<=1048576)) (stos_iff.mpr fun v hv=>by
  rcases List.mem_cons.mp hv with e | hv
  ·rw[e];exact ha
  rcases List.mem_cons.mp hv with e | hv
  ·rw[e];exact hb
  rw[List.mem_singleton.mp hv];exact hc))
theorem Fc {a:Addr}{vs:List AV}{v:AV}(h:f ρ H=some (.ref a))(h2:fs ρ H=some vs)(h3:fnT a vs H=some v):callT fnT f fs ρ H=some v:=by
 unfold callT
 rw[h]
 refine(?_:(fs ρ H).bind _=_)
 rw[h2];exact h3
theorem Lh {a b:Int}(h:f ρ H=some (.int a))(h':f' ρ H=some (.int b))(q:a < b):Aw ltV f f' ρ H=some true:=Ev h h' (congrArg some (decide_eq_true q))
theorem Nq {a b:Int}(h:f ρ H=some (.int a))(h':f' ρ H=some (.int b))(q:¬ a < b):Aw ltV f f' ρ H=some false:=Ev h h' (congrArg some (decide_eq_false q))
theorem Fz {c:CF}(h:c ρ H=some true){v:AV}(h2:f ρ H=some v):ifP c f f' ρ H=some v:=Nb h h2
theorem Hi {c:CF}(h:c ρ H=some false){v:AV}(h2:f' ρ H=some v):ifP c f f' ρ H=some v:=Nb h h2
theorem Vq (hk:n.k < 7)(hz:n.z<=5)(hx:x.natAbs < 2 ^ 1000)(hy:y.natAbs < 2 ^ 1000):Ct [.int (n.k:Int),.int (n.z:Int),.int x,.int y] H=some (.int (op n x y)):=by
 refine Dd rfl ?_
 generalize hρ:(fun i=>([.int (n.k:Int),.int (n.z:Int),.int x,.int y]:List AV).getD i .undef)=ρ0
 change Rho at ρ0
 have g0:vP 0 ρ0 H=some (.int (n.k:Int)):=Ae (by rw[<- hρ];rfl)
 have g1:vP 1 ρ0 H=some (.int (n.z:Int)):=Ae (by rw[<- hρ];rfl)
 have g2:vP 2 ρ0 H=some (.int x):=Ae (by rw[<- hρ];rfl)
 have g3:vP 3 ρ0 H=some (.int y):=Ae (by rw[<- hρ];rfl)
 clear hρ
 unfold Dt op
 generalize n.k=k at hk g0
 revert g0
 refine kd (P:=fun (k:Nat)=>vP 0 ρ0 H=some (.int (k:Int))->_=some (AV.int ([x + y,x - y,x * y,-x,-1 - x,x,x * 2 ^ n.z].getD k 0))) hk ?_ ?_ ?_ ?_ ?_ ?_ ?_
 ·intro g0
  have e:fnT Mz=Kx:=by unfold fnT;rw[if_pos rfl]
  exact Fz (Lh g0 (b:=3) rfl (by decide)) (Fc (a:=Mz) (Ax (Ea rfl rfl rfl rfl rfl rfl) g0 (Ez (i:=0) rfl)) (Ac g2 (Ac g3 rfl)) (by rw[e];exact Qz))
 ·intro g0
  have e:fnT Mu=Va:=by unfold fnT;rw[if_neg (by decide),if_pos rfl]
  exact Fz (Lh g0 (b:=3) rfl (by decide)) (Fc (a:=Mu) (Ax (Ea rfl rfl rfl rfl rfl rfl) g0 (Ez (i:=1) rfl)) (Ac g2 (Ac g3 rfl)) (by rw[e];exact aK))
 ·intro g0
  have e:fnT Mx=Ku:=by unfold fnT;rw[if_neg (by decide),if_neg (by decide),if_pos rfl]
  exact Fz (Lh g0 (b:=3) rfl (by decide)) (Fc (a:=Mx) (Ax (Ea rfl rfl rfl rfl rfl rfl) g0 (Ez (i:=2) rfl)) (Ac g2 (Ac g3 rfl)) (by rw[e];exact Ms hx hy))
 ·intro g0
  have e:fnT Mw=Kt:=by unfold fnT;rw[if_neg (by decide),if_neg (by decide),if_neg (by decide),if_pos rfl]
  exact Hi (Nq g0 (b:=3) rfl (by decide)) (Fz (Lh g0 (b:=6) rfl (by decide)) (Fc (a:=Mw) (Ax (Ea rfl rfl rfl rfl rfl rfl) (Cp g0 (b:=3) rfl) (Ez (i:=0) rfl)) (Ac g2 rfl) (by rw[e];exact Qx)))
 ·intro g0
  have e:fnT My=Vb:=by unfold fnT;rw[if_neg (by decide),if_neg (by decide),if_neg (by decide),if_neg (by decide),if_pos rfl]
  exact Hi (Nq g0 (b:=3) rfl (by decide)) (Fz (Lh g0 (b:=6) rfl (by decide)) (Fc (a:=My) (Ax (Ea rfl rfl rfl rfl rfl rfl) (Cp g0 (b:=3) rfl) (Ez (i:=1) rfl)) (Ac g2 rfl) (by rw[e];exact aQ)))
 ·intro g0
  have e:fnT Mv=Ol:=by unfold fnT;rw[if_neg (by decide),if_neg (by decide),if_neg (by decide),if_neg (by decide),if_neg (by decide),if_pos rfl]
  exact Hi (Nq g0 (b:=3) rfl (by decide)) (Fz (Lh g0 (b:=6) rfl (by decide)) (Fc (a:=Mv) (Ax (Ea rfl rfl rfl rfl rfl rfl) (Cp g0 (b:=3) rfl) (Ez (i:=2) rfl)) (Ac g2 rfl) (by rw[e];exact Qw)))
 ·intro g0
  exact Hi (Nq g0 (b:=3) rfl (by decide)) (Hi (Nq g0 (b:=6) rfl (by decide)) (Dn (Ac g2 (Ac g1 rfl)) (Kw hx hz)))
theorem Jl {a b a' b':Int}(h:a=a')(h':b=b'):some (AV.tup [.int a,.int b])=some (.tup [.int a',.int b']):=by rw[h,h']
theorem aJ (hk:n.k < 7)(hz:n.z<=5)(hs:s.natAbs < 2 ^ 1000)(hx:x.natAbs < 2 ^ 1000)(hy:y.natAbs < 2 ^ 1000):Cu [.int (n.k:Int),.int (n.z:Int),.int s,.int x,.int y] H=some (.tup [.int (s * da n x y),.int (s * db n x y)]):=by
 refine Dd rfl ?_
 generalize hρ:(fun i=>([.int (n.k:Int),.int (n.z:Int),.int s,.int x,.int y]:List AV).getD i .undef)=ρ0
 change Rho at ρ0
 have g0:vP 0 ρ0 H=some (.int (n.k:Int)):=Ae (by rw[<- hρ];rfl)
 have g1:vP 1 ρ0 H=some (.int (n.z:Int)):=Ae (by rw[<- hρ];rfl)
 have g2:vP 2 ρ0 H=some (.int s):=Ae (by rw[<- hρ];rfl)
 have g3:vP 3 ρ0 H=some (.int x):=Ae (by rw[<- hρ];rfl)
 have g4:vP 4 ρ0 H=some (.int y):=Ae (by rw[<- hρ];rfl)
 clear hρ
 have hneg:Bi Kt (Aa (vP 2) Ak) ρ0 H=some (.int (-s)):=Dn (Ac g2 rfl) Qx
 have hmy:Bi Ku (Aa (vP 2) (Aa (vP 4) Ak)) ρ0 H=some (.int (s * y)):=Dn (Ac g2 (Ac g4 rfl)) (Ms hs hy)
 have hmx:Bi Ku (Aa (vP 2) (Aa (vP 3) Ak)) ρ0 H=some (.int (s * x)):=Dn (Ac g2 (Ac g3 rfl)) (Ms hs hx)
 have hpos:Bi Ol (Aa (vP 2) Ak) ρ0 H=some (.int s):=Dn (Ac g2 rfl) Qw
 have h0:cP (.int 0) ρ0 H=some (.int 0):=rfl
 have l1:=Ea (a:=.tup [.int s,.int s]) (b:=.tup [.int s,.int (-s)]) (c:=.tup [.int (s * y),.int (s * x)]) rfl rfl rfl (Kz g2 g2) (Kz g2 hneg) (Kz hmy hmx)
 have l2:=Ea (a:=.tup [.int (-s),.int 0]) (b:=.tup [.int (-s),.int 0]) (c:=.tup [.int s,.int 0]) rfl rfl rfl (Kz hneg h0) (Kz hneg h0) (Kz hpos h0)
 unfold Du da db
 generalize n.k=k at hk g0
 revert g0
 refine kd (P:=fun (k:Nat)=>vP 0 ρ0 H=some (.int (k:Int))->_=some (AV.tup [.int (s * [1,1,y,-1,-1,1,2 ^ n.z].getD k 0),.int (s * [1,-1,x,0,0,0,0].getD k 0)])) hk ?_ ?_ ?_ ?_ ?_ ?_ ?_
 ·intro g0
  exact(Fz (Lh g0 (b:=3) rfl (by decide)) (Ax l1 g0 (Ez (i:=0) rfl))).trans (Jl (Int.mul_one s).symm (Int.mul_one s).symm)
 ·intro g0
  exact(Fz (Lh g0 (b:=3) rfl (by decide)) (Ax l1 g0 (Ez (i:=1) rfl))).trans (Jl (Int.mul_one s).symm ((Int.mul_neg s 1).trans (by rw[Int.mul_one])).symm)
 ·intro g0
  exact Fz (Lh g0 (b:=3) rfl (by decide)) (Ax l1 g0 (Ez (i:=2) rfl))
 ·intro g0
  exact(Hi (Nq g0 (b:=3) rfl (by decide)) (Fz (Lh g0 (b:=6) rfl (by decide)) (Ax l2 (Cp g0 (b:=3) rfl) (Ez (i:=0) rfl)))).trans (Jl ((Int.mul_neg s 1).trans (by rw[Int.mul_one])).symm (Int.mul_zero s).symm)
 ·intro g0
  exact(Hi (Nq g0 (b:=3) rfl (by decide)) (Fz (Lh g0 (b:=6) rfl (by decide)) (Ax l2 (Cp g0 (b:=3) rfl) (Ez (i:=1) rfl)))).trans (Jl ((Int.mul_neg s 1).trans (by rw[Int.mul_one])).symm (Int.mul_zero s).symm)
 ·intro g0
  exact(Hi (Nq g0 (b:=3) rfl (by decide)) (Fz (Lh g0 (b:=6) rfl (by decide)) (Ax l2 (Cp g0 (b:=3) rfl) (Ez (i:=2) rfl)))).trans (Jl (Int.mul_one s).symm (Int.mul_zero s).symm)
 ·intro g0
  exact(Hi (Nq g0 (b:=3) rfl (by decide)) (Hi (Nq g0 (b:=6) rfl (by decide)) (Kz (Dn (Ac g2 (Ac g1 rfl)) (Kw hs hz)) h0))).trans (Jl rfl (Int.mul_zero s).symm)
end
end L01
end Mine
end
section
namespace Mine
namespace L01
noncomputable def rg {α:Type} (n:Nat) (g:Nat->α):List α:=(List.range n).map g
section
variable {α β:Type} {n k:Nat} {g g':Nat->α} {v:α}
theorem Bn:(rg n g).length=n:=by unfold rg;rw[List.length_map,List.length_range]
theorem Nx (h:k < n):(rg n g)[k]? = some (g k):=by unfold rg;rw[List.getElem?_map,List.getElem?_range h];rfl
theorem De (h:∀ i,i < n->g' i=g i):rg (n + 1) g' = rg n g++[g' n]:=by
 unfold rg
 rw[List.range_succ,List.map_append]
 exact congrArg (·++[g' n]) (List.map_congr_left fun i hi=>h i (List.mem_range.mp hi))
theorem Yu (h:∀ i,i < n->g' i=g i):rg n g' = rg n g:=List.map_congr_left fun i hi=>h i (List.mem_range.mp hi)
theorem Ys (hg:∀ j,j < n->g' j=if j=k then v else g j):(rg n g).set k v=rg n g':=by
 apply List.ext_getElem
 ·rw[List.length_set,Bn,Bn]
 ·intro i h1 h2
  rw[Bn]at h2
  simp only [rg,List.getElem_set,List.getElem_map,List.getElem_range]
  rw[hg i h2]
  by_cases e:k=i
  ·rw[if_pos e,if_pos e.symm]
  ·rw[if_neg e,if_neg (Ne.symm e)]
theorem Hr {f:α->β}:(rg n g).map f=rg n fun i=>f (g i):=by unfold rg;rw[List.map_map];rfl
theorem rg_mem {x:α}:x ∈ rg n g <-> ∃ i,i < n/\g i=x:=by
 unfold rg
 rw[List.mem_map]
 constructor
 ·rintro⟨i,hi,e⟩;exact⟨i,List.mem_range.mp hi,e⟩
 ·rintro⟨i,hi,e⟩;exact⟨i,List.mem_range.mpr hi,e⟩
theorem Nw {key:Nat->Int}{w:Nat->AV}(hk:∀ i j,i < n->j < n->key i=key j->i=j)(h:k < n):(rg n fun i=>(key i,w i)).lookup (key k)=some (w k):=by
 induction n with
 | zero=>exact absurd h (Nat.not_lt_zero k)
 | succ m ih =>
  rw[De (g:=fun i=>(key i,w i)) fun i z0=>rfl,List.lookup_append]
  by_cases e:k < m
  ·rw[ih (fun i j hi hj=>hk i j (Nat.lt_succ_of_lt hi) (Nat.lt_succ_of_lt hj)) e];rfl
  ·have:k=m:=by exact Ar.y81 h e
   rw[this]
   have hn:(rg m fun i=>(key i,w i)).lookup (key m)=none:=Cb fun q=>by
    rw[Hr]at q
    obtain⟨i,hi,e⟩:=rg_mem.mp q
    have:=hk i m (by exact Ar.y106 hi) (by exact Ar.y118) e
    exact Ar.y96 hi this
   rw[hn,List.lookup_cons,beq_self_eq_true];rfl
theorem iB {f f':Nat->Nat}(hk:k < n)(h:∀ i,i ≠ k->f' i=f i){d:Nat}(h2:f' k=f k + d):(rg n f').sum=(rg n f).sum + d:=by
 induction n with
 | zero=>exact absurd hk (Nat.not_lt_zero k)
 | succ m ih =>
  rw[De (g:=f') fun i z0=>rfl,De (g:=f) fun i z0=>rfl,List.sum_append,List.sum_append]
  by_cases e:k < m
  ·rw[ih e,h m (by exact Ar.y102 e)];exact Ar.y1
  ·have e:k=m:=by exact Ar.y81 hk e
   have:rg m f' = rg m f:=Yu fun i hi=>h i (by exact Ar.y18 e hi)
   rw[this,<- e,h2]
   refine(?_:_ + (f k + d + 0)=_ + (f k + 0) + d)
   exact Ar.y3
end
noncomputable abbrev HU (F:List Addr) (F':List AObj) (c:Nat) (ua:Nat->Addr) (uo:Nat->AObj) (t:Nat) (na:Nat->Addr) (no:Nat->AObj) (H:AH):Prop:=HS (F++rg c ua++rg t na) (F'++rg c uo++rg t no) H
section
variable {F:List Addr} {F':List AObj} {c t i:Nat} {ua na na':Nat->Addr} {uo uo' no no':Nat->AObj} {H:AH} {a:Addr} {o:AObj}
theorem HU.fl (s:HU F F' c ua uo t na no H):F.length=F'.length:=by
 have:=s.ln
 rw[List.length_append,List.length_append,List.length_append,List.length_append,Bn,Bn,Bn,Bn]at this
 exact Ar.y5 this
theorem HU.u (s:HU F F' c ua uo t na no H)(h:i < c):H (ua i)=some (uo i):=by
 have e:=HU.fl s
 refine s.at' (F.length + i) _ _ ?_ ?_
 ·rw[List.getElem?_append_left (by rw[List.length_append,Bn];exact Ar.y104 h),List.getElem?_append_right (by exact Ar.y113),Nat.add_sub_cancel_left];exact Nx h
 ·rw[List.getElem?_append_left (by rw[List.length_append,Bn];exact Ar.y98 h e),List.getElem?_append_right (by exact Ar.y20 e),e,Nat.add_sub_cancel_left];exact Nx h
theorem HU.n (s:HU F F' c ua uo t na no H)(h:i < t):H (na i)=some (no i):=by
 have e:=HU.fl s
 refine s.at' (F.length + c + i) _ _ ?_ ?_
 ·rw[List.getElem?_append_right (by rw[List.length_append,Bn];exact Ar.y110),List.length_append,Bn,Nat.add_sub_cancel_left];exact Nx h
 ·rw[List.getElem?_append_right (by rw[List.length_append,Bn];exact Ar.y19 e),List.length_append,Bn,e,Nat.add_sub_cancel_left];exact Nx h
theorem HU.f (s:HU F F' c ua uo t na no H)(i:Nat)(h:F[i]? = some a)(h':F'[i]? = some o):H a=some o:=by
 refine s.at' i _ _ ?_ ?_
 ·rw[List.append_assoc,List.getElem?_append_left (List.getElem?_eq_some_iff.mp h).1];exact h
 ·rw[List.append_assoc,List.getElem?_append_left (List.getElem?_eq_some_iff.mp h').1];exact h'
theorem HU.setU (s:HU F F' c ua uo t na no H)(h:i < c)(hg:∀ j,j < c->uo' j=if j=i then o else uo j):HU F F' c ua uo' t na no (upd H (ua i) o):=by
 have e:=HU.fl s
 have h1:=s.set (o:=o) (a:=ua i) (F.length + i) (by rw[List.getElem?_append_left (by rw[List.length_append,Bn];exact Ar.y104 h),List.getElem?_append_right (by exact Ar.y113),Nat.add_sub_cancel_left];exact Nx h)
 rw[List.set_append_left _ _ (by rw[List.length_append,Bn];exact Ar.y98 h e),List.set_append_right _ _ (by exact Ar.y20 e),e,Nat.add_sub_cancel_left,Ys hg]at h1
 exact h1
theorem HU.setN (s:HU F F' c ua uo t na no H)(h:i < t)(hg:∀ j,j < t->no' j=if j=i then o else no j):HU F F' c ua uo t na no' (upd H (na i) o):=by
 have e:=HU.fl s
 have h1:=s.set (o:=o) (a:=na i) (F.length + c + i) (by rw[List.getElem?_append_right (by rw[List.length_append,Bn];exact Ar.y110),List.length_append,Bn,Nat.add_sub_cancel_left];exact Nx h)
 rw[List.set_append_right _ _ (by rw[List.length_append,Bn];exact Ar.y19 e),List.length_append,Bn,e,Nat.add_sub_cancel_left,Ys hg]at h1
 exact h1
theorem HU.setF (s:HU F F' c ua uo t na no H)(i:Nat)(h:F[i]? = some a):HU F (F'.set i o) c ua uo t na no (upd H a o):=by
 have e:=HU.fl s
 have hi:=(List.getElem?_eq_some_iff.mp h).1
 have h1:=s.set (o:=o) (a:=a) i (by rw[List.append_assoc,List.getElem?_append_left hi];exact h)
 rw[List.append_assoc F',List.set_append_left _ _ (by exact Ar.y17 e hi),<- List.append_assoc]at h1
 exact h1
theorem HU.snocN (s:HU F F' c ua uo t na no H)(hb:H a=none)(h1:∀ i,i < t->na' i=na i)(h2:na' t=a)(h3:∀ i,i < t->no' i=no i)(h4:no' t=o):HU F F' c ua uo (t + 1) na' no' (upd H a o):=by
 have:=s.snoc (o:=o) hb
 unfold HU
 rw[De h1,De h3,h2,h4,<- List.append_assoc,<- List.append_assoc]
 exact this
theorem HU.snocU (s:HU F F' t na no 0 ua uo H)(hb:H a=none)(h1:∀ i,i < t->na' i=na i)(h2:na' t=a)(h3:∀ i,i < t->no' i=no i)(h4:no' t=o):HU F F' (t + 1) na' no' 0 ua uo (upd H a o):=by
 have:=HS.snoc (As:=F++rg t na) (os:=F'++rg t no) (o:=o) (b:=a) (H:=H) (by have:=s;unfold HU at this;exact(List.append_nil (F++rg t na) ▸ List.append_nil (F'++rg t no) ▸ this)) hb
 unfold HU
 rw[De h1,De h3,h2,h4]
 refine(?_:HS (F++(rg t na++[a])++[]) (F'++(rg t no++[o])++[]) _)
 rw[List.append_nil,List.append_nil,<- List.append_assoc,<- List.append_assoc]
 exact this
end
noncomputable abbrev dU (c:Nat) (ua:Nat->Addr):AObj:=.f (.dic false (rg c fun i=>((i:Int),AV.ref (ua i))))
noncomputable abbrev dN (c t:Nat) (na:Nat->Addr):AObj:=.f (.dic false (rg t fun i=>(((c - 1 - i:Nat):Int),AV.ref (na i))))
section
variable {C:Cx} {T':Wp AFlow} {Q K:AFlow->Rho->AH->Prop} {ρ:Rho} {H:AH} {F:List Addr} {F':List AObj} {c t i n:Nat} {ua na:Nat->Addr} {uo no:Nat->AObj} {a aU:Addr}
theorem Vi {es:List (Int × AV)}{k:Int}{v:AV}(h:H a=some (.f (.dic false es)))(hk:k ∉ es.map (·.1))(hs:v.sto=true)(hz:es.length < lim):Hl H (.ref a) (.int k) v=some (upd H a (.f (.dic false (es++[(k,v)])))):=by
 rw[Ng,h]
 exact if_pos ⟨by rw[Cb hk];rfl,hs,hz⟩
theorem fZ {Kq:AH->Prop}(hc:c<=1000):∀ (m i:Nat) (H:AH) (ua:Nat->Addr),i + m=c->HU (aU :: F) (dU i ua :: F') i ua (fun z0=>oI []) 0 (fun z0=>0) (fun z0=>oI []) H ->
  (∀ H' ua,HU (aU :: F) (dU c ua :: F') c ua (fun z0=>oI []) 0 (fun z0=>0) (fun z0=>oI []) H'->Kq H')->Kc (.one 26) (Yz ttC) (Vl (vP 26) (Zo (Ce Ak)) aU) Kq ρ ((List.range' i m).map fun (j:Nat)=>AV.int (j:Int)) H
 | 0,i,H,ua,e,s,hK=>by
  have e:i=c:=e
  rw[e]at s
  exact hK H ua s
 | m + 1,i,H,ua,e,s,hK=>by
  rw[List.range'_succ,List.map_cons]
  refine⟨ρ.set 26 (.int (i:Int)),rfl,true,rfl,fun z0=>?_,nofun⟩
  refine⟨(i:Int),Ae rfl,.lst false [],rfl,fun a fa=>?_⟩
  have lz:i < lim:=by rw[An];exact Ar.y38 hc e
  have hu:=HU.f s 0 rfl rfl
  have hne:aU ≠ a:=fun q=>by rw[q,fa]at hu;exact nqa hu
  refine⟨_,Vi (es:=rg i fun j=>((j:Int),AV.ref (ua j))) (by rw[Ab hne];exact hu) (fun q=>?_) rfl (by rw[Bn];exact lz),?_⟩
  ·rw[Hr]at q
   obtain⟨j,hj,e⟩:=rg_mem.mp q
   have:=Int.ofNat.inj e
   exact Ar.y96 hj this
  ·have s1:=HU.snocU (na':=fun j=>if j=i then a else ua j) (no':=fun z0=>oI []) (o:=oI []) s fa (fun j hj=>if_neg (Nat.ne_of_lt hj)) (if_pos rfl) (fun j hj=>rfl) rfl
   have s2:=HU.setF (o:=dU (i + 1) fun j=>if j=i then a else ua j) s1 0 rfl
   have e2:(rg i fun j=>((j:Int),AV.ref (ua j)))++[((i:Int),AV.ref a)]=rg (i + 1) fun j=>((j:Int),AV.ref (if j=i then a else ua j)):=by
    rw[De (g:=fun j=>((j:Int),AV.ref (ua j))) fun j hj=>by rw[if_neg (Nat.ne_of_lt hj)],if_pos rfl]
   rw[e2]
   exact fZ hc m (i + 1) _ _ (by exact Ar.y7 e) s2 hK
theorem ph9 (hc:c<=1000)(r3:ρ 3 = .int (c:Int))(s:HS F F' H)(hQ:∀ aU H' ua,HU (aU :: F) (dU c ua :: F') c ua (fun z0=>oI []) 0 (fun z0=>0) (fun z0=>oI []) H'->T' Q (ρ.set 10 (.ref aU)) H'):Ad st9 T' Q ρ H:=by
 unfold st9
 refine(⟨_,jY (Ae r3) (by exact Ar.y43 hc),Ff fun z0 z0=>rfl,fun aU fU=>?_⟩)
 have s1:HS (aU :: F) (dU 0 (fun z0=>0) :: F') (upd H aU (dU 0 fun z0=>0)):=s.cons (o:=dU 0 fun z0=>0) fU
 have e:(tb c fun i=>AV.int (i:Int))=(List.range' 0 c).map fun (j:Nat)=>AV.int (j:Int):=by unfold tb;rw[List.range_eq_range']
 rw[e]
 refine fZ hc c 0 _ (fun z0=>0) (Nat.zero_add c) ?_ fun H' ua s=>hQ aU H' ua s
 refine(?_:HS (aU :: F++[]++[]) (dU 0 (fun z0=>0) :: F'++[]++[]) _)
 rw[List.append_nil,List.append_nil,List.append_nil,List.append_nil]
 exact s1
end
end L01
end Mine
end
section
namespace Mine
namespace L01
noncomputable def Ca (m:Nd):List Int:=if m.k < 3 then [(m.a:Int),(m.b:Int)] else [(m.a:Int)]
theorem Ij {m:Nd}{x:Int}(h:x ∈ Ca m):x=(m.a:Int)\/x=(m.b:Int):=by
 unfold Ca at h
 by_cases q:m.k < 3
 ·rw[if_pos q]at h
  rcases List.mem_cons.mp h with e | h
  ·exact .inl e
  ·exact .inr (List.mem_singleton.mp h)
 ·rw[if_neg q]at h;exact .inl (List.mem_singleton.mp h)
theorem Zb {m:Nd}:(m.a:Int) ∈ Ca m:=by
 unfold Ca
 by_cases q:m.k < 3
 ·rw[if_pos q];exact List.mem_cons_self
 ·rw[if_neg q];exact List.mem_cons_self
theorem Za {m:Nd}(q:m.k < 3):(m.b:Int) ∈ Ca m:=by
 unfold Ca
 rw[if_pos q];exact List.mem_cons_of_mem _ List.mem_cons_self
theorem Qi {m:Nd}:(Ca m).length<=2:=by
 unfold Ca
 by_cases q:m.k < 3
 ·rw[if_pos q];exact Nat.le_refl _
 ·rw[if_neg q];exact(by decide:1<=2)
theorem jZ {f:Nat->Nat}{n k:Nat}(h:k < n):f k<=(rg n f).sum:=by
 induction n with
 | zero=>exact absurd h (Nat.not_lt_zero k)
 | succ m ih =>
  rw[De (g:=f) fun i z0=>rfl,List.sum_append]
  by_cases e:k < m
  ·have:=ih e;exact Ar.y59 this
  ·have e:k=m:=by exact Ar.y81 h e
   rw[e]
   refine(?_:f m<=_ + (f m + 0));exact Ar.y114
theorem Yt {n d:Nat}:(rg n fun z0=>d).sum=n * d:=by
 induction n with
 | zero=>rw[Nat.zero_mul];rfl
 | succ m ih =>
  rw[De (g:=fun z0=>d) fun i z0=>rfl,List.sum_append,ih,Nat.succ_mul]
  refine(?_:_ + (d + 0)=_);exact Ar.y4
section
variable {C:Cx} {T':Wp AFlow} {Q K:AFlow->Rho->AH->Prop} {ρ:Rho} {H:AH} {F:List Addr} {F':List AObj} {c t i n:Nat} {ua na:Nat->Addr} {uo no:Nat->AObj} {a aU aD aL aT aN:Addr} {f f':PF}
theorem Jy {vs:List AV}(h:H a=some (.f (.lst true vs))):Mm H (.ref a)=some vs:=by
 refine(?_:(match H a with | some (.f (.lst true vs))=>some vs | _=>none)=_)
 rw[h]
theorem iX {lk:Bool}{k:Nat}(h:H a=some (.f (.dic lk (rg c fun i=>((i:Int),AV.ref (ua i))))))(hk:k < c):idx H (.ref a) (.int (k:Int))=some (.ref (ua k)):=by
 rw[Qs,h]
 exact Nw (key:=fun (i:Nat)=>(i:Int)) (w:=fun i=>AV.ref (ua i)) (fun i j _ _ e=>Int.ofNat.inj e) hk
theorem iY {lk:Bool}{k:Nat}(h:H a=some (.f (.dic lk (rg t fun i=>(((c - 1 - i:Nat):Int),AV.ref (na i))))))(hk:k < t)(ht:t<=c):idx H (.ref a) (.int ((c - 1 - k:Nat):Int))=some (.ref (na k)):=by
 rw[Qs,h]
 exact Nw (key:=fun (i:Nat)=>((c - 1 - i:Nat):Int)) (w:=fun i=>AV.ref (na i)) (fun i j hi hj e=>by have:=Int.ofNat.inj e;exact Ar.y57 ht hi hj this) hk
theorem iE {l:List Int}{U:Nat->List Int}{node:Int}{o2:AObj}(hl:∀ x ∈ l,∃ j:Nat,j < c/\x=(j:Int))(r10:ρ 10 = .ref aU)(r11:ρ 11 = .int node)(s:HU (aU :: aD :: F) (dU c ua :: o2 :: F') c ua (fun i=>oI (U i)) t na no H)(hb:(rg c fun i=>2 * (U i).length + 3).sum + 2 * l.length<=100000)
  (hQ:∀ (ρ':Rho) (H':AH) (U':Nat->List Int),(∀ j,j ≠ 16->ρ' j=ρ j)->HU (aU :: aD :: F) (dU c ua :: o2 :: F') c ua (fun i=>oI (U' i)) t na no H'->(∀ (one:Nat) p,one < c->(p ∈ U' one <-> p ∈ U one\/(p=node/\(one:Int) ∈ l)))->(rg c fun i=>2 * (U' i).length + 3).sum=(rg c fun i=>2 * (U i).length + 3).sum + 2 * l.length->K .next ρ' H') :
  Dz (.one 16) (Ad (Bm (Kd (opP idx (vP 10) (vP 16)) (vP 11))) Ai) K (l.map .int) ρ H:=by
 refine Fp (fun m ρ' H'=>(∀ j,j ≠ 16->ρ' j=ρ j)/\∃ U':Nat->List Int,HU (aU :: aD :: F) (dU c ua :: o2 :: F') c ua (fun i=>oI (U' i)) t na no H'/\(∀ (one:Nat) p,one < c->(p ∈ U' one <-> p ∈ U one\/(p=node/\(one:Int) ∈ l.take m)))/\(rg c fun i=>2 * (U' i).length + 3).sum=(rg c fun i=>2 * (U i).length + 3).sum + 2 * m) ⟨fun j z0=>rfl,U,s,fun one p z0=>⟨.inl,fun h=>h.resolve_right fun q=>absurd q.2 List.not_mem_nil⟩,rfl⟩ ?_ ?_
 ·rintro m x ρ1 H1 K' hx ⟨rr,U1,s,hm,hs⟩ hK
  have hml:=(List.getElem?_eq_some_iff.mp hx).1
  obtain⟨j,hj,rfl⟩:=hl x (List.mem_of_getElem? hx)
  have q10:(ρ1.set 16 (.int (j:Int))) 10 = .ref aU:=(rr 10 (by decide)).trans r10
  have q11:(ρ1.set 16 (.int (j:Int))) 11 = .int node:=(rr 11 (by decide)).trans r11
  have e1:(U1 j).map AV.int++[.int node]=(U1 j++[node]).map .int:=by rw[List.map_append];rfl
  have hle:=jZ (f:=fun i=>2 * (U1 i).length + 3) hj
  refine cO (v:=.ref (ua j)) (Ax (Ah q10) (Ae rfl) (iX (HU.f s 0 rfl rfl) hj)) (Lz (HU.u s hj)) (Ae q11) (Jt (ws:=(U1 j).map AV.int++[.int node]) (HU.u s hj) (by rw[e1,List.length_map,List.length_append,List.length_singleton,An];exact Ar.y25 hb hs hml hle) (by rw[e1];exact Ay _)) ?_
  rw[e1]
  obtain⟨U2,hU1,hU2⟩:∃ U2:Nat->List Int,(∀ i,i ≠ j->U2 i=U1 i)/\U2 j=U1 j++[node]:=⟨fun i=>if i=j then U1 j++[node] else U1 i,fun i h=>if_neg h,if_pos rfl⟩
  refine(hK _ _ ⟨fun i hi=>(Bc hi).trans (rr i hi),U2,HU.setU s hj (fun i hi=>?_),fun one p ho=>?_,?_⟩).1
  ·by_cases e:i=j
   ·rw[if_pos e,e,hU2]
   ·rw[if_neg e,hU1 i e]
  ·rw[List.take_succ,hx]
   by_cases e:one=j
   ·rw[e,hU2,List.mem_append,hm j p hj,List.mem_append,List.mem_singleton]
    constructor
    ·rintro((h | h) | h)
     ·exact .inl h
     ·exact .inr ⟨h.1,.inl h.2⟩
     ·exact .inr ⟨h,.inr (List.mem_singleton.mpr rfl)⟩
    ·rintro(h | ⟨h1,h2 | h2⟩)
     ·exact .inl (.inl h)
     ·exact .inl (.inr ⟨h1,h2⟩)
     ·exact .inr h1
   ·rw[hU1 one e,hm one p ho,List.mem_append]
    refine or_congr Iff.rfl (and_congr Iff.rfl ⟨.inl,fun h=>h.resolve_right fun q=>?_⟩)
    exact e (Int.ofNat.inj (List.mem_singleton.mp q))
  ·have:=iB (f:=fun i=>2 * (U1 i).length + 3) (f':=fun i=>2 * (U2 i).length + 3) (d:=2) hj (fun i hi=>by rw[hU1 i hi]) (by rw[hU2,List.length_append,List.length_singleton];exact Ar.y2)
   exact Ar.y14 hs this
 ·rintro ρ1 H1 ⟨rr,U1,s,hm,hs⟩
  rw[List.take_length]at hm
  exact hQ ρ1 H1 U1 rr s hm hs
theorem Yr (h:f ρ H=some (.int (((3 + n:Nat):Int) - 1)))(hn:n<=1000):Pb (Aa f (Aa (cP (.int 2)) (Aa (negP (cP (.int 1))) Ak))) ρ H=some (tb n fun i=>.int ((3 + n - 1 - i:Nat):Int)):=by
 unfold Pb
 rw[Ac h (Ac (rfl:cP (.int 2) ρ H=some (.int 2)) (Ac (Gn (f:=cP (.int 1)) rfl) (rfl:Ak ρ H=some [])))]
 refine(?_:(if Dw (((3 + n:Nat):Int) - 1) 2 (-1) then some ((Dl (((3 + n:Nat):Int) - 1) 2 (-1)).map AV.int) else none)=_)
 have e:Builtin.Range.rangeSize (((3 + n:Nat):Int) - 1) 2 (-1)=(n:Int):=by
  unfold Builtin.Range.rangeSize
  rw[if_neg (by decide)]
  by_cases q:n=0
  ·rw[q,if_neg (by decide)];rfl
  ·rw[if_pos (by exact Ar.y157 q),Int.neg_neg,Int.ediv_one];exact Ar.y165
 have ok:Dw (((3 + n:Nat):Int) - 1) 2 (-1)=true:=by
  unfold Dw
  rw[e]
  simp only [Bool.and_eq_true,decide_eq_true_eq]
  have hl:lim=1048576:=An
  refine⟨⟨⟨⟨⟨⟨⟨?_,?_⟩,?_⟩,?_⟩,?_⟩,?_⟩,?_⟩,?_⟩ <;> first | decide | omega
 rw[if_pos ok]
 unfold Dl
 rw[e,List.map_map,Int.toNat_natCast]
 refine congrArg some (List.map_congr_left fun i hi=>?_)
 have:=List.mem_range.mp hi
 refine congrArg AV.int (?_:(((3 + n:Nat):Int) - 1) + (i:Int) * -1=((3 + n - 1 - i:Nat):Int))
 omega
theorem jF {c0:CF}{m m':Rho->AH->Option FObj}{b:Bool}{o:FObj}(h:c0 ρ H=some b)(h2:(if b=true then m ρ H else m' ρ H)=some o):ifM c0 m m' ρ H=some o:=by
 unfold ifM;rw[h];cases b <;> exact h2
noncomputable abbrev uS (n:Nat) (nd:Nat->Nd) (t:Nat) (U:Nat->List Int):Prop:=(∀ (one:Nat) p,one < 3 + n->(p ∈ U one <-> ∃ j,n - t<=j/\j < n/\p=((3 + j:Nat):Int)/\(one:Int) ∈ Ca (nd j)))/\(rg (3 + n) fun i=>2 * (U i).length + 3).sum<=3 * (3 + n) + 4 * t
theorem lL {nd:Nat->Nd}{oT o1:AObj}(G:Fm n nd)(hn:n<=1000)(r1:ρ 1 = .ref aN)(r3:ρ 3 = .int ((3 + n:Nat):Int))(r9:ρ 9 = .ref aD)(r10:ρ 10 = .ref aU)
  (s:HU (aU :: aD :: aL :: aT :: [aN]) (dU (3 + n) ua :: .f (.dic false []) :: o1 :: oT :: [oN n nd]) (3 + n) ua (fun z0=>oI []) 0 (fun z0=>0) (fun z0=>oI []) H)
  (hQ:∀ (ρ':Rho) (H':AH) (na:Nat->Addr) (U:Nat->List Int),(∀ j,j<=10->ρ' j=ρ j)->HU (aU :: aD :: aL :: aT :: [aN]) (dU (3 + n) ua :: dN (3 + n) n na :: o1 :: oT :: [oN n nd]) (3 + n) ua (fun i=>oI (U i)) n na (fun i=>oI (Ca (nd (n - 1 - i)))) H'->uS n nd n U->T' Q ρ' H'):Ad gT T' Q ρ H:=by
 unfold gT
 have s0:HU (aU :: aD :: aL :: aT :: [aN]) (dU (3 + n) ua :: dN (3 + n) 0 (fun z0=>0) :: o1 :: oT :: [oN n nd]) (3 + n) ua (fun z0=>oI []) 0 (fun z0=>0) (fun i=>oI (Ca (nd (n - 1 - i)))) H:=s
 refine Yo (Yr (Cp (Ae r3) (b:=1) rfl) hn) (Ff fun z0 z0=>rfl) ?_
 refine Fa (fun t ρ' H'=>(∀ j,j<=10->ρ' j=ρ j)/\∃ (na:Nat->Addr) (U:Nat->List Int),HU (aU :: aD :: aL :: aT :: [aN]) (dU (3 + n) ua :: dN (3 + n) t na :: o1 :: oT :: [oN n nd]) (3 + n) ua (fun i=>oI (U i)) t na (fun i=>oI (Ca (nd (n - 1 - i)))) H'/\uS n nd t U) ⟨fun j z0=>rfl,fun z0=>0,fun z0=>[],s0,fun one p z0=>⟨fun h=>absurd h List.not_mem_nil,fun ⟨j,h1,h2,_⟩=>by exact(Ar.y29 h1 h2).elim⟩,?_⟩ ?_ ?_
 ·refine(?_:(rg (3 + n) fun z0=>3).sum<=_)
  rw[Yt];exact Ar.y159
 ·rintro t v ρ1 H1 K' hv ⟨rr,na,U,s,hu,hz⟩ hK
  obtain⟨ht,e⟩:=List.getElem?_eq_some_iff.mp hv
  rw[Cl]at ht
  rw[Pz ht]at e
  rw[<- e]
  clear e hv
  obtain⟨j,hj⟩:∃ j,j=n - 1 - t:=⟨_,rfl⟩
  have ec:3 + n - 1 - t=3 + j:=by exact Ar.y97 ht hj
  have hjn:j < n:=by exact Ar.y13 ec
  have hk:=G.k j hjn
  have ha:=G.a j hjn
  have hb:=G.b j hjn
  refine⟨ρ1.set 11 (.int ((3 + n - 1 - t:Nat):Int)),rfl,?_⟩
  have q1:(ρ1.set 11 (.int ((3 + n - 1 - t:Nat):Int))) 1 = .ref aN:=(rr 1 (by decide)).trans r1
  have q11:(ρ1.set 11 (.int ((3 + n - 1 - t:Nat):Int))) 11 = .int ((3 + j:Nat):Int):=by rw[ec];rfl
  have rr2:∀ i,i<=10->(ρ1.set 11 (.int ((3 + n - 1 - t:Nat):Int))) i=ρ i:=fun i hi=>(Bc (by exact Ar.y32 hi)).trans (rr i hi)
  generalize (ρ1.set 11 (.int ((3 + n - 1 - t:Nat):Int)))=ρ2 at q1 q11 rr2 ⊢
  have e3:((3 + j:Nat):Int) - 3=(j:Int):=by exact Ar.y166
  have hn3:opP (iop subI) (vP 11) (cP (.int 3)) ρ2 H1=some (.int (j:Int)):=by rw[<- e3];exact Cp (Ae q11) rfl
  refine(⟨eN (nd j),Ax (Ah q1) hn3 (Ee (HU.f s 4 rfl rfl) hjn),rfl,(((ρ2.set 12 (.int ((nd j).k:Int))).set 13 (.int ((nd j).a:Int))).set 14 (.int ((nd j).b:Int))).set 15 (.int ((nd j).z:Int)),rfl,?_⟩)
  have w12:((((ρ2.set 12 (.int ((nd j).k:Int))).set 13 (.int ((nd j).a:Int))).set 14 (.int ((nd j).b:Int))).set 15 (.int ((nd j).z:Int))) 12 = .int ((nd j).k:Int):=rfl
  have w13:((((ρ2.set 12 (.int ((nd j).k:Int))).set 13 (.int ((nd j).a:Int))).set 14 (.int ((nd j).b:Int))).set 15 (.int ((nd j).z:Int))) 13 = .int ((nd j).a:Int):=rfl
  have w14:((((ρ2.set 12 (.int ((nd j).k:Int))).set 13 (.int ((nd j).a:Int))).set 14 (.int ((nd j).b:Int))).set 15 (.int ((nd j).z:Int))) 14 = .int ((nd j).b:Int):=rfl
  have w11:((((ρ2.set 12 (.int ((nd j).k:Int))).set 13 (.int ((nd j).a:Int))).set 14 (.int ((nd j).b:Int))).set 15 (.int ((nd j).z:Int))) 11 = .int ((3 + j:Nat):Int):=q11
  have rr3:∀ i,i<=10->((((ρ2.set 12 (.int ((nd j).k:Int))).set 13 (.int ((nd j).a:Int))).set 14 (.int ((nd j).b:Int))).set 15 (.int ((nd j).z:Int))) i=ρ i:=fun i hi=>by
   rw[Bc (by exact Ar.y36 hi),Bc (by exact Ar.y35 hi),Bc (by exact Ar.y34 hi),Bc (by exact Ar.y33 hi)];exact rr2 i hi
  refine(?_:Ad _ _ _ ((((ρ2.set 12 (.int ((nd j).k:Int))).set 13 (.int ((nd j).a:Int))).set 14 (.int ((nd j).b:Int))).set 15 (.int ((nd j).z:Int))) H1)
  generalize ((((ρ2.set 12 (.int ((nd j).k:Int))).set 13 (.int ((nd j).a:Int))).set 14 (.int ((nd j).b:Int))).set 15 (.int ((nd j).z:Int)))=ρ3 at w11 w12 w13 w14 rr3 ⊢
  have hmk:ifM (Aw ltV (vP 12) (cP (.int 3))) (Ce (Aa (vP 13) (Aa (vP 14) Ak))) (Ce (Aa (vP 13) Ak)) ρ3 H1=some (.lst false ((Ca (nd j)).map .int)):=by
   refine jF (b:=decide (((nd j).k:Int) < 3)) (Ev (Ae w12) (w:=.int 3) rfl rfl) ?_
   unfold Ca
   by_cases q:(nd j).k < 3
   ·rw[if_pos q,decide_eq_true (by exact Ar.y151 q),if_pos rfl]
    exact El (Ac (Ae w13) (Ac (Ae w14) rfl)) (by rw[An];exact(by decide:2<=1048576)) rfl
   ·rw[if_neg q,decide_eq_false (by exact Ar.y156 q),if_neg Bool.false_ne_true]
    exact El (Ac (Ae w13) rfl) (by rw[An];exact(by decide:1<=1048576)) rfl
  have y9:ρ3 9 = .ref aD:=(rr3 9 (by decide)).trans r9
  have y10:ρ3 10 = .ref aU:=(rr3 10 (by decide)).trans r10
  refine(⟨_,hmk,fun a fa=>?_⟩)
  obtain⟨na',h1,rfl⟩:∃ na':Nat->Addr,(∀ i,i < t->na' i=na i)/\na' t=a:=⟨fun i=>if i=t then a else na i,fun i hi=>if_neg (Nat.ne_of_lt hi),if_pos rfl⟩
  have s1:=HU.snocN (no':=fun i=>oI (Ca (nd (n - 1 - i)))) (o:=oI (Ca (nd j))) s fa h1 rfl (fun i z0=>rfl) (by rw[hj])
  refine(?_:∃ ov iv H',_/\_/\Hl (upd H1 (na' t) (oI (Ca (nd j)))) ov iv (.ref (na' t))=some H'/\_)
  generalize (upd H1 (na' t) (oI (Ca (nd j))))=H2 at s1 ⊢
  have e4:(rg t fun i=>(((3 + n - 1 - i:Nat):Int),AV.ref (na i)))++[(((3 + j:Nat):Int),AV.ref (na' t))]=rg (t + 1) fun i=>(((3 + n - 1 - i:Nat):Int),AV.ref (na' i)):=by
   rw[De (g:=fun i=>(((3 + n - 1 - i:Nat):Int),AV.ref (na i))) (fun i hi=>by rw[h1 i hi]),<- ec]
  refine⟨.ref aD,.int ((3 + j:Nat):Int),_,Ah y9,Ae w11,Vi (HU.f s1 1 rfl rfl) (fun q=>?_) rfl (by rw[Bn,An];exact Ar.y39 hn ec),?_⟩
  ·rw[Hr]at q
   obtain⟨i,hi,e⟩:=rg_mem.mp q
   have:=Int.ofNat.inj e
   exact Ar.y10 ec hi this
  have s2:=HU.setF (o:=dN (3 + n) (t + 1) na') s1 1 rfl
  rw[e4]
  refine(?_:Ad _ _ _ ρ3 (upd H2 aD (dN (3 + n) (t + 1) na')))
  generalize (upd H2 aD (dN (3 + n) (t + 1) na'))=H3 at s2 ⊢
  have hnt:=HU.n s2 (i:=t) (Nat.lt_succ_self t)
  have e5:oI (Ca (nd (n - 1 - t)))=oI (Ca (nd j)):=by rw[hj]
  rw[e5]at hnt
  refine Qf hnt rfl ?_
  have s3:=HU.setN (i:=t) (o:=.f (.lst true ((Ca (nd j)).map .int))) (no':=fun i=>if i=t then .f (.lst true ((Ca (nd j)).map .int)) else oI (Ca (nd (n - 1 - i)))) s2 (Nat.lt_succ_self t) (fun i z0=>rfl)
  refine(?_:Ja _ _ _ _ ρ3 (upd H3 (na' t) (.f (.lst true ((Ca (nd j)).map .int)))))
  have hlk:upd H3 (na' t) (.f (.lst true ((Ca (nd j)).map .int))) (na' t)=some (.f (.lst true ((Ca (nd j)).map .int))):=Af
  generalize (upd H3 (na' t) (.f (.lst true ((Ca (nd j)).map .int))))=H4 at s3 hlk ⊢
  refine⟨(Ca (nd j)).map .int,Tc (v:=.ref (na' t)) (Ax (Ah y9) (Ae (w11.trans (by rw[<- ec]))) (iY (HU.f s3 1 rfl rfl) (Nat.lt_succ_self t) (by exact Ar.y11 ec))) (Jy hlk),Ay _,?_⟩
  have l2:=Qi (m:=nd j)
  refine iE (fun x hx=>?_) y10 w11 s3 (by exact Ar.y40 hn hz ec l2) fun ρ4 H5 U' r4 s4 hm hs=>?_
  ·rcases Ij hx with e | e
   ·exact⟨_,by exact Ar.y101 hjn ha,e⟩
   ·exact⟨_,by exact Ar.y101 hjn hb,e⟩
  ·have s5:=HU.setN (i:=t) (o:=oI (Ca (nd j))) (no':=fun i=>oI (Ca (nd (n - 1 - i)))) s4 (Nat.lt_succ_self t) (fun i z0=>by
    by_cases q:i=t
    ·rw[if_pos q,q,hj]
    ·rw[if_neg q,if_neg q])
   refine(hK ρ4 _ ⟨fun i hi=>(r4 i (by exact Ar.y37 hi)).trans (rr3 i hi),na',U',s5,fun one p ho=>?_,by exact Ar.y31 hz l2 hs⟩).1
   rw[hm one p ho,hu one p ho]
   constructor
   ·rintro(⟨i,g1,g2,g3⟩ | ⟨g1,g2⟩)
    ·exact⟨i,by exact Ar.y30 g1,g2,g3⟩
    ·exact⟨j,by exact Ar.y12 ec,hjn,g1,g2⟩
   ·rintro⟨i,g1,g2,g3,g4⟩
    by_cases q:i=j
    ·rw[q]at g3 g4;exact .inr ⟨g3,g4⟩
    ·exact .inl ⟨i,by exact Ar.y9 ec g1 q,g2,g3,g4⟩
 ·rintro ρ1 H1 ⟨rr,na,U,s,hu⟩
  rw[Cl]at s hu
  exact hQ ρ1 H1 na U rr s hu
end
end L01
end Mine
end
section
namespace Mine
namespace L01
theorem Pl {H H':AH}{d:Addr}{es:GEs}(h:GOk H d es)(k:Keep H H'):GOk H' d es:=by
 obtain⟨hd,hl,hz⟩:=h
 exact⟨k _ _ hd,fun p hp=>k _ _ (hl p hp),hz⟩
noncomputable def esN (n:Nat) (nd:Nat->Nd) (na:Nat->Addr):GEs:=rg n fun t=>(((3 + n - 1 - t:Nat):Int),na t,Ca (nd (n - 1 - t)))
noncomputable def esU (n:Nat) (ua:Nat->Addr) (U:Nat->List Int):GEs:=rg (3 + n) fun i=>((i:Int),ua i,U i)
theorem Wm {f:Nat->Nat}{n d:Nat}(h:∀ i,i < n->f i<=d):(rg n f).sum<=n * d:=by
 induction n with
 | zero=>rw[Nat.zero_mul];exact Nat.le_refl _
 | succ m ih =>
  rw[De (g:=f) fun i z0=>rfl,List.sum_append,Nat.succ_mul]
  have:=ih fun i hi=>h i (Nat.lt_succ_of_lt hi)
  have:=h m (Nat.lt_succ_self m)
  refine(?_:_ + (f m + 0)<=_);exact Ar.y56 (by assumption) this
section
variable {n:Nat} {nd:Nat->Nd} {ua na:Nat->Addr} {U:Nat->List Int} {H:AH} {aU aD aL aT aN:Addr} {oT o1:AObj}
theorem lQ (hn:n<=70)(s:HU (aU :: aD :: aL :: aT :: [aN]) (dU (3 + n) ua :: dN (3 + n) n na :: o1 :: oT :: [oN n nd]) (3 + n) ua (fun i=>oI (U i)) n na (fun i=>oI (Ca (nd (n - 1 - i)))) H):GOk H aD (esN n nd na):=by
 refine⟨?_,fun p hp=>?_,?_⟩
 ·have:=HU.f s 1 rfl rfl
  rw[this]
  refine congrArg (fun z=>some (AObj.f (.dic false z))) ?_
  unfold esN
  rw[Hr]
 ·obtain⟨i,hi,rfl⟩:=rg_mem.mp hp
  exact HU.n s hi
 ·unfold esN
  rw[Hr]
  have:=Wm (n:=n) (f:=fun i=>2 * (Ca (nd (n - 1 - i))).length + 3) (d:=7) fun i _=>by
   have:=Qi (m:=nd (n - 1 - i))
   exact Ar.y45 this
  refine Nat.lt_of_le_of_lt this ?_
  exact Ar.y154 hn
theorem lP (hn:n<=70)(hu:uS n nd n U)(s:HU (aU :: aD :: aL :: aT :: [aN]) (dU (3 + n) ua :: dN (3 + n) n na :: o1 :: oT :: [oN n nd]) (3 + n) ua (fun i=>oI (U i)) n na (fun i=>oI (Ca (nd (n - 1 - i)))) H):GOk H aU (esU n ua U):=by
 refine⟨?_,fun p hp=>?_,?_⟩
 ·have:=HU.f s 0 rfl rfl
  rw[this]
  refine congrArg (fun z=>some (AObj.f (.dic false z))) ?_
  unfold esU
  rw[Hr]
 ·obtain⟨i,hi,rfl⟩:=rg_mem.mp hp
  exact HU.u s hi
 ·unfold esU
  rw[Hr]
  have:=hu.2
  refine Nat.lt_of_le_of_lt this ?_
  exact Ar.y55 hn
theorem Ve {j:Nat}(hj:j < n):(((3 + j:Nat):Int),na (n - 1 - j),Ca (nd j)) ∈ esN n nd na:=by
 unfold esN
 refine rg_mem.mpr ⟨n - 1 - j,by exact Ar.y105 hj,?_⟩
 have e1:3 + n - 1 - (n - 1 - j)=3 + j:=by exact Ar.y93 hj
 have e2:n - 1 - (n - 1 - j)=j:=by exact Ar.y8 e1
 rw[e1,e2]
theorem bB {e:Int × Addr × List Int}(h:e ∈ esN n nd na):∃ j,j < n/\e.1=((3 + j:Nat):Int)/\e.2.2=Ca (nd j):=by
 unfold esN at h
 obtain⟨t,ht,rfl⟩:=rg_mem.mp h
 exact⟨n - 1 - t,by exact Ar.y105 ht,congrArg (fun z:Nat=>(z:Int)) (by exact Ar.y94 ht),rfl⟩
theorem iG {M x y x' y':Int}{m:Nd}(hk:m.k < 7)(h:Cg M x x')(h':m.k < 3->Cg M y y'):Cg M (op m x y) (op m x' y'):=by
 by_cases q:m.k < 3
 ·exact Ze hk h (h' q)
 ·have e:op m x y=op m x y':=by
   unfold op
   revert q
   exact kd (P:=fun k=>¬ k < 3->[x + y,x - y,x * y,-x,-1 - x,x,x * 2 ^ m.z].getD k 0=[x + y',x - y',x * y',-x,-1 - x,x,x * 2 ^ m.z].getD k 0) hk (fun h=>absurd (by decide) h) (fun h=>absurd (by decide) h) (fun h=>absurd (by decide) h) (fun _=>rfl) (fun _=>rfl) (fun _=>rfl) fun _=>rfl
  rw[e]
  exact Ze hk h (.refl _)
theorem Iv {D:List Int}{i:Nat}{x y:Int}(hx:D[i]? = some x)(h:y ∈ D.take (i + 1)):y ∈ D.take i\/y=x:=by
 rw[List.take_succ,hx]at h
 rcases List.mem_append.mp h with h | h
 ·exact .inl h
 ·exact .inr (List.mem_singleton.mp h)
end
section
variable {C:Cx} {T':Wp AFlow} {Q K:AFlow->Rho->AH->Prop} {ρ:Rho} {H H0:AH} {n i:Nat} {nd:Nat->Nd} {na ua:Nat->Addr} {U:Nat->List Int} {lf v0:Nat->Int} {T:Int} {turn:Int} {a aU aD aL aT aN aV aS:Addr} {f:PF}
noncomputable abbrev oT (T:Int):AObj:=.f (.lst false [.int T,.int (-T)])
theorem Uz {x:Int}(h:f ρ H=some (.int x)):Aw gtG f (cP (.int 2)) ρ H=some (decide (2 < x)):=Ev h (w:=.int 2) rfl rfl
theorem Ty {k it ik:Nat}(hT:H aT=some (oT T))(h7:ρ it = .ref aT)(hk:ρ ik = .int (k:Int)):opP idx (vP it) (opP (iop Bt) (vP ik) (cP (.int 2))) ρ H=some (.int (tp T k)):=by
 have e:((k:Int) % 2)=((k % 2:Nat):Int):=(Int.natCast_emod k 2).symm
 refine Ax (Ah h7) ((Cw (b:=2) (Ae hk) rfl (by decide)).trans (congrArg (fun z=>some (AV.int z)) e)) (lN hT ?_)
 unfold tp
 by_cases q:k % 2=1
 ·rw[if_pos q,q];rfl
 ·rw [if_neg q,(by exact Ar.y155 q:k % 2=0)]; rfl
theorem lK (G:Fm n nd)(hn:n<=70)(hT:0 < T)(hT2:T < 2 ^ 200)(gD:GOk H0 aD (esN n nd na))(hN:H0 aN=some (oN n nd))(hTo:H0 aT=some (oT T))(kp:Keep H0 H)(fV:H0 aV=none)(hV:H aV=some (oV (3 + n) v0))(r1:ρ 1 = .ref aN)(r5:ρ 5 = .int turn)(r7:ρ 7 = .ref aT)(r9:ρ 9 = .ref aD)(r17:ρ 17 = .ref aV)
  (hb:∀ j,j < 3 + n->(v0 j).natAbs < 2 ^ 500) (hlf:∀ V,Pv n nd lf (T * T) (-1) 0 V->∀ j,j < 3->v0 j=rp T j (V j))
  (hQ:∀ ρ' H' val,(∀ j,j<=10\/16<=j->ρ' j=ρ j)->Keep H0 H'->H' aV=some (oV (3 + n) val)->(∀ j,j < 3 + n->(val j).natAbs < 2 ^ 500)->(∀ V,Pv n nd lf (T * T) (-1) 0 V->∀ j,j < 3 + n->val j=rp T j (V j))->T' Q ρ' H'):Ad (gS C) T' Q ρ H:=by
 unfold gS
 refine(⟨[.ref aD,.int turn],Ac (Ah r9) (Ac (Ae r5) rfl),rfl,Md (rk:=fun x=>x.toNat) (Pl gD kp) (fun e he p hp=>?_) fun aO H2 D kp2 nO hO od=>?_⟩)
 ·obtain⟨j,hj,e1,e2⟩:=bB he
  rw[e1]
  rw[e2]at hp
  have ha:=G.a j hj
  have hb:=G.b j hj
  rcases Ij hp with q | q
  ·rw[q,Int.toNat_natCast,Int.toNat_natCast];exact ha
  ·rw[q,Int.toNat_natCast,Int.toNat_natCast];exact hb
 refine⟨aO,.lst false (D.map .int),D.map .int,hO,rfl,Jy Af,Ay _,?_⟩
 have kpO:Keep H0 H2:=fun b o h=>kp2 b o (kp b o h)
 have fO:H0 aO=none:=kp.none nO
 have hVO:aV ≠ aO:=fun q=>by rw[q,nO]at hV;exact nqa hV
 have kp3:Keep H0 (upd H2 aO (.f (FObj.hold (.lst false (D.map .int))))):=kpO.upd fO
 have hV3:upd H2 aO (.f (FObj.hold (.lst false (D.map .int)))) aV=some (oV (3 + n) v0):=by rw[Ab hVO];exact kp2 _ _ hV
 generalize (upd H2 aO (.f (FObj.hold (.lst false (D.map .int)))))=H3 at kp3 hV3 ⊢
 have Dk:∀ x ∈ D,∃ k:Nat,k < 3 + n/\x=(k:Int):=fun x hx=>by
  obtain⟨e,he,h⟩:=(od.mem x).mp hx
  obtain⟨j,hj,e1,e2⟩:=bB he
  rcases h with h | h
  ·exact⟨3 + j,by exact Ar.y103 hj,h.trans e1⟩
  ·rw[e2]at h
   have ha:=G.a j hj
   have hb:=G.b j hj
   rcases Ij h with q | q
   ·exact⟨_,by exact Ar.y101 hj ha,q⟩
   ·exact⟨_,by exact Ar.y101 hj hb,q⟩
 refine Fp (fun i ρ' H'=>(∀ j,j<=10\/16<=j->ρ' j=ρ j)/\Keep H0 H'/\∃ val:Nat->Int,H' aV=some (oV (3 + n) val)/\(∀ j,j < 3 + n->(val j).natAbs < 2 ^ 500)/\∀ V,Pv n nd lf (T * T) (-1) 0 V->∀ j:Nat,j < 3 + n->(j < 3\/(j:Int) ∈ D.take i)->val j=rp T j (V j)) ⟨fun j z0=>rfl,kp3,v0,hV3,hb,fun V p j hj h=>hlf V p j (h.resolve_right fun q=>absurd q List.not_mem_nil)⟩ ?_ ?_
 ·rintro i x ρ1 H4 K' hx ⟨rr,kp4,val,hV4,bd,hv⟩ hK
  obtain⟨k,hk,rfl⟩:=Dk x (List.mem_of_getElem? hx)
  have q11:(ρ1.set 11 (.int (k:Int))) 11 = .int (k:Int):=rfl
  have rr2:∀ j,j<=10\/16<=j->(ρ1.set 11 (.int (k:Int))) j=ρ j:=fun j hj=>(Bc (by exact Ar.y64 hj)).trans (rr j hj)
  generalize (ρ1.set 11 (.int (k:Int)))=ρ2 at q11 rr2 ⊢
  by_cases h3:k < 3
  ·refine Ma ((Uz (Ae q11)).trans (congrArg some (decide_eq_false (by exact Ar.y150 h3)))) ?_
   refine(hK ρ2 H4 ⟨rr2,kp4,val,hV4,bd,fun V p j hj h=>?_⟩).1
   rcases h with h | h
   ·exact hv V p j hj (.inl h)
   ·rcases Iv hx h with h | h
    ·exact hv V p j hj (.inr h)
    ·exact hv V p j hj (.inl (by have:=Int.ofNat.inj h;exact Ar.y85 h3 this))
  ·obtain⟨j,rfl⟩:∃ j,k=3 + j:=⟨k - 3,by exact Ar.y61 h3⟩
   have hj:j < n:=by exact Ar.y76 hk
   have hk7:=G.k j hj
   have ha:=G.a j hj
   have hb:=G.b j hj
   have hz:=G.z j hj
   refine Wi ((Uz (Ae q11)).trans (congrArg some (decide_eq_true (by exact Ar.y162)))) (Js ?_)
   have e3:((3 + j:Nat):Int) - 3=(j:Int):=by exact Ar.y166
   have hn3:opP (iop subI) (vP 11) (cP (.int 3)) ρ2 H4=some (.int (j:Int)):=by rw[<- e3];exact Cp (Ae q11) rfl
   have hN4:=kp4 _ _ hN
   have hT4:=kp4 _ _ hTo
   refine(⟨eN (nd j),Ax (Ah ((rr2 1 (by decide)).trans r1)) hn3 (Ee hN4 hj),rfl,(((ρ2.set 12 (.int ((nd j).k:Int))).set 13 (.int ((nd j).a:Int))).set 14 (.int ((nd j).b:Int))).set 15 (.int ((nd j).z:Int)),rfl,?_⟩)
   have w12:((((ρ2.set 12 (.int ((nd j).k:Int))).set 13 (.int ((nd j).a:Int))).set 14 (.int ((nd j).b:Int))).set 15 (.int ((nd j).z:Int))) 12 = .int ((nd j).k:Int):=rfl
   have w13:((((ρ2.set 12 (.int ((nd j).k:Int))).set 13 (.int ((nd j).a:Int))).set 14 (.int ((nd j).b:Int))).set 15 (.int ((nd j).z:Int))) 13 = .int ((nd j).a:Int):=rfl
   have w14:((((ρ2.set 12 (.int ((nd j).k:Int))).set 13 (.int ((nd j).a:Int))).set 14 (.int ((nd j).b:Int))).set 15 (.int ((nd j).z:Int))) 14 = .int ((nd j).b:Int):=rfl
   have w15:((((ρ2.set 12 (.int ((nd j).k:Int))).set 13 (.int ((nd j).a:Int))).set 14 (.int ((nd j).b:Int))).set 15 (.int ((nd j).z:Int))) 15 = .int ((nd j).z:Int):=rfl
   have w11:((((ρ2.set 12 (.int ((nd j).k:Int))).set 13 (.int ((nd j).a:Int))).set 14 (.int ((nd j).b:Int))).set 15 (.int ((nd j).z:Int))) 11 = .int ((3 + j:Nat):Int):=q11
   have rr3:∀ i,i<=10\/16<=i->((((ρ2.set 12 (.int ((nd j).k:Int))).set 13 (.int ((nd j).a:Int))).set 14 (.int ((nd j).b:Int))).set 15 (.int ((nd j).z:Int))) i=ρ i:=fun i hi=>by
    rw[Bc (by exact Ar.y68 hi),Bc (by exact Ar.y67 hi),Bc (by exact Ar.y66 hi),Bc (by exact Ar.y65 hi)];exact rr2 i hi
   refine(?_:Ad _ _ _ ((((ρ2.set 12 (.int ((nd j).k:Int))).set 13 (.int ((nd j).a:Int))).set 14 (.int ((nd j).b:Int))).set 15 (.int ((nd j).z:Int))) H4)
   generalize ((((ρ2.set 12 (.int ((nd j).k:Int))).set 13 (.int ((nd j).a:Int))).set 14 (.int ((nd j).b:Int))).set 15 (.int ((nd j).z:Int)))=ρ3 at w11 w12 w13 w14 w15 rr3 ⊢
   have y17:ρ3 17 = .ref aV:=(rr3 17 (by decide)).trans r17
   have y7:ρ3 7 = .ref aT:=(rr3 7 (by decide)).trans r7
   have h500:∀ {x:Int},x.natAbs < 2 ^ 500->x.natAbs < 2 ^ 1000:=fun h=>Nat.lt_trans h (Nat.pow_lt_pow_right (by decide) (by decide))
   have hval:Bi Kv (Aa (Bi Ct (Aa (vP 12) (Aa (vP 15) (Aa (opP idx (vP 17) (vP 13)) (Aa (opP idx (vP 17) (vP 14)) Ak))))) (Aa (opP idx (vP 7) (opP (iop Bt) (vP 11) (cP (.int 2)))) Ak)) ρ3 H4=some (.int (rp T (3 + j) (op (nd j) (val (nd j).a) (val (nd j).b)))) :=
    Dn (Ac (Dn (Ac (Ae w12) (Ac (Ae w15) (Ac (Ax (Ah y17) (Ae w13) (Ee hV4 (by exact Ar.y101 hj ha))) (Ac (Ax (Ah y17) (Ae w14) (Ee hV4 (by exact Ar.y101 hj hb))) rfl)))) (Vq hk7 hz (h500 (bd _ (by exact Ar.y101 hj ha))) (h500 (bd _ (by exact Ar.y101 hj hb))))) (Ac (Ty hT4 y7 w11) rfl)) (Qy hT)
   obtain⟨val',hv1,hv2⟩:∃ val':Nat->Int,(∀ i,i ≠ 3 + j->val' i=val i)/\val' (3 + j)=rp T (3 + j) (op (nd j) (val (nd j).a) (val (nd j).b)):=⟨fun i=>if i=3 + j then rp T (3 + j) (op (nd j) (val (nd j).a) (val (nd j).b)) else val i,fun i h=>if_neg h,if_pos rfl⟩
   refine jT hval rfl (Ah y17) (Ae w11) (Ua hV4 hk rfl) ?_
   have ev:(tb (3 + n) fun i=>if i=3 + j then AV.int (rp T (3 + j) (op (nd j) (val (nd j).a) (val (nd j).b))) else .int (val i))=tb (3 + n) fun i=>.int (val' i):=Hz fun i hi=>by
    by_cases q:i=3 + j
    ·rw[if_pos q,q,hv2]
    ·rw[if_neg q,hv1 i q]
   rw[ev]
   refine(hK ρ3 _ ⟨rr3,kp4.upd fV,val',Af,fun i hi=>?_,fun V p u hu h=>?_⟩).1
   ·by_cases q:i=3 + j
    ·rw[q,hv2]
     have h1:=Yq (x:=op (nd j) (val (nd j).a) (val (nd j).b)) (i:=3 + j) hT
     have h2:T.natAbs < 2 ^ 500:=by
      have:T.natAbs < 2 ^ 200:=by omega
      exact Nat.lt_trans this (Nat.pow_lt_pow_right (by decide) (by decide))
     exact Nat.lt_trans h1 h2
    ·rw[hv1 i q];exact bd i hi
   ·by_cases q:u=3 + j
    ·rw[q,hv2]
     refine jV ?_
     have hV:=p.node j hj
     rw[show (if ((3 + j:Nat):Int) = -1 then (0:Int) else 0)=0 from ite_self _,Int.add_zero]at hV
     have c1:Cg T (V (3 + j)) (op (nd j) (V (nd j).a) (V (nd j).b)):=by rw[hV];exact Cg.mod.of_mul
     have inA:∀ y:Nat,y < 3 + n->(y:Int) ∈ Ca (nd j)->Cg T (val y) (V y):=fun y hy hp=>by
      have hm:=od.bef i _ (Ve hj) hx _ hp
      rw[hv V p y hy (.inr hm)];exact Ug
     exact(iG hk7 (inA _ (by exact Ar.y78 ha hu q) Zb) fun q=>inA _ (by exact Ar.y78 hb hu (by assumption)) (Za q)).trans c1.symm
    ·rw[hv1 u q]
     refine hv V p u hu ?_
     rcases h with h | h
     ·exact .inl h
     ·rcases Iv hx h with h | h
      ·exact .inr h
      ·exact absurd (Int.ofNat.inj h) q
 ·rintro ρ1 H4 ⟨rr,kp4,val,hV4,bd,hv⟩
  rw[List.take_length]at hv
  refine hQ ρ1 _ val rr (kp4.upd fO) (by rw[Ab hVO];exact hV4) bd fun V p j hj=>hv V p j hj ?_
  by_cases h3:j < 3
  ·exact .inl h3
  ·obtain⟨k,rfl⟩:∃ k,j=3 + k:=⟨j - 3,by exact Ar.y61 h3⟩
   exact .inr ((od.mem _).mpr ⟨_,Ve (by exact Ar.y76 hj),.inl rfl⟩)
end
end L01
end Mine
end
section
namespace Mine
namespace L01
theorem Ql {D:List Int}{i:Nat}{x:Int}(hn:D.Nodup)(hx:D[i]? = some x):x ∉ D.take i:=by
 intro h
 obtain⟨hi,e⟩:=List.getElem?_eq_some_iff.mp hx
 obtain⟨j,hj,e2⟩:=List.getElem_of_mem h
 rw[List.length_take]at hj
 rw[List.getElem_take]at e2
 have:=(List.getElem_inj hn).mp (e2.trans e.symm)
 exact Ar.y92 hj this
theorem Lw {D:List Int}{i j:Nat}{x:Int}(hij:i<=j)(h:x ∈ D.take i):x ∈ D.take j:=by
 have:D.take i=(D.take j).take i:=by rw[List.take_take,Nat.min_eq_left hij]
 rw[this]at h
 exact List.mem_of_mem_take h
noncomputable def gv (n:Nat) (nd:Nat->Nd) (val sl:Nat->Int) (P:Int->Prop) [DecidablePred P] (j:Nat):Int:=sm (fun k=>(if P ((3 + k:Nat):Int) then sl (3 + k) else 0) * cb nd val k j) n
section
variable {n:Nat} {nd:Nat->Nd} {val sl sl2:Nat->Int} {D:List Int} {T:Int} {i j0:Nat}
theorem dP (hj:j0 < n)(hx:D[i]? = some ((3 + j0:Nat):Int))(hn:D.Nodup)(h1:∀ j,j < 3 + n->Cg T (sl2 j) (sl j + sl (3 + j0) * cb nd val j0 j))(h2:∀ k,k < n->((3 + k:Nat):Int) ∈ D.take (i + 1)->Cg T (sl2 (3 + k)) (sl (3 + k)))(hI:∀ j,j < 3 + n->Cg T (sl j) (1 + gv n nd val sl (fun x=>x ∈ D.take i) j)) :
  ∀ j,j < 3 + n->Cg T (sl2 j) (1 + gv n nd val sl2 (fun x=>x ∈ D.take (i + 1)) j):=by
 intro j hjn
 refine(h1 j hjn).trans ?_
 refine((hI j hjn).add (.refl _)).trans ?_
 rw[Int.add_assoc]
 refine(Cg.refl 1).add ?_
 have e:gv n nd val sl (fun x=>x ∈ D.take i) j + sl (3 + j0) * cb nd val j0 j=gv n nd val sl (fun x=>x ∈ D.take (i + 1)) j:=by
  have h3:=Sb (f:=fun k=>sl (3 + k) * cb nd val k j) (k:=j0) (n:=n)
  rw[if_pos hj]at h3
  unfold gv
  rw[<- h3,<- sm_add]
  refine Cm fun k hk=>?_
  have hnt:=Ql hn hx
  by_cases q:k=j0
  ·rw[q,if_neg hnt,if_pos rfl,if_pos (by rw[List.take_succ,hx];exact List.mem_append_right _ (List.mem_singleton.mpr rfl)),Int.zero_mul,Int.zero_add]
  ·rw[if_neg q,Int.add_zero]
   by_cases p:((3 + k:Nat):Int) ∈ D.take i
   ·rw[if_pos p,if_pos (Lw (Nat.le_succ i) p)]
   ·rw[if_neg p,if_neg fun z=>(Iv hx z).elim p fun e=>q (by have:=Int.ofNat.inj e;exact Ar.y6 this)]
 rw[e]
 refine Qb fun k hk=>Cg.mul ?_ (.refl _)
 by_cases p:((3 + k:Nat):Int) ∈ D.take (i + 1)
 ·rw[if_pos p,if_pos p];exact(h2 k hk p).symm
 ·rw[if_neg p,if_neg p];exact .refl _
theorem dQ (hx:D[i]? = some ((j0:Nat):Int))(h:j0 < 3)(j:Nat):gv n nd val sl (fun x=>x ∈ D.take (i + 1)) j=gv n nd val sl (fun x=>x ∈ D.take i) j:=by
 refine Cm fun k hk=>?_
 by_cases p:((3 + k:Nat):Int) ∈ D.take i
 ·rw[if_pos p,if_pos (Lw (Nat.le_succ i) p)]
 ·rw[if_neg p,if_neg fun z=>(Iv hx z).elim p fun e=>by have:=Int.ofNat.inj e;exact Ar.y84 h this]
theorem jE (h:∀ k,k < n->((3 + k:Nat):Int) ∈ D)(hI:∀ j,j < 3 + n->Cg T (sl j) (1 + gv n nd val sl (fun x=>x ∈ D) j)):Sl n nd val T sl:=by
 intro j hj
 refine(hI j hj).trans ((Cg.refl 1).add (.of ?_))
 exact Cm fun k hk=>by rw[if_pos (h k hk)]
theorem jD {j:Nat}:gv n nd val sl (fun x=>x ∈ ([]:List Int)) j=0:=by
 have:gv n nd val sl (fun x=>x ∈ ([]:List Int)) j=sm (fun z0=>0) n:=Cm fun k hk=>by rw[if_neg List.not_mem_nil,Int.zero_mul]
 rw[this,sm_zero]
end
section
variable {C:Cx} {T':Wp AFlow} {Q K:AFlow->Rho->AH->Prop} {ρ:Rho} {H H0:AH} {n i:Nat} {nd:Nat->Nd} {na ua:Nat->Addr} {U:Nat->List Int} {val:Nat->Int} {T:Int} {turn:Int} {a aU aD aL aT aN aV aS:Addr} {f:PF}
theorem eM {sl:Nat->Int}{d:Int}{k ik id:Nat}(hT:0 < T)(hTo:H aT=some (oT T))(hS:H aS=some (oV n sl))(hk:k < n)(r7:ρ 7 = .ref aT)(r18:ρ 18 = .ref aS)(rk:ρ ik = .int (k:Int))(rd:ρ id = .int d)
  (hq:∀ sl',(∀ j,j ≠ k->sl' j=sl j)->sl' k=rp T k (sl k + d)->T' Q ρ (upd H aS (oV n sl'))) :
  Ad (Vx (Aq (Bi Kv (Aa (Bi Kx (Aa (opP idx (vP 18) (vP ik)) (Aa (vP id) Ak))) (Aa (opP idx (vP 7) (opP (iop Bt) (vP ik) (cP (.int 2)))) Ak)))) (vP 18) (vP ik)) T' Q ρ H:=by
 have hval:Bi Kv (Aa (Bi Kx (Aa (opP idx (vP 18) (vP ik)) (Aa (vP id) Ak))) (Aa (opP idx (vP 7) (opP (iop Bt) (vP ik) (cP (.int 2)))) Ak)) ρ H=some (.int (rp T k (sl k + d))) :=
  Dn (Ac (Dn (Ac (Ax (Ah r18) (Ae rk) (Ee hS hk)) (Ac (Ae rd) rfl)) Qz) (Ac (Ty hTo r7 rk) rfl)) (Qy hT)
 obtain⟨sl',h1,h2⟩:∃ sl':Nat->Int,(∀ j,j ≠ k->sl' j=sl j)/\sl' k=rp T k (sl k + d):=⟨fun j=>if j=k then rp T k (sl k + d) else sl j,fun j h=>if_neg h,if_pos rfl⟩
 refine jT hval rfl (Ah r18) (Ae rk) (Ua hS hk rfl) ?_
 have ev:(tb n fun i=>if i=k then AV.int (rp T k (sl k + d)) else .int (sl i))=tb n fun i=>.int (sl' i):=Hz fun i hi=>by
  by_cases q:i=k
  ·rw[if_pos q,q,h2]
  ·rw[if_neg q,h1 i q]
 rw[ev]
 exact hq sl' h1 h2
theorem lJ (G:Fm n nd)(hn:n<=70)(hT:0 < T)(hT2:T < 2 ^ 200)(gU:GOk H0 aU (esU n ua U))(hu:uS n nd n U)(hN:H0 aN=some (oN n nd))(hTo:H0 aT=some (oT T))(hV:H0 aV=some (oV (3 + n) val))(kp:Keep H0 H)(fS:H0 aS=none)(hS:H aS=some (oV (3 + n) fun z0=>1))(r1:ρ 1 = .ref aN)(r5:ρ 5 = .int turn)(r7:ρ 7 = .ref aT)(r10:ρ 10 = .ref aU)(r17:ρ 17 = .ref aV)(r18:ρ 18 = .ref aS)
  (hb:∀ j,j < 3 + n->(val j).natAbs < 2 ^ 500)
  (hQ:∀ (ρ':Rho) (H':AH) (sl:Nat->Int),(∀ j,j<=10\/(16<=j/\j<=18)\/21<=j->ρ' j=ρ j)->Keep H0 H'->H' aS=some (oV (3 + n) sl)->(∀ j,j < 3 + n->(sl j).natAbs < 2 ^ 500)->Sl n nd val T sl->T' Q ρ' H'):Ad (gR C) T' Q ρ H:=by
 unfold gR
 refine(⟨[.ref aU,.int turn],Ac (Ah r10) (Ac (Ae r5) rfl),rfl,Md (rk:=fun x=>3 + n - x.toNat) (Pl gU kp) (fun e he p hp=>?_) fun aO H2 D kp2 nO hO od=>?_⟩)
 ·obtain⟨one,ho,rfl⟩:=rg_mem.mp he
  obtain⟨j,_,hj,e,hm⟩:=(hu.1 one p ho).mp hp
  have ha:=G.a j hj
  have hb:=G.b j hj
  refine(?_:3 + n - p.toNat < 3 + n - ((one:Nat):Int).toNat)
  rw[e,Int.toNat_natCast,Int.toNat_natCast]
  rcases Ij hm with q | q
  ·have:=Int.ofNat.inj q;exact Ar.y100 hj ha this
  ·have:=Int.ofNat.inj q;exact Ar.y100 hj hb this
 refine⟨aO,.lst false (D.map .int),D.map .int,hO,rfl,Jy Af,Ay _,?_⟩
 have kpO:Keep H0 H2:=fun b o h=>kp2 b o (kp b o h)
 have fO:H0 aO=none:=kp.none nO
 have hSO:aS ≠ aO:=fun q=>by rw[q,nO]at hS;exact nqa hS
 have kp3:Keep H0 (upd H2 aO (.f (FObj.hold (.lst false (D.map .int))))):=kpO.upd fO
 have hS3:upd H2 aO (.f (FObj.hold (.lst false (D.map .int)))) aS=some (oV (3 + n) fun z0=>1):=by rw[Ab hSO];exact kp2 _ _ hS
 generalize (upd H2 aO (.f (FObj.hold (.lst false (D.map .int)))))=H3 at kp3 hS3 ⊢
 have inD:∀ k:Nat,k < 3 + n->(k:Int) ∈ D:=fun k hk=>(od.mem _).mpr ⟨_,rg_mem.mpr ⟨k,hk,rfl⟩,.inl rfl⟩
 have Dk:∀ x ∈ D,∃ k:Nat,k < 3 + n/\x=(k:Int):=fun x hx=>by
  obtain⟨e,he,h⟩:=(od.mem x).mp hx
  obtain⟨one,ho,rfl⟩:=rg_mem.mp he
  rcases h with h | h
  ·exact⟨one,ho,h⟩
  ·obtain⟨j,_,hj,e,hm⟩:=(hu.1 one x ho).mp h
   exact⟨3 + j,by exact Ar.y103 hj,e⟩
 have one500:∀ {x:Int},x.natAbs < T.natAbs->x.natAbs < 2 ^ 500:=fun h=>by
  have:T.natAbs < 2 ^ 200:=by omega
  exact Nat.lt_trans h (Nat.lt_trans this (Nat.pow_lt_pow_right (by decide) (by decide)))
 refine Fp (fun i ρ' H'=>(∀ j,j<=10\/(16<=j/\j<=18)\/21<=j->ρ' j=ρ j)/\Keep H0 H'/\∃ sl:Nat->Int,H' aS=some (oV (3 + n) sl)/\(∀ j,j < 3 + n->(sl j).natAbs < 2 ^ 500)/\∀ j,j < 3 + n->Cg T (sl j) (1 + gv n nd val sl (fun x=>x ∈ D.take i) j)) ⟨fun j z0=>rfl,kp3,fun z0=>1,hS3,fun j z0=>(by decide:1 < 2 ^ 500),fun j z0=>.of (by rw[List.take_zero,jD];rfl)⟩ ?_ ?_
 ·rintro i x ρ1 H4 K' hx ⟨rr,kp4,sl,hS4,bd,hI⟩ hK
  obtain⟨k,hk,rfl⟩:=Dk x (List.mem_of_getElem? hx)
  have q11:(ρ1.set 11 (.int (k:Int))) 11 = .int (k:Int):=rfl
  have rr2:∀ j,j<=10\/(16<=j/\j<=18)\/21<=j->(ρ1.set 11 (.int (k:Int))) j=ρ j:=fun j hj=>(Bc (by exact Ar.y69 hj)).trans (rr j hj)
  generalize (ρ1.set 11 (.int (k:Int)))=ρ2 at q11 rr2 ⊢
  by_cases h3:k < 3
  ·refine Ma ((Uz (Ae q11)).trans (congrArg some (decide_eq_false (by exact Ar.y150 h3)))) ?_
   refine(hK ρ2 H4 ⟨rr2,kp4,sl,hS4,bd,fun j hj=>?_⟩).1
   rw[dQ hx h3];exact hI j hj
  ·obtain⟨j,rfl⟩:∃ j,k=3 + j:=⟨k - 3,by exact Ar.y61 h3⟩
   have hj:j < n:=by exact Ar.y76 hk
   have hk7:=G.k j hj
   have ha:=G.a j hj
   have hbb:=G.b j hj
   have hz:=G.z j hj
   refine Wi ((Uz (Ae q11)).trans (congrArg some (decide_eq_true (by exact Ar.y162)))) (Js ?_)
   have e3:((3 + j:Nat):Int) - 3=(j:Int):=by exact Ar.y166
   have hn3:opP (iop subI) (vP 11) (cP (.int 3)) ρ2 H4=some (.int (j:Int)):=by rw[<- e3];exact Cp (Ae q11) rfl
   have hN4:=kp4 _ _ hN
   have hT4:=kp4 _ _ hTo
   have hV4:=kp4 _ _ hV
   refine(⟨eN (nd j),Ax (Ah ((rr2 1 (by decide)).trans r1)) hn3 (Ee hN4 hj),rfl,(((ρ2.set 12 (.int ((nd j).k:Int))).set 13 (.int ((nd j).a:Int))).set 14 (.int ((nd j).b:Int))).set 15 (.int ((nd j).z:Int)),rfl,?_⟩)
   have w12:((((ρ2.set 12 (.int ((nd j).k:Int))).set 13 (.int ((nd j).a:Int))).set 14 (.int ((nd j).b:Int))).set 15 (.int ((nd j).z:Int))) 12 = .int ((nd j).k:Int):=rfl
   have w13:((((ρ2.set 12 (.int ((nd j).k:Int))).set 13 (.int ((nd j).a:Int))).set 14 (.int ((nd j).b:Int))).set 15 (.int ((nd j).z:Int))) 13 = .int ((nd j).a:Int):=rfl
   have w14:((((ρ2.set 12 (.int ((nd j).k:Int))).set 13 (.int ((nd j).a:Int))).set 14 (.int ((nd j).b:Int))).set 15 (.int ((nd j).z:Int))) 14 = .int ((nd j).b:Int):=rfl
   have w15:((((ρ2.set 12 (.int ((nd j).k:Int))).set 13 (.int ((nd j).a:Int))).set 14 (.int ((nd j).b:Int))).set 15 (.int ((nd j).z:Int))) 15 = .int ((nd j).z:Int):=rfl
   have w11:((((ρ2.set 12 (.int ((nd j).k:Int))).set 13 (.int ((nd j).a:Int))).set 14 (.int ((nd j).b:Int))).set 15 (.int ((nd j).z:Int))) 11 = .int ((3 + j:Nat):Int):=q11
   have rr3:∀ i,i<=10\/(16<=i/\i<=18)\/21<=i->((((ρ2.set 12 (.int ((nd j).k:Int))).set 13 (.int ((nd j).a:Int))).set 14 (.int ((nd j).b:Int))).set 15 (.int ((nd j).z:Int))) i=ρ i:=fun i hi=>by
    rw[Bc (by exact Ar.y73 hi),Bc (by exact Ar.y72 hi),Bc (by exact Ar.y71 hi),Bc (by exact Ar.y70 hi)];exact rr2 i hi
   refine(?_:Ad _ _ _ ((((ρ2.set 12 (.int ((nd j).k:Int))).set 13 (.int ((nd j).a:Int))).set 14 (.int ((nd j).b:Int))).set 15 (.int ((nd j).z:Int))) H4)
   generalize ((((ρ2.set 12 (.int ((nd j).k:Int))).set 13 (.int ((nd j).a:Int))).set 14 (.int ((nd j).b:Int))).set 15 (.int ((nd j).z:Int)))=ρ3 at w11 w12 w13 w14 w15 rr3 ⊢
   have y17:ρ3 17 = .ref aV:=(rr3 17 (by decide)).trans r17
   have y18:ρ3 18 = .ref aS:=(rr3 18 (by decide)).trans r18
   have y7:ρ3 7 = .ref aT:=(rr3 7 (by decide)).trans r7
   have h500:∀ {x:Int},x.natAbs < 2 ^ 500->x.natAbs < 2 ^ 1000:=fun h=>Nat.lt_trans h (Nat.pow_lt_pow_right (by decide) (by decide))
   have hgv:Bi Cu (Aa (vP 12) (Aa (vP 15) (Aa (opP idx (vP 18) (vP 11)) (Aa (opP idx (vP 17) (vP 13)) (Aa (opP idx (vP 17) (vP 14)) Ak))))) ρ3 H4=some (.tup [.int (sl (3 + j) * da (nd j) (val (nd j).a) (val (nd j).b)),.int (sl (3 + j) * db (nd j) (val (nd j).a) (val (nd j).b))]) :=
    Dn (Ac (Ae w12) (Ac (Ae w15) (Ac (Ax (Ah y18) (Ae w11) (Ee hS4 hk)) (Ac (Ax (Ah y17) (Ae w13) (Ee hV4 (by exact Ar.y101 hj ha))) (Ac (Ax (Ah y17) (Ae w14) (Ee hV4 (by exact Ar.y101 hj hbb))) rfl))))) (aJ hk7 hz (h500 (bd _ hk)) (h500 (hb _ (by exact Ar.y101 hj ha))) (h500 (hb _ (by exact Ar.y101 hj hbb))))
   obtain⟨dA,hdA⟩:∃ z,z=da (nd j) (val (nd j).a) (val (nd j).b):=⟨_,rfl⟩
   obtain⟨dB,hdB⟩:∃ z,z=db (nd j) (val (nd j).a) (val (nd j).b):=⟨_,rfl⟩
   rw[<- hdA,<- hdB]at hgv
   refine(⟨_,hgv,rfl,(ρ3.set 19 (.int (sl (3 + j) * dA))).set 20 (.int (sl (3 + j) * dB)),rfl,?_⟩)
   have x13:((ρ3.set 19 (.int (sl (3 + j) * dA))).set 20 (.int (sl (3 + j) * dB))) 13 = .int ((nd j).a:Int):=w13
   have x14:((ρ3.set 19 (.int (sl (3 + j) * dA))).set 20 (.int (sl (3 + j) * dB))) 14 = .int ((nd j).b:Int):=w14
   have x19:((ρ3.set 19 (.int (sl (3 + j) * dA))).set 20 (.int (sl (3 + j) * dB))) 19 = .int (sl (3 + j) * dA):=rfl
   have x20:((ρ3.set 19 (.int (sl (3 + j) * dA))).set 20 (.int (sl (3 + j) * dB))) 20 = .int (sl (3 + j) * dB):=rfl
   have x18:((ρ3.set 19 (.int (sl (3 + j) * dA))).set 20 (.int (sl (3 + j) * dB))) 18 = .ref aS:=y18
   have x7:((ρ3.set 19 (.int (sl (3 + j) * dA))).set 20 (.int (sl (3 + j) * dB))) 7 = .ref aT:=y7
   have rr4:∀ i,i<=10\/(16<=i/\i<=18)\/21<=i->((ρ3.set 19 (.int (sl (3 + j) * dA))).set 20 (.int (sl (3 + j) * dB))) i=ρ i:=fun i hi=>by
    rw[Bc (by exact Ar.y75 hi),Bc (by exact Ar.y74 hi)];exact rr3 i hi
   refine(?_:Ad _ _ _ ((ρ3.set 19 (.int (sl (3 + j) * dA))).set 20 (.int (sl (3 + j) * dB))) H4)
   generalize ((ρ3.set 19 (.int (sl (3 + j) * dA))).set 20 (.int (sl (3 + j) * dB)))=ρ4 at x7 x13 x14 x18 x19 x20 rr4 ⊢
   refine eM hT hT4 hS4 (by exact Ar.y101 hj ha) x7 x18 x13 x19 fun sl1 g1 g2=>?_
   have kp5:=Keep.upd (o:=oV (3 + n) sl1) kp4 fS
   have hS5:upd H4 aS (oV (3 + n) sl1) aS=some (oV (3 + n) sl1):=Af
   generalize (upd H4 aS (oV (3 + n) sl1))=H5 at kp5 hS5 ⊢
   refine eM hT (kp5 _ _ hTo) hS5 (by exact Ar.y101 hj hbb) x7 x18 x14 x20 fun sl2 g3 g4=>?_
   have kp6:=Keep.upd (o:=oV (3 + n) sl2) kp5 fS
   have c1:∀ u,Cg T (sl1 u) (sl u + sl (3 + j) * if u=(nd j).a then dA else 0):=fun u=>by
    by_cases q:u=(nd j).a
    ·rw[if_pos q,q,g2];exact Ug
    ·rw[if_neg q,g1 u q,Int.mul_zero,Int.add_zero];exact .refl _
   have c2:∀ u,Cg T (sl2 u) (sl u + sl (3 + j) * cb nd val j u):=fun u=>by
    have hc:Cg T (sl2 u) (sl1 u + sl (3 + j) * if u=(nd j).b then dB else 0):=by
     by_cases q:u=(nd j).b
     ·rw[if_pos q,q,g4];exact Ug
     ·rw[if_neg q,g3 u q,Int.mul_zero,Int.add_zero];exact .refl _
    refine(hc.trans ((c1 u).add (.refl _))).trans (.of ?_)
    unfold cb
    rw[<- hdA,<- hdB,Int.mul_add,Int.add_assoc]
   have hnt:=Ql od.nd hx
   have notin:∀ y:Nat,y < 3 + n->(y:Int) ∈ Ca (nd j)->(y:Int) ∉ D.take (i + 1):=fun y hy hp hm=>by
    have hin:((3 + j:Nat):Int) ∈ U y:=(hu.1 y _ hy).mpr ⟨j,by exact Ar.y112,hj,rfl,hp⟩
    obtain⟨i',hi',e⟩:=List.getElem_of_mem hm
    rw[List.length_take]at hi'
    rw[List.getElem_take]at e
    have hb2:=od.bef i' _ (rg_mem.mpr ⟨y,hy,rfl⟩) (List.getElem?_eq_some_iff.mpr ⟨by exact Ar.y91 hi',e⟩) _ hin
    exact hnt (Lw (by exact Ar.y90 hi') hb2)
   refine(hK ρ4 _ ⟨rr4,kp6,sl2,Af,fun u hu2=>?_,dP hj hx od.nd (fun u _=>c2 u) (fun k hk hm=>?_) hI⟩).1
   ·by_cases q:u=(nd j).b
    ·rw[q,g4];exact one500 (Yq hT)
    ·rw[g3 u q]
     by_cases q2:u=(nd j).a
     ·rw[q2,g2];exact one500 (Yq hT)
     ·rw[g1 u q2];exact bd u hu2
   ·refine(c2 (3 + k)).trans (.of ?_)
    have z:cb nd val j (3 + k)=0:=by
     unfold cb
     rw[if_neg fun q=>notin _ (by exact Ar.y95 hk q) Zb (by rw[<- q];exact hm),Int.zero_add]
     by_cases q:3 + k=(nd j).b
     ·rw[if_pos q]
      by_cases q3:(nd j).k < 3
      ·exact absurd (by rw[<- q];exact hm) (notin (nd j).b (by exact Ar.y95 hk q) (Za q3))
      ·exact kR hk7 q3
     ·rw[if_neg q]
    rw[z,Int.mul_zero,Int.add_zero]
 ·rintro ρ1 H4 ⟨rr,kp4,sl,hS4,bd,hI⟩
  rw[List.take_length]at hI
  exact hQ ρ1 _ sl rr (kp4.upd fO) (by rw[Ab hSO];exact hS4) bd (jE (fun k hk=>inD _ (by exact Ar.y103 hk)) hI)
end
end L01
end Mine
end
section
namespace Mine
namespace L01
noncomputable def bas (j:Nat):Nd:=if j=0 then ⟨2,0,1,1⟩ else if j=1 then ⟨1,2,3,1⟩ else if j=2 then ⟨2,4,4,1⟩ else ⟨0,5,3,1⟩
noncomputable def Sa (x c:Int):Nd:=⟨(x % 7).toNat,(c - 1 - x / 7 % c).toNat,(x / 7 / c % c).toNat,(1 + x / 7 / c % 5).toNat⟩
noncomputable def ndS (xs:List Int) (j:Nat):Nd:=if j < 4 then bas j else Sa (xs.getD (j - 4) 0) ((3 + j:Nat):Int)
theorem Tz {x:Int} {c:Nat} (hc:0 < c):(Sa x c).k < 7 /\ (Sa x c).a < c /\ (Sa x c).b < c /\ (Sa x c).z <= 5 /\ eN (Sa x c) = .tup [.int (x % 7),.int ((c:Int) - 1 - x / 7 % c),.int (x / 7 / c % c),.int (1 + x / 7 / c % 5)]:=by
 have h1:=Int.emod_nonneg x (b:=7) (by decide)
 have h2:=Int.emod_lt_of_pos x (b:=7) (by decide)
 have h3:=Int.emod_nonneg (x / 7) (b:=(c:Int)) (by exact Ar.y149 hc)
 have h4:=Int.emod_lt_of_pos (x / 7) (b:=(c:Int)) (by exact Ar.y148 hc)
 have h5:=Int.emod_nonneg (x / 7 / c) (b:=(c:Int)) (by omega)
 have h6:=Int.emod_lt_of_pos (x / 7 / c) (b:=(c:Int)) (by omega)
 have h7:=Int.emod_nonneg (x / 7 / c) (b:=5) (by decide)
 have h8:=Int.emod_lt_of_pos (x / 7 / c) (b:=5) (by decide)
 refine⟨?_,?_,?_,?_,?_⟩
 ·refine (?_:(x % 7).toNat < 7); exact Ar.y123
 ·refine (?_:((c:Int) - 1 - x / 7 % c).toNat < c); exact Ar.y145 h3 h5 h6
 ·refine (?_:(x / 7 / c % c).toNat < c); omega
 ·refine (?_:(1 + x / 7 / c % 5).toNat <= 5); exact Ar.y122
 ·refine (?_:AV.tup [.int ((x % 7).toNat:Int),.int (((c:Int) - 1 - x / 7 % c).toNat:Int),.int ((x / 7 / c % c).toNat:Int),.int ((1 + x / 7 / c % 5).toNat:Int)]=_)
  rw[Int.toNat_of_nonneg h1,Int.toNat_of_nonneg (by exact Ar.y146 h4),Int.toNat_of_nonneg h5,Int.toNat_of_nonneg (by exact Ar.y125)]
theorem bas_ok {j:Nat}:(bas j).k < 7/\(j < 4->(bas j).a < 3 + j/\(bas j).b < 3 + j)/\(bas j).z<=5:=by
 unfold bas
 by_cases h0:j=0
 ·rw[if_pos h0,h0];decide
 by_cases h1:j=1
 ·rw[if_neg h0,if_pos h1,h1];decide
 by_cases h2:j=2
 ·rw[if_neg h0,if_neg h1,if_pos h2,h2];decide
 rw[if_neg h0,if_neg h1,if_neg h2]
 refine⟨by decide,fun h=>?_,by decide⟩
 refine(?_:5 < 3 + j/\3 < 3 + j)
 exact Ar.y60 h0 h1 h2
theorem iK (xs:List Int)(n:Nat):Fm n (ndS xs):=by
 have key:∀ j,(ndS xs j).k < 7/\(ndS xs j).a < 3 + j/\(ndS xs j).b < 3 + j/\(ndS xs j).z<=5:=fun j=>by
  unfold ndS
  by_cases h:j < 4
  ·rw[if_pos h]
   exact⟨bas_ok.1,(bas_ok.2.1 h).1,(bas_ok.2.1 h).2,bas_ok.2.2⟩
  ·rw[if_neg h]
   obtain⟨a,b,c,d,_⟩:=Tz (x:=xs.getD (j - 4) 0) (c:=3 + j) (by exact Ar.y117)
   exact⟨a,b,c,d⟩
 exact⟨fun j _=>(key j).1,fun j _=>(key j).2.1,fun j _=>(key j).2.2.1,fun j _=>(key j).2.2.2⟩
theorem gI {n:Nat}{v:AV}:List.replicate n v=tb n fun z0=>v:=by
 induction n with
 | zero=>rfl
 | succ m ih=>rw[List.replicate_succ',ih];exact Ll (fun i z0=>rfl) rfl
theorem Yw {n:Nat}{v:AV}:(List.replicate n [v]).flatten=List.replicate n v:=by
 induction n with
 | zero=>rfl
 | succ m ih=>rw[List.replicate_succ,List.flatten_cons,ih];rfl
theorem gJ {n:Nat}{g g':Nat->AV}{v:AV}(h:∀ i,i < 3->g i=g' i)(h2:∀ i,3<=i->g' i=v):tb 3 g++List.replicate n v=tb (3 + n) g':=by
 induction n with
 | zero=>exact(List.append_nil _).trans (Hz h)
 | succ m ih =>
  rw[List.replicate_succ',<- List.append_assoc,ih]
  exact Ll (fun i z0=>rfl) (h2 _ (by exact Ar.y111))
theorem Ye {V:Nat->Int}:∀ {n:Nat},((List.range n).map V).sum=sm V n
 | 0=>rfl
 | n + 1=>by
  rw[List.range_succ,List.map_append,List.sum_append,Ye]
  refine(?_:_ + (V n + 0)=_)
  rw[Int.add_zero];rfl
theorem Re:∀ {l:List Int},eqL (eqA 6) (l.map .int) (l.map .int)=some true
 | []=>rfl
 | a :: l=>by
  refine(?_:(match some (a == a),eqL (eqA 6) (l.map AV.int) (l.map .int) with
   | some b,some c=>some (b && c)
   | _,_=>none)=some true)
  rw[Re,beq_self_eq_true];rfl
section
variable {C:Cx} {T':Wp AFlow} {Q K:AFlow->Rho->AH->Prop} {ρ:Rho} {H:AH} {f f':PF} {c:Nat}
theorem Zk {l:List Int}{v w:AV}(h1:Av H v=some (l.map .int))(h2:Av H w=some (l.map .int)):neG H v w=some false:=by
 unfold neG eqV
 rw[h1,h2]
 refine(?_:Option.map _ (if (l.map AV.int).length ≠ (l.map AV.int).length then some false else eqL (eqA 6) (l.map .int) (l.map .int))=_)
 rw[if_neg fun q=>q rfl,Re];rfl
theorem Yc {n:Nat}{V:Nat->Int}:(tb n fun i=>AV.int (V i))=((List.range n).map V).map .int:=by unfold tb;rw[List.map_map];rfl
theorem fR {a:Addr}{V:Nat->Int}(h:f ρ H=some (.ref a))(ha:H a=some (oV c V)):bP' Ow (Aa f Ak) ρ H=some (.int (sm V c)):=by
 refine dZ (Ac h rfl) ?_
 refine(?_:(Mf H (.ref a)).map (fun l=>AV.int l.sum)=_)
 rw[Ws (l:=(List.range c).map V) (lk:=false) (by rw[ha,<- Yc]),<- Ye];rfl
theorem Vd {v:AV}{f:PF}{n:Nat}{g:Rho->AH->Option FObj}(hg:g ρ H=some (.lst false [v]))(hs:v.sto=true)(hf:f ρ H=some (.int (n:Int)))(hn:n<=1000):Ce (Sm (Jo (Ge g)) f) ρ H=some (.lst false (List.replicate n v)):=by
 have h1:Sm (Jo (Ge g)) f ρ H=some (List.replicate n v):=by
  unfold Sm
  rw[Tb (Nc hg) rfl,hf]
  refine(if_pos ⟨by exact Ar.y161,?_,by omega⟩).trans (congrArg some ?_)
  ·rw[Int.toNat_natCast,Yw]
  ·rw[Int.toNat_natCast,An]
   refine(?_:1 * n<=_);exact Ar.y42 hn
 refine El h1 (by rw[List.length_replicate,An];exact Ar.y44 hn) (stos_iff.mpr fun u hu=>?_)
 rw[List.eq_of_mem_replicate hu];exact hs
end
end L01
end Mine
end
section
namespace Mine
namespace L01
section
variable {C:Cx} {T':Wp AFlow} {Q K:AFlow->Rho->AH->Prop} {ρ:Rho} {H H0:AH} {f f':PF} {n:Nat} {nd:Nat->Nd} {lf val sl V:Nat->Int} {T turn:Int} {aN aT aL aV aS aP:Addr} {xs:List Int}
theorem cH (m:Nat):((2 ^ m:Nat):Int)=(2:Int) ^ m:=by simp
theorem jS {T:Int}(h:T.natAbs < 2 ^ 200):(T * T).natAbs < 2 ^ 400:=by
 rw[Int.natAbs_mul]
 have e:(2:Nat) ^ 400=2 ^ 200 * 2 ^ 200:=(Nat.pow_add 2 200 200)
 rw[e]
 exact Nat.mul_lt_mul'' h h
theorem ph2 (hz:xs.length<=63)(r0:ρ 0 = .fl (xs.map .int))(r1:ρ 1 = .ref aN)(hN:H aN=some (oN 4 (ndS xs)))(hQ:∀ ρ' H',ρ' 0 = .fl (xs.map .int)->ρ' 1 = .ref aN->H' aN=some (oN (4 + xs.length) (ndS xs))->T' Q ρ' H'):Ad st2 T' Q ρ H:=by
 unfold st2
 refine Yo (Tc (eK r0) rfl) (Ay _) ?_
 refine Fp (fun i ρ' H'=>ρ' 0 = .fl (xs.map .int)/\ρ' 1 = .ref aN/\H' aN=some (oN (4 + i) (ndS xs))) ⟨r0,r1,hN⟩ ?_ ?_
 ·rintro i x ρ1 H1 K' hx ⟨q0,q1,hN⟩ hK
  have hi:=(List.getElem?_eq_some_iff.mp hx).1
  have w0:(ρ1.set 2 (.int x)) 0 = .fl (xs.map .int):=q0
  have w1:(ρ1.set 2 (.int x)) 1 = .ref aN:=q1
  have w2:(ρ1.set 2 (.int x)) 2 = .int x:=rfl
  generalize (ρ1.set 2 (.int x))=ρ2 at w0 w1 w2 ⊢
  have hl:bP' Er (Aa (vP 1) Ak) ρ2 H1=some (.int ((4 + i:Nat):Int)):=by
   have:=Pm (Ah (H:=H1) w1) hN
   rw[Cl]at this;exact this
  have ec:(3:Int) + ((4 + i:Nat):Int)=((3 + (4 + i):Nat):Int):=by exact Ar.y163
  refine Jr (v:=.int ((3 + (4 + i):Nat):Int)) ((Ew (a:=3) rfl hl).trans (congrArg (fun z=>some (AV.int z)) ec)) rfl ?_
  have hd7:∀ (ρ':Rho),ρ' 2 = .int x->opP (iop Hk) (vP 2) (cP (.int 7)) ρ' H1=some (.int (x / 7)):=fun ρ' h=>Td (b:=7) (Ae h) rfl (by decide) (by decide)
  have u2:(ρ2.set 3 (.int ((3 + (4 + i):Nat):Int))) 2 = .int x:=w2
  have u3:(ρ2.set 3 (.int ((3 + (4 + i):Nat):Int))) 3 = .int ((3 + (4 + i):Nat):Int):=rfl
  have u0:(ρ2.set 3 (.int ((3 + (4 + i):Nat):Int))) 0 = .fl (xs.map .int):=w0
  have u1:(ρ2.set 3 (.int ((3 + (4 + i):Nat):Int))) 1 = .ref aN:=w1
  refine(?_:Ad _ _ _ (ρ2.set 3 (.int ((3 + (4 + i):Nat):Int))) H1)
  generalize (ρ2.set 3 (.int ((3 + (4 + i):Nat):Int)))=ρ3 at u0 u1 u2 u3 ⊢
  have cpos:(0:Int) < ((3 + (4 + i):Nat):Int):=by omega
  refine Jr (v:=.int (x / 7 / ((3 + (4 + i):Nat):Int))) (Td (hd7 _ u2) (Ae u3) cpos (by omega)) rfl ?_
  have v2:(ρ3.set 4 (.int (x / 7 / ((3 + (4 + i):Nat):Int)))) 2 = .int x:=u2
  have v3:(ρ3.set 4 (.int (x / 7 / ((3 + (4 + i):Nat):Int)))) 3 = .int ((3 + (4 + i):Nat):Int):=u3
  have v0:(ρ3.set 4 (.int (x / 7 / ((3 + (4 + i):Nat):Int)))) 0 = .fl (xs.map .int):=u0
  have v1:(ρ3.set 4 (.int (x / 7 / ((3 + (4 + i):Nat):Int)))) 1 = .ref aN:=u1
  have v4:(ρ3.set 4 (.int (x / 7 / ((3 + (4 + i):Nat):Int)))) 4 = .int (x / 7 / ((3 + (4 + i):Nat):Int)):=rfl
  refine(?_:Ad _ _ _ (ρ3.set 4 (.int (x / 7 / ((3 + (4 + i):Nat):Int)))) H1)
  generalize (ρ3.set 4 (.int (x / 7 / ((3 + (4 + i):Nat):Int))))=ρ4 at v0 v1 v2 v3 v4 ⊢
  have et:Ex (Aa (opP (iop Bt) (vP 2) (cP (.int 7))) (Aa (opP (iop subI) (opP (iop subI) (vP 3) (cP (.int 1))) (opP (iop Bt) (opP (iop Hk) (vP 2) (cP (.int 7))) (vP 3))) (Aa (opP (iop Bt) (vP 4) (vP 3)) (Aa (opP (iop Es) (cP (.int 1)) (opP (iop Bt) (vP 4) (cP (.int 5)))) Ak)))) ρ4 H1=some (eN (ndS xs (4 + i))):=by
   have e1:ndS xs (4 + i)=Sa x ((3 + (4 + i):Nat):Int):=by
    unfold ndS
    rw[if_neg (by exact Ar.y115),Nat.add_sub_cancel_left,List.getD_eq_getElem?_getD,hx];rfl
   rw[e1,(Tz (x:=x) (c:=3 + (4 + i)) (by exact Ar.y116)).2.2.2.2]
   exact Om (Ac (Cw (b:=7) (Ae v2) rfl (by decide)) (Ac (Cp (Cp (Ae v3) (b:=1) rfl) (Cw (hd7 _ v2) (Ae v3) cpos)) (Ac (Cw (Ae v4) (Ae v3) cpos) (Ac (Ew (a:=1) rfl (Cw (b:=5) (Ae v4) rfl (by decide))) rfl)))) (by rw[An];exact(by decide:4<=1048576))
  have es:(tb (4 + i) fun j=>eN (ndS xs j))++[eN (ndS xs (4 + i))]=tb (4 + (i + 1)) fun j=>eN (ndS xs j):=Ll (fun j _=>rfl) rfl
  refine cO (Ah v1) (Lz hN) et (Jt (ws:=(tb (4 + i) fun j=>eN (ndS xs j))++[eN (ndS xs (4 + i))]) hN (by rw[es,Cl,An];exact Ar.y49 hz hi) (by rw[es];exact Ff fun z0 z0=>rfl)) ?_
  rw[es]
  exact(hK ρ4 _ ⟨v0,v1,Af⟩).1
 ·rintro ρ1 H1 ⟨q0,q1,hN⟩
  exact hQ ρ1 H1 q0 q1 hN
theorem lI (G:Fm n nd)(hn:n<=70)(hT:0 < T)(hT2:T < 2 ^ 200)(hN:H aN=some (oN n nd))(hL:H aL=some (oV 3 lf))(hlf:∀ i,i < 3->(lf i).natAbs < 2 ^ 400)(hV:H aV=some (oV (3 + n) val))(hS:H aS=some (oV (3 + n) sl))(hsb:∀ j,j < 3 + n->(sl j).natAbs < 2 ^ 500)(hval:∀ V,Pv n nd lf (T * T) (-1) 0 V->∀ j,j < 3 + n->val j=rp T j (V j))(hsl:Sl n nd val T sl)
  (r1:ρ 1 = .ref aN) (r3:ρ 3 = .int ((3 + n:Nat):Int)) (r6:ρ 6 = .int T) (r8:ρ 8 = .ref aL) (r17:ρ 17 = .ref aV) (r18:ρ 18 = .ref aS) (hQ:∀ ρ' H',Q (.ret (.bool true)) ρ' H'):Ad gQ (Ad gP (Ad gN (Ad gM (Ad gL Ai)))) Q ρ H:=by
 have hTa:T.natAbs < 2 ^ 200:=by omega
 have p2:(2:Nat) ^ 200 < 2 ^ 400:=Nat.pow_lt_pow_right (by decide) (by decide)
 have p3:(2:Nat) ^ 200 < 2 ^ 1000:=Nat.pow_lt_pow_right (by decide) (by decide)
 have p5:(2:Nat) ^ 500 < 2 ^ 1000:=Nat.pow_lt_pow_right (by decide) (by decide)
 have hTT:(T * T).natAbs < 2 ^ 400:=jS hTa
 have hSp:0 < T * T:=Int.mul_pos hT hT
 have hS4:T * T < 2 ^ 400:=by have:=cH 400;omega
 unfold gQ
 refine Jr (v:=.int (T * T)) (Jb (Ae r6) (Ae r6) (Nat.lt_trans hTa p3) (Nat.lt_trans hTa p3)) rfl ?_
 unfold gP
 refine Yp (vs:=[.ref aN,.ref aL,.int (T * T),.int (-1),.int 0]) (Ac (Ah (by exact r1)) (Ac (Ah (by exact r8)) (Ac (Ae rfl) (Ac (Gn (f:=cP (.int 1)) rfl) (Ac rfl rfl))))) rfl (Mc G (by exact Ar.y54 hn) hN hL hSp hS4 hlf (by decide) fun aP H1 V kp fP hP pv=>?_)
 have w1:((ρ.set 21 (.int (T * T))).set 22 (.ref aP)) 1 = .ref aN:=r1
 have w3:((ρ.set 21 (.int (T * T))).set 22 (.ref aP)) 3 = .int ((3 + n:Nat):Int):=r3
 have w6:((ρ.set 21 (.int (T * T))).set 22 (.ref aP)) 6 = .int T:=r6
 have w8:((ρ.set 21 (.int (T * T))).set 22 (.ref aP)) 8 = .ref aL:=r8
 have w17:((ρ.set 21 (.int (T * T))).set 22 (.ref aP)) 17 = .ref aV:=r17
 have w18:((ρ.set 21 (.int (T * T))).set 22 (.ref aP)) 18 = .ref aS:=r18
 have w21:((ρ.set 21 (.int (T * T))).set 22 (.ref aP)) 21 = .int (T * T):=rfl
 have w22:((ρ.set 21 (.int (T * T))).set 22 (.ref aP)) 22 = .ref aP:=rfl
 refine(?_:Ad _ _ _ ((ρ.set 21 (.int (T * T))).set 22 (.ref aP)) H1)
 generalize ((ρ.set 21 (.int (T * T))).set 22 (.ref aP))=ρ1 at w1 w3 w6 w8 w17 w18 w21 w22 ⊢
 have hN1:=kp _ _ hN
 have hL1:=kp _ _ hL
 have hV1:=kp _ _ hV
 have hS1:=kp _ _ hS
 have hv:=hval V pv
 unfold gN
 have hcomp:Gb (enP (vP 22)) (.many [24,25]) ttC (Go (ifP (Aw eqV (opP (iop Bt) (vP 24) (cP (.int 2))) (cP (.int 1))) (negP (opP (iop Bt) (negP (vP 25)) (vP 6))) (opP (iop Bt) (vP 25) (vP 6)))) (.lst false []) ρ1 H1=some (.lst false (((List.range (3 + n)).filter fun z0=>true).map fun i=>.int (val i))):=by
  refine gA (vs:=List.range (3 + n)) (e:=fun (i:Nat)=>AV.tup [.int (i:Int),.int (V i)]) (ρ':=fun i=>(ρ1.set 24 (.int (i:Int))).set 25 (.int (V i))) ?_ (fun i hi=>rfl) (fun i hi=>rfl) (fun i hi z0=>⟨?_,rfl⟩) (by rw[List.length_range,An];exact Ar.y53 hn)
  ·refine(?_:(match vP 22 ρ1 H1 with | some (.ref a)=>(Av H1 (.ref a)).map enA | _=>none)=_)
   rw[Ah w22]
   refine(?_:(Av H1 (.ref aP)).map enA=_)
   rw[Ib hP]
   exact congrArg some bE
  ·rw[hv i (List.mem_range.mp hi)]
   have e2:((i:Int) % 2=1) <-> i % 2=1:=by exact Ar.y167
   refine Nb (b:=decide ((i:Int) % 2=1)) (Ev (Cw (a:=(i:Int)) (b:=2) rfl rfl (by decide)) (w:=.int 1) rfl Lr) ?_
   unfold rp
   by_cases q:i % 2=1
   ·rw[decide_eq_true (e2.mpr q),if_pos rfl,if_pos q]
    exact Gn (Cw (Gn (a:=V i) rfl) (Ae (by exact w6)) hT)
   ·rw[decide_eq_false fun z=>q (e2.mp z),if_neg Bool.false_ne_true,if_neg q]
    exact Cw (a:=V i) rfl (Ae (by exact w6)) hT
 have el:((List.range (3 + n)).filter fun z0=>true).map (fun i=>AV.int (val i))=((List.range (3 + n)).map val).map .int:=by rw[List.filter_eq_self.mpr fun z0 z0=>rfl,List.map_map];rfl
 rw[el]at hcomp
 refine Ma (Ev (Ah w17) (Nc hcomp) (Zk (l:=(List.range (3 + n)).map val) ?_ rfl)) ?_
 ·rw[<- Yc];exact Lz hV1
 unfold gM
 refine Yo (jY (Ae w3) (by exact Ar.y52 hn)) (Ff fun z0 z0=>rfl) ?_
 refine lR (fun i ρ' H'=>(∀ j,j ≠ 11->j ≠ 23->ρ' j=ρ1 j)/\Keep H1 H') ⟨fun j _ _=>rfl,fun b o h=>h⟩ ?_ ?_
 ·rintro i ρ2 H2 K' hi ⟨rr,kp2⟩ hK
  have rr2:∀ j,j ≠ 11->j ≠ 23->(ρ2.set 11 (.int (i:Int))) j=ρ1 j:=fun j h1 h2=>(Bc h1).trans (rr j h1 h2)
  have q11:(ρ2.set 11 (.int (i:Int))) 11 = .int (i:Int):=rfl
  generalize (ρ2.set 11 (.int (i:Int)))=ρ3 at rr2 q11 ⊢
  have g:∀ j,j ≠ 11->j ≠ 23->ρ3 j=ρ1 j:=rr2
  refine Yp (vs:=[.ref aN,.ref aL,.int (T * T),.int (i:Int),.int T]) (Ac (Ah ((g 1 (by decide) (by decide)).trans w1)) (Ac (Ah ((g 8 (by decide) (by decide)).trans w8)) (Ac (Ae ((g 21 (by decide) (by decide)).trans w21)) (Ac (Ae q11) (Ac (Ae ((g 6 (by decide) (by decide)).trans w6)) rfl))))) rfl (Mc G (by exact Ar.y54 hn) (kp2 _ _ hN1) (kp2 _ _ hL1) hSp hS4 hlf (Nat.lt_trans hTa p2) fun aM H3 V' kp3 fM hM pv'=>?_)
  have kp4:Keep H1 H3:=fun b o h=>kp3 b o (kp2 b o h)
  have z6:(ρ3.set 23 (.ref aM)) 6 = .int T:=(g 6 (by decide) (by decide)).trans w6
  have z11:(ρ3.set 23 (.ref aM)) 11 = .int (i:Int):=q11
  have z18:(ρ3.set 23 (.ref aM)) 18 = .ref aS:=(g 18 (by decide) (by decide)).trans w18
  have z21:(ρ3.set 23 (.ref aM)) 21 = .int (T * T):=(g 21 (by decide) (by decide)).trans w21
  have z22:(ρ3.set 23 (.ref aM)) 22 = .ref aP:=(g 22 (by decide) (by decide)).trans w22
  have z23:(ρ3.set 23 (.ref aM)) 23 = .ref aM:=rfl
  have zr:∀ j,j ≠ 11->j ≠ 23->(ρ3.set 23 (.ref aM)) j=ρ1 j:=fun j h1 h2=>(Bc h2).trans (g j h1 h2)
  refine(?_:Ad _ _ _ (ρ3.set 23 (.ref aM)) H3)
  generalize (ρ3.set 23 (.ref aM))=ρ4 at z6 z11 z18 z21 z22 z23 zr ⊢
  have hs:Sl n nd V T sl:=Sl.cg G hsl fun j hj=>by rw[hv j hj];exact Ug
  have law:=Vv G pv pv' hs hi
  have h1:opP (iop Bt) (opP (iop subI) (bP' Ow (Aa (vP 23) Ak)) (bP' Ow (Aa (vP 22) Ak))) (vP 21) ρ4 H3=some (.int (T * sl i % (T * T))):=by
   rw[<- law]
   exact Cw (Cp (fR (Ah z23) hM) (fR (Ah z22) (kp4 _ _ hP))) (Ae z21) hSp
  have h2:opP (iop Bt) (opP (iop Fw) (vP 6) (opP idx (vP 18) (vP 11))) (vP 21) ρ4 H3=some (.int (T * sl i % (T * T))) :=
   Cw (Jb (Ae z6) (Ax (Ah z18) (Ae z11) (Ee (kp4 _ _ hS1) hi)) (Nat.lt_trans hTa p3) (Nat.lt_trans (hsb i hi) p5)) (Ae z21) hSp
  refine Ma (Ev h1 h2 (neG_int.trans (congrArg some (decide_eq_false fun q=>q rfl)))) ?_
  exact(hK ρ4 H3 ⟨zr,kp4⟩).1
 ·rintro ρ2 H2 _
  unfold gL
  exact Uf rfl rfl (hQ ρ2 H2)
theorem law_spec (hz:xs.length<=63){Q:AV->AH->Prop}(hQ:∀ H',Q (.bool true) H'):bX C [.fl (xs.map .int)] Q H:=by
 unfold bX Cc
 refine⟨_,rfl,?_⟩
 unfold bY
 generalize hρ:(fun i=>([.fl (xs.map .int)]:List AV).getD i .undef)=ρ0
 change Rho at ρ0
 have g0:ρ0 0 = .fl (xs.map .int):=by rw[<- hρ];rfl
 clear hρ
 unfold st1
 have l4:(4:Nat)<=lim:=by rw[An];decide
 refine Fv (o:=.lst false (tb 4 fun j=>eN (ndS xs j))) ?_ fun aN fN=>?_
 ·exact El (vs:=tb 4 fun j=>eN (ndS xs j)) (Ac (Om (Ac rfl (Ac rfl (Ac rfl (Ac rfl rfl)))) l4) (Ac (Om (Ac rfl (Ac rfl (Ac rfl (Ac rfl rfl)))) l4) (Ac (Om (Ac rfl (Ac rfl (Ac rfl (Ac rfl rfl)))) l4) (Ac (Om (Ac rfl (Ac rfl (Ac rfl (Ac rfl rfl)))) l4) rfl)))) l4 rfl
 refine ph2 hz (by exact g0) rfl Af fun ρ1 H1 q0 q1 hN=>?_
 clear fN g0
 have G:Fm (4 + xs.length) (ndS xs):=iK xs _
 have hn:4 + xs.length<=70:=by exact Ar.y50 hz
 generalize 4 + xs.length=n at hN G hn
 generalize ndS xs=nd at hN G
 unfold st3
 have hsum:bP' Ow (Aa (vP 0) Ak) ρ1 H1=some (.int xs.sum):=dZ (Ac (eK q0) rfl) (by
  refine(?_:(Mf H1 (.fl (xs.map .int))).map (fun l=>AV.int l.sum)=_)
  rw[Qk];rfl)
 refine Jr (v:=.int (xs.sum.natAbs:Int)) (dZ (Ac hsum rfl) rfl) rfl ?_
 obtain⟨turn,hturn⟩:∃ t:Int,t=(xs.sum.natAbs:Int):=⟨_,rfl⟩
 have ht0:0<=turn:=by rw[hturn];exact Int.natCast_nonneg _
 rw[<- hturn]
 clear hturn hsum q0
 have w1:(ρ1.set 5 (.int turn)) 1 = .ref aN:=q1
 have w5:(ρ1.set 5 (.int turn)) 5 = .int turn:=rfl
 generalize (ρ1.set 5 (.int turn))=ρ2 at w1 w5 ⊢
 unfold st4
 have hl:∀ {ρ':Rho} {H':AH},ρ' 1 = .ref aN->H' aN=some (oN n nd)->bP' Er (Aa (vP 1) Ak) ρ' H' = some (.int (n:Int)):=fun {ρ' H'} h h2=>by
  have:=Pm (Ah (H:=H') h) h2
  rw[Cl]at this;exact this
 refine Jr (v:=.int ((3 + n:Nat):Int)) ((Ew (a:=3) rfl (hl w1 hN)).trans (congrArg (fun z=>some (AV.int z)) (by exact Ar.y164))) rfl ?_
 have u1:(ρ2.set 3 (.int ((3 + n:Nat):Int))) 1 = .ref aN:=w1
 have u5:(ρ2.set 3 (.int ((3 + n:Nat):Int))) 5 = .int turn:=w5
 have u3:(ρ2.set 3 (.int ((3 + n:Nat):Int))) 3 = .int ((3 + n:Nat):Int):=rfl
 refine(?_:Ad _ _ _ (ρ2.set 3 (.int ((3 + n:Nat):Int))) H1)
 generalize (ρ2.set 3 (.int ((3 + n:Nat):Int)))=ρ3 at u1 u3 u5 ⊢
 unfold st5
 have hp6:opP (iop Np) (cP (.int 10)) (cP (.int 6)) ρ3 H1=some (.int 1000000):=rfl
 have hp30:opP (iop Np) (cP (.int 10)) (cP (.int 30)) ρ3 H1=some (.int 1000000000000000000000000000000):=rfl
 refine Jr (v:=.int (1000000 + turn % 1000000000000000000000000000000)) (Ew hp6 (Cw (Ae u5) hp30 (by decide))) rfl ?_
 obtain ⟨T,hTe⟩:∃ T:Int,T=1000000 + turn % 1000000000000000000000000000000:=⟨_,rfl⟩
 have h1:=Int.emod_nonneg turn (b:=1000000000000000000000000000000) (by decide)
 have h2:=Int.emod_lt_of_pos turn (b:=1000000000000000000000000000000) (by decide)
 have hT:0 < T:=by exact Ar.y130 hTe
 have hT2:T < 2 ^ 200:=by
  refine Int.lt_trans (b:=1000001000000000000000000000000000) (by exact Ar.y131 hTe) (by decide)
 rw[<- hTe]
 clear h1 h2 hTe hp6 hp30
 have v1:(ρ3.set 6 (.int T)) 1 = .ref aN:=u1
 have v5:(ρ3.set 6 (.int T)) 5 = .int turn:=u5
 have v3:(ρ3.set 6 (.int T)) 3 = .int ((3 + n:Nat):Int):=u3
 have v6:(ρ3.set 6 (.int T)) 6 = .int T:=rfl
 refine(?_:Ad _ _ _ (ρ3.set 6 (.int T)) H1)
 generalize (ρ3.set 6 (.int T))=ρ4 at v1 v3 v5 v6 ⊢
 have s0:HS [aN] [oN n nd] H1:=HS.one hN
 unfold st6
 refine Fv (o:=.lst false [.int T,.int (-T)]) (El (Ac (Ae v6) (Ac (Gn (Ae v6)) rfl)) (by rw[An];exact(by decide:2<=1048576)) rfl) fun aT fT=>?_
 have s1:HS [aT,aN] [oT T,oN n nd] (upd H1 aT (oT T)):=s0.cons (o:=oT T) fT
 refine(?_:Ad _ _ _ _ (upd H1 aT (oT T)))
 generalize (upd H1 aT (oT T))=H2 at s1 ⊢
 unfold st7
 obtain ⟨lf,hlf⟩:∃ lf:Nat -> Int,lf=fun i => if i=0 then (2 + turn) % T else if i=1 then -((3 + turn / 7) % T) else (5 - turn) % T:=⟨_,rfl⟩
 have lb:∀ i,i < 3->(lf i).natAbs < 2 ^ 200:=fun i hi=>by
  have a1:=Int.emod_nonneg (2 + turn) (b:=T) (by exact Ar.y119 hT)
  have a2:=Int.emod_lt_of_pos (2 + turn) hT
  have b1:=Int.emod_nonneg (3 + turn / 7) (b:=T) (by exact Ar.y128 a1 a2)
  have b2:=Int.emod_lt_of_pos (3 + turn / 7) hT
  have c1:=Int.emod_nonneg (5 - turn) (b:=T) (by exact Ar.y128 b1 b2)
  have c2:=Int.emod_lt_of_pos (5 - turn) hT
  rw[hlf]
  refine (?_:(if i=0 then (2 + turn) % T else if i=1 then -((3 + turn / 7) % T) else (5 - turn) % T).natAbs < _)
  by_cases e0:i=0
  ·rw[if_pos e0];omega
  by_cases e1:i=1
  ·rw[if_neg e0,if_pos e1];omega
  rw[if_neg e0,if_neg e1];omega
 have lr:∀ i,i < 3->lf i=rp T i (lf i):=fun i hi=>by
  rw[hlf]
  match i,hi with
  | 0,_=>exact(Int.emod_emod_of_dvd _ (Int.dvd_refl T)).symm
  | 1,_ =>
   refine (?_:-((3 + turn / 7) % T) = -(-(-((3 + turn / 7) % T)) % T))
   rw[Int.neg_neg,Int.emod_emod_of_dvd _ (Int.dvd_refl T)]
  | 2,_=>exact(Int.emod_emod_of_dvd _ (Int.dvd_refl T)).symm
 have v5':(ρ4.set 7 (.ref aT)) 5 = .int turn:=v5
 have v6':(ρ4.set 7 (.ref aT)) 6 = .int T:=v6
 refine Fv (o:=.lst false (tb 3 fun i=>.int (lf i))) ?_ fun aL fL=>?_
 ·have e:(tb 3 fun i => AV.int (lf i))=[.int ((2 + turn) % T),.int (-((3 + turn / 7) % T)),.int ((5 - turn) % T)]:=by rw [hlf]; rfl
  rw[e]
  exact El (Ac (Cw (Ew (a:=2) rfl (Ae v5')) (Ae v6') hT) (Ac (Gn (Cw (Ew (a:=3) rfl (Td (b:=7) (Ae v5') rfl (by decide) (by decide))) (Ae v6') hT)) (Ac (Cw (Cp (a:=5) rfl (Ae v5')) (Ae v6') hT) rfl))) (by rw[An];exact(by decide:3<=1048576)) rfl
 clear hlf v5' v6'
 have s2:HS [aL,aT,aN] [oV 3 lf,oT T,oN n nd] (upd H2 aL (oV 3 lf)):=s1.cons (o:=oV 3 lf) fL
 refine(?_:Ad _ _ _ _ (upd H2 aL (oV 3 lf)))
 generalize (upd H2 aL (oV 3 lf))=H3 at s2 ⊢
 unfold st8
 refine Fv (o:=.dic false []) rfl fun aD fD=>?_
 have s3:HS [aD,aL,aT,aN] [.f (.dic false []),oV 3 lf,oT T,oN n nd] (upd H3 aD (.f (.dic false []))):=s2.cons (o:=.f (.dic false [])) fD
 refine(?_:Ad _ _ _ _ (upd H3 aD (.f (.dic false []))))
 generalize (upd H3 aD (.f (.dic false [])))=H4 at s3 ⊢
 have x1:(((ρ4.set 7 (.ref aT)).set 8 (.ref aL)).set 9 (.ref aD)) 1 = .ref aN:=v1
 have x3:(((ρ4.set 7 (.ref aT)).set 8 (.ref aL)).set 9 (.ref aD)) 3 = .int ((3 + n:Nat):Int):=v3
 have x5:(((ρ4.set 7 (.ref aT)).set 8 (.ref aL)).set 9 (.ref aD)) 5 = .int turn:=v5
 have x6:(((ρ4.set 7 (.ref aT)).set 8 (.ref aL)).set 9 (.ref aD)) 6 = .int T:=v6
 have x7:(((ρ4.set 7 (.ref aT)).set 8 (.ref aL)).set 9 (.ref aD)) 7 = .ref aT:=rfl
 have x8:(((ρ4.set 7 (.ref aT)).set 8 (.ref aL)).set 9 (.ref aD)) 8 = .ref aL:=rfl
 have x9:(((ρ4.set 7 (.ref aT)).set 8 (.ref aL)).set 9 (.ref aD)) 9 = .ref aD:=rfl
 refine(?_:Ad _ _ _ (((ρ4.set 7 (.ref aT)).set 8 (.ref aL)).set 9 (.ref aD)) H4)
 generalize (((ρ4.set 7 (.ref aT)).set 8 (.ref aL)).set 9 (.ref aD))=ρ5 at x1 x3 x5 x6 x7 x8 x9 ⊢
 refine ph9 (c:=3 + n) (by exact Ar.y51 hn) x3 s3 fun aU H5 ua s4=>?_
 have x10:(ρ5.set 10 (.ref aU)) 10 = .ref aU:=rfl
 refine lL G (by exact Ar.y54 hn) (by exact x1) (by exact x3) (by exact x9) rfl s4 fun ρ6 H6 na U rr s5 hu=>?_
 have y1:ρ6 1 = .ref aN:=(rr 1 (by decide)).trans x1
 have y3:ρ6 3 = .int ((3 + n:Nat):Int):=(rr 3 (by decide)).trans x3
 have y5:ρ6 5 = .int turn:=(rr 5 (by decide)).trans x5
 have y6:ρ6 6 = .int T:=(rr 6 (by decide)).trans x6
 have y7:ρ6 7 = .ref aT:=(rr 7 (by decide)).trans x7
 have y8:ρ6 8 = .ref aL:=(rr 8 (by decide)).trans x8
 have y9:ρ6 9 = .ref aD:=(rr 9 (by decide)).trans x9
 have y10:ρ6 10 = .ref aU:=(rr 10 (by decide)).trans x10
 clear rr x1 x3 x5 x6 x7 x8 x9 x10 v1 v3 v5 v6 s0 s1 s2 s3 s4 fT fL fD
 have gD:=lQ hn s5
 have gU:=lP hn hu s5
 have hL6:=HU.f s5 2 rfl rfl
 have hT6:=HU.f s5 3 rfl rfl
 have hN6:=HU.f s5 4 rfl rfl
 clear s5
 have p5:(2:Nat) ^ 200 < 2 ^ 500:=Nat.pow_lt_pow_right (by decide) (by decide)
 have p4:(2:Nat) ^ 200 < 2 ^ 400:=Nat.pow_lt_pow_right (by decide) (by decide)
 unfold jR
 refine Fv (o:=.lst false (tb (3 + n) fun i=>.int (if i < 3 then lf i else 0))) ?_ fun aV fV=>?_
 ·have h1:=Vd (ρ:=ρ6) (H:=H6) (v:=.int 0) (g:=Ce (Aa (cP (.int 0)) Ak)) (El (Ac rfl rfl) (by rw[An];exact(by decide:1<=1048576)) rfl) rfl (hl y1 hN6) (by exact Ar.y54 hn)
  have h2:=bA (Tb (Ah (H:=H6) y8) (Lz hL6)) (Tb (Nc h1) rfl)
  rw[gJ (g':=fun i=>.int (if i < 3 then lf i else 0)) (fun i hi=>by rw[if_pos hi]) fun i hi=>by rw[if_neg (by exact Ar.y28 hi)]]at h2
  exact El h2 (by rw[Cl,An];exact Ar.y53 hn) (Ff fun z0 z0=>rfl)
 have kp7:Keep H6 (upd H6 aV (oV (3 + n) fun i=>if i < 3 then lf i else 0)):=Keep.upd (fun b o h=>h) fV
 have hV7:upd H6 aV (oV (3 + n) fun i=>if i < 3 then lf i else 0) aV=some (oV (3 + n) fun i=>if i < 3 then lf i else 0):=Af
 refine(?_:Ad _ _ _ _ (upd H6 aV (oV (3 + n) fun i=>if i < 3 then lf i else 0)))
 generalize (upd H6 aV (oV (3 + n) fun i=>if i < 3 then lf i else 0))=H7 at kp7 hV7 ⊢
 refine lK (lf:=lf) (H0:=H6) G hn hT hT2 gD hN6 hT6 kp7 fV hV7 (by exact y1) (by exact y5) (by exact y7) (by exact y9) rfl (fun j hj=>?_) (fun V p j hj=>?_) fun ρ8 H8 val rr kp8 hV8 vb hval=>?_
 ·by_cases q:j < 3
  ·rw[if_pos q];exact Nat.lt_trans (lb j q) p5
  ·rw[if_neg q];decide
 ·rw[if_pos hj,p.leaf j hj,show (if (j:Int) = -1 then (0:Int) else 0)=0 from ite_self _,Int.add_zero];exact lr j hj
 have z1:ρ8 1 = .ref aN:=(rr 1 (by decide)).trans y1
 have z3:ρ8 3 = .int ((3 + n:Nat):Int):=(rr 3 (by decide)).trans y3
 have z5:ρ8 5 = .int turn:=(rr 5 (by decide)).trans y5
 have z6:ρ8 6 = .int T:=(rr 6 (by decide)).trans y6
 have z7:ρ8 7 = .ref aT:=(rr 7 (by decide)).trans y7
 have z8:ρ8 8 = .ref aL:=(rr 8 (by decide)).trans y8
 have z10:ρ8 10 = .ref aU:=(rr 10 (by decide)).trans y10
 have z17:ρ8 17 = .ref aV:=(rr 17 (by decide)).trans rfl
 clear rr y1 y3 y5 y6 y7 y8 y9 y10 hV7 kp7
 unfold jQ
 refine Fv (o:=.lst false (tb (3 + n) fun z0=>.int 1)) ?_ fun aS fS=>?_
 ·have h1:=Vd (ρ:=ρ8) (H:=H8) (v:=.int 1) (g:=Ce (Aa (cP (.int 1)) Ak)) (El (Ac rfl rfl) (by rw[An];exact(by decide:1<=1048576)) rfl) rfl (Ae z3) (by exact Ar.y51 hn)
  rw[gI]at h1;exact h1
 have kp9:Keep H8 (upd H8 aS (oV (3 + n) fun z0=>1)):=Keep.upd (fun b o h=>h) fS
 have hS9:upd H8 aS (oV (3 + n) fun z0=>1) aS=some (oV (3 + n) fun z0=>1):=Af
 refine(?_:Ad _ _ _ _ (upd H8 aS (oV (3 + n) fun z0=>1)))
 generalize (upd H8 aS (oV (3 + n) fun z0=>1))=H9 at kp9 hS9 ⊢
 refine lJ (H0:=H8) G hn hT hT2 (Pl gU kp8) hu (kp8 _ _ hN6) (kp8 _ _ hT6) hV8 kp9 fS hS9 (by exact z1) (by exact z5) (by exact z7) (by exact z10) (by exact z17) rfl vb fun ρ10 H10 sl rr kp10 hS10 sb hsl=>?_
 refine lI G hn hT hT2 (kp10 _ _ (kp8 _ _ hN6)) (kp10 _ _ (kp8 _ _ hL6)) (fun i hi=>Nat.lt_trans (lb i hi) p4) (kp10 _ _ hV8) hS10 sb hval hsl ((rr 1 (by decide)).trans z1) ((rr 3 (by decide)).trans z3) ((rr 6 (by decide)).trans z6) ((rr 8 (by decide)).trans z8) ((rr 17 (by decide)).trans z17) ((rr 18 (by decide)).trans rfl) fun ρ' H'=>hQ H'
end
end L01
end Mine
end
section
namespace Mine
noncomputable abbrev KK:=hd01.heap_1
abbrev aTS:Addr:=193
abbrev aNI:Addr:=96
abbrev aS0:Addr:=97
abbrev aS1:Addr:=98
abbrev aS2:Addr:=99
abbrev aDF:Addr:=122
section
variable {C:Cx} {P:Params}
theorem Qn (E:Env0 C (KK P) aTS aNI):C.mg "_NodeInfo" = some (.ref 96):=E.glob (by kernel_rfl)
theorem Gi (E:Env0 C (KK P) aTS aNI):C.mg "len" = none:=E.glob (by kernel_rfl)
theorem Gk (E:Env0 C (KK P) aTS aNI):C.mb "len" = some (.builtin "len"):=E.bi (by kernel_rfl)
theorem iO (E:Env0 C (KK P) aTS aNI):C.mg "set" = none:=E.glob (by kernel_rfl)
theorem iQ (E:Env0 C (KK P) aTS aNI):C.mb "set" = some (.type "set"):=E.bi (by kernel_rfl)
theorem cU (E:Env0 C (KK P) aTS aNI):C.mg "iter" = none:=E.glob (by kernel_rfl)
theorem cW (E:Env0 C (KK P) aTS aNI):C.mb "iter" = some (.builtin "iter"):=E.bi (by kernel_rfl)
theorem Ju (E:Env0 C (KK P) aTS aNI):C.mg "StopIteration" = none:=E.glob (by kernel_rfl)
theorem Jv (E:Env0 C (KK P) aTS aNI):C.mb "StopIteration" = some (.type "StopIteration"):=E.bi (by kernel_rfl)
theorem Zl (E:Env0 C (KK P) aTS aNI):C.mg "tuple" = none:=E.glob (by kernel_rfl)
theorem Zn (E:Env0 C (KK P) aTS aNI):C.mb "tuple" = some (.type "tuple"):=E.bi (by kernel_rfl)
theorem Kn (E:Env0 C (KK P) aTS aNI):C.mg "_NODE_OUT" = some (.int (-1) 261):=E.glob (by kernel_rfl)
theorem Ph (E:Env0 C (KK P) aTS aNI):C.mg "_NODE_DONE" = some (.int (-2) 264):=E.glob (by kernel_rfl)
theorem Xp (E:Env0 C (KK P) aTS aNI):StmtsR C 0 Si (Bb (KK P) 92) (Kf C) :=
 (.cons (.seta (.S (p:=aS0) E.hK (by rw[E.hni];kernel_rfl)) (.ofPure (.var (mm 1 rfl))) (.var (mm 0 rfl)))
  (.cons (.seta (.S (p:=aS1) E.hK (by rw[E.hni];kernel_rfl)) (.ofPure .int) (.var (mm 0 rfl)))
  (.cons (.seta (.S (p:=aS2) E.hK (by rw[E.hni];kernel_rfl)) (.ofMake (.list .nil)) (.var (mm 0 rfl)))
  .nil)))
theorem Ts (E:Env0 C (KK P) aTS aNI):CallR C 1 (.ref 92) (Hc C) :=
 .fnK (params:=["self","node"]) E (fd:=(Da (KK P) 92).getD default) (by kernel_rfl) (by kernel_rfl) (by kernel_rfl) (by kernel_rfl) (.p2 fun _ _=>by kernel_rfl) (Xp E)
theorem Lk (E:Env0 C (KK P) aTS aNI):CallR C 2 (.ref aNI) (En C):=by
 have:=CallR.new (c:=aNI) (fI:=92) (o0:=.slots aNI []) E.hK (by kernel_rfl) (by kernel_rfl) (by kernel_rfl) (.inr rfl) (Ts E)
 unfold En;rw[E.hni];exact this
theorem Je (E:Env0 C (KK P) aTS aNI):StmtsR C 2 Hq (Bb (KK P) 136) (Cj C) :=
 (.cons (.ite (.walrus (mm 2 rfl) (.dget (.getA (.D E.hK (by rw[E.hts];kernel_rfl)) (.var (mm 0 rfl))) (.var (mm 1 rfl)))) (.cons (.dset2 (.callC E.hK (mm 0 rfl) (Qn E) (by kernel_rfl) (.some (.cons (.var (mm 1 rfl)) .nil)) (.le (Lk E) (by decide))) (.getA (.D E.hK (by rw[E.hts];kernel_rfl)) (.var (mm 0 rfl))) (.var (mm 1 rfl)) (mm 2 rfl))
  .nil) .nil)
  (.cons (.ret (.ofPure (.var (mm 2 rfl))))
  .nil))
theorem Ep (E:Env0 C (KK P) aTS aNI):CallR C 3 (.ref 136) (Ap C) :=
 .fnK (params:=["self","node"]) E (fd:=(Da (KK P) 136).getD default) (by kernel_rfl) (by kernel_rfl) (by kernel_rfl) (by kernel_rfl) (.p2 fun _ _=>by kernel_rfl) (Je E)
theorem cA (E:Env0 C (KK P) aTS aNI):StmtsR C 3 Wd (Bb (KK P) 143) (Nm C) :=
 (.cons (.ite (.ofTest (.cmp (.getA (.D E.hK (by rw[E.hts];kernel_rfl)) (.var (mm 0 rfl))) .none .isNotG)) .no .nil)
  (.cons (.let (mm 3 rfl) (.meth E.hK (by rw[E.hts];kernel_rfl) (.var (mm 0 rfl)) (.some (.cons (.var (mm 1 rfl)) .nil)) (.le (Ep E) (by decide))))
  (.cons (.auga (.S (p:=aS1) E.hK (by rw[E.hni];kernel_rfl)) (.S (p:=aS1) E.hK (by rw[E.hni];kernel_rfl)) (.var (mm 3 rfl)) (.bcall (mm 0 rfl) (Gi E) (Gk E) (.some (.cons (.var (mm 2 rfl)) .nil)) .len) .iadd)
  (.cons (.for (.val (.var (mm 2 rfl))) (.name (mm 4 rfl)) (.cons (.let (mm 5 rfl) (.meth E.hK (by rw[E.hts];kernel_rfl) (.var (mm 0 rfl)) (.some (.cons (.var (mm 4 rfl)) .nil)) (.le (Ep E) (by decide))))
  (.cons (.expr (.append (.getA (.S (p:=aS2) E.hK (by rw[E.hni];kernel_rfl)) (.var (mm 5 rfl))) (.var (mm 1 rfl))))
  .nil)))
  .nil))))
theorem Xq (E:Env0 C (KK P) aTS aNI):CallR C 4 (.ref 143) (Jd C) :=
 .fnK (params:=["self","node","predecessors"]) E (fd:=(Da (KK P) 143).getD default) (by kernel_rfl) (by kernel_rfl) (by kernel_rfl) (by kernel_rfl) (.star2K fun _ _ rest=>by cases rest <;> kernel_rfl) (cA E)
theorem Lj (E:Env0 C (KK P) aTS aNI):StmtsR C 0 Jq (Bb (KK P) 183) (Eg C) :=
 (.cons (.let (mm 1 rfl) (.ofPure (.getA (.D E.hK (by rw[E.hts];kernel_rfl)) (.var (mm 0 rfl)))))
  (.cons (.let (mm 2 rfl) (.ofMake (.list .nil)))
  (.cons (.let (mm 3 rfl) (.ofMake (.list .nil)))
  (.cons (.let (mm 4 rfl) (.ofMake (.set0 (mm 0 rfl) (iO E) (iQ E))))
  (.cons (.let (mm 5 rfl) (.ofMake .dict0))
  (.cons (.hold (.for (.keys (.var (mm 1 rfl))) (.name (mm 6 rfl)) (.cons (.ite (.ofTest (.cmp (.var (mm 6 rfl)) (.var (mm 4 rfl)) .inn)) (.cons .cont
  .nil) .nil)
  (.cons (.while (.ofTest (.val .bool)) (.cons (.ite (.ofTest (.cmp (.var (mm 6 rfl)) (.var (mm 4 rfl)) .inn)) (.cons (.ite (.ofTest (.cmp (.var (mm 6 rfl)) (.var (mm 5 rfl)) .inn)) .no .nil)
  .nil) (.cons (.expr (.sadd (.var (mm 4 rfl)) (.var (mm 6 rfl))))
  (.cons (.expr (.appendI (.var (mm 3 rfl)) (.ofMake (.next (mm 1 rfl) (cU E) (cW E) (.getA (.S (p:=aS2) E.hK (by rw[E.hni];kernel_rfl)) (.sub (.var (mm 1 rfl)) (.var (mm 6 rfl))))))))
  (.cons (.dset (.ofPure (.bcall (mm 2 rfl) (Gi E) (Gk E) (.some (.cons (.var (mm 2 rfl)) .nil)) .len)) (.var (mm 5 rfl)) (.var (mm 6 rfl)))
  (.cons (.expr (.append (.var (mm 2 rfl)) (.var (mm 6 rfl))))
  .nil)))))
  (.cons (.while (.ofTest (.val (.var (mm 2 rfl)))) (.cons (.tryNext (mm 3 rfl) (mm 2 rfl) (mm 5 rfl) (mm 6 rfl) (mm 3 rfl) (Ju E) (Jv E) rfl)
  .nil) (.cons .brk
  .nil))
  .nil)) .nil)
  .nil))))
  (.cons (.ret (.ofPure .none))
  .nil)))))))
theorem Kj (E:Env0 C (KK P) aTS aNI):CallR C 1 (.ref 183) (Df C) :=
 .fnK (params:=["self"]) E (fd:=(Da (KK P) 183).getD default) (by kernel_rfl) (by kernel_rfl) (by kernel_rfl) (by kernel_rfl) (.p1 fun _=>by kernel_rfl) (Lj E)
theorem Pr (E:Env0 C (KK P) aTS aNI):StmtsR C 1 No (Bb (KK P) 148) (Ft C) :=
 (.cons (.ite (.ofTest (.cmp (.getA (.D E.hK (by rw[E.hts];kernel_rfl)) (.var (mm 0 rfl))) .none .isNotG)) .no .nil)
  (.cons (.seta (.D E.hK (by rw[E.hts];kernel_rfl)) (.ofMake (.comp (sc':=Jp) (.values (.getA (.D E.hK (by rw[E.hts];kernel_rfl)) (.var (mm 0 rfl)))) (.of rfl (by kernel_rfl)) (.name (mm 0 rfl)) (.one (.cmp (.getA (.S (p:=aS1) E.hK (by rw[E.hni];kernel_rfl)) (.var (mm 0 rfl))) .int .eq)) (.pure (.getA (.S (p:=aS0) E.hK (by rw[E.hni];kernel_rfl)) (.var (mm 0 rfl)))) (.inl rfl))) (.var (mm 0 rfl)))
  (.cons (.let (mm 1 rfl) (.meth E.hK (by rw[E.hts];kernel_rfl) (.var (mm 0 rfl)) .none (.le (Kj E) (by decide))))
  (.cons (.ite (.ofTest (.val (.var (mm 1 rfl)))) .no .nil)
  .nil))))
theorem Nu (E:Env0 C (KK P) aTS aNI):CallR C 2 (.ref 148) (Ei C) :=
 .fnK (params:=["self"]) E (fd:=(Da (KK P) 148).getD default) (by kernel_rfl) (by kernel_rfl) (by kernel_rfl) (by kernel_rfl) (.p1 fun _=>by kernel_rfl) (Pr E)
theorem Nn (E:Env0 C (KK P) aTS aNI):StmtsR C 0 Ld (Bb (KK P) 155) (Eo C) :=
 (.cons (.ite (.ofTest (.cmp (.getA (.D E.hK (by rw[E.hts];kernel_rfl)) (.var (mm 0 rfl))) .none .isG)) .no .nil)
  (.cons (.let (mm 1 rfl) (.ofPure (.tcall (mm 0 rfl) (Zl E) (Zn E) (.some (.cons (.getA (.D E.hK (by rw[E.hts];kernel_rfl)) (.var (mm 0 rfl))) .nil)) .tuple)))
  (.cons (.let (mm 2 rfl) (.ofPure (.getA (.D E.hK (by rw[E.hts];kernel_rfl)) (.var (mm 0 rfl)))))
  (.cons (.for (.val (.var (mm 1 rfl))) (.name (mm 3 rfl)) (.cons (.seta (.S (p:=aS1) E.hK (by rw[E.hni];kernel_rfl)) (.ofPure (.glob (mm 1 rfl) (.inl (Kn E)) (fun _ _ _=>⟨_,rfl⟩))) (.sub (.var (mm 2 rfl)) (.var (mm 3 rfl))))
  .nil))
  (.cons (.expr (.clear (.getA (.D E.hK (by rw[E.hts];kernel_rfl)) (.var (mm 0 rfl)))))
  (.cons (.auga (.D E.hK (by rw[E.hts];kernel_rfl)) (.D E.hK (by rw[E.hts];kernel_rfl)) (.var (mm 0 rfl)) (.bcall (mm 2 rfl) (Gi E) (Gk E) (.some (.cons (.var (mm 1 rfl)) .nil)) .len) .iadd)
  (.cons (.ret (.ofPure (.var (mm 1 rfl))))
  .nil)))))))
theorem Gc (E:Env0 C (KK P) aTS aNI):CallR C 1 (.ref 155) (Dq C) :=
 .fnK (params:=["self"]) E (fd:=(Da (KK P) 155).getD default) (by kernel_rfl) (by kernel_rfl) (by kernel_rfl) (by kernel_rfl) (.p1 fun _=>by kernel_rfl) (Nn E)
theorem Xo (E:Env0 C (KK P) aTS aNI):StmtsR C 0 Sg (Bb (KK P) 176) (Ke C) :=
 (.cons (.ite (.ofTest (.cmp (.getA (.D E.hK (by rw[E.hts];kernel_rfl)) (.var (mm 0 rfl))) .none .isG)) .no .nil)
  (.cons (.let (mm 2 rfl) (.ofPure (.getA (.D E.hK (by rw[E.hts];kernel_rfl)) (.var (mm 0 rfl)))))
  (.cons (.for (.val (.var (mm 1 rfl))) (.name (mm 3 rfl)) (.cons (.ite (.walrus (mm 4 rfl) (.dget (.var (mm 2 rfl)) (.var (mm 3 rfl)))) .no .nil)
  (.cons (.let (mm 5 rfl) (.ofPure (.getA (.S (p:=aS1) E.hK (by rw[E.hni];kernel_rfl)) (.var (mm 4 rfl)))))
  (.cons (.ite (.ofTest (.cmp (.var (mm 5 rfl)) (.glob (mm 0 rfl) (.inl (Kn E)) (fun _ _ _=>⟨_,rfl⟩)) .neG)) .no .nil)
  (.cons (.seta (.S (p:=aS1) E.hK (by rw[E.hni];kernel_rfl)) (.ofPure (.glob (mm 1 rfl) (.inl (Ph E)) (fun _ _ _=>⟨_,rfl⟩))) (.var (mm 4 rfl)))
  (.cons (.hold (.for (.val (.getA (.S (p:=aS2) E.hK (by rw[E.hni];kernel_rfl)) (.var (mm 4 rfl)))) (.name (mm 6 rfl)) (.cons (.let (mm 7 rfl) (.ofPure (.sub (.var (mm 2 rfl)) (.var (mm 6 rfl)))))
  (.cons (.auga (.S (p:=aS1) E.hK (by rw[E.hni];kernel_rfl)) (.S (p:=aS1) E.hK (by rw[E.hni];kernel_rfl)) (.var (mm 7 rfl)) .int .isub)
  (.cons (.ite (.ofTest (.cmp (.getA (.S (p:=aS1) E.hK (by rw[E.hni];kernel_rfl)) (.var (mm 7 rfl))) .int .eq)) (.cons (.expr (.append (.getA (.D E.hK (by rw[E.hts];kernel_rfl)) (.var (mm 0 rfl))) (.var (mm 6 rfl))))
  .nil) .nil)
  .nil)))))
  (.cons (.auga (.D E.hK (by rw[E.hts];kernel_rfl)) (.D E.hK (by rw[E.hts];kernel_rfl)) (.var (mm 0 rfl)) .int .iadd)
  .nil)))))))
  .nil)))
theorem Tr (E:Env0 C (KK P) aTS aNI):CallR C 1 (.ref 176) (Ha C) :=
 .fnK (params:=["self","nodes"]) E (fd:=(Da (KK P) 176).getD default) (by kernel_rfl) (by kernel_rfl) (by kernel_rfl) (by kernel_rfl) (.star1K fun _ rest=>by cases rest <;> kernel_rfl) (Xo E)
theorem Tq (E:Env0 C (KK P) aTS aNI):StmtsR C 4 Qe (Bb (KK P) 129) (Hx C) :=
 (.cons (.seta (.D E.hK (by rw[E.hts];kernel_rfl)) (.ofMake .dict0) (.var (mm 0 rfl)))
  (.cons (.seta (.D E.hK (by rw[E.hts];kernel_rfl)) (.ofPure .none) (.var (mm 0 rfl)))
  (.cons (.seta (.D E.hK (by rw[E.hts];kernel_rfl)) (.ofPure .int) (.var (mm 0 rfl)))
  (.cons (.seta (.D E.hK (by rw[E.hts];kernel_rfl)) (.ofPure .int) (.var (mm 0 rfl)))
  (.cons (.ite (.ofTest (.cmp (.var (mm 1 rfl)) .none .isNotG)) (.cons (.hold (.for (.items (.var (mm 1 rfl))) (.tuple (.cons (mm 2 rfl) (.cons (mm 3 rfl) .nil))) (.cons (.expr (.methS E.hK (by rw[E.hts];kernel_rfl) (.var (mm 0 rfl)) (.some (.cons (.var (mm 2 rfl)) (.star (.var (mm 3 rfl)) .nil))) (.le (Xq E) (by decide))))
  .nil)))
  .nil) .nil)
  .nil)))))
theorem Rw (E:Env0 C (KK P) aTS aNI):CallR C 5 (.ref 129) (Hw C) :=
 .fnK (params:=["self","graph"]) E (fd:=(Da (KK P) 129).getD default) (by kernel_rfl) (by kernel_rfl) (by kernel_rfl) (by kernel_rfl) (.dflt2K (t:=aDF) (n:=0) E (by kernel_rfl) (by kernel_rfl) (by kernel_rfl) (by kernel_rfl)) (Tq E)
theorem Tt (E:Env0 C (KK P) aTS aNI):CallR C 6 (.ref aTS) (Hd C):=by
 have:=CallR.new (c:=aTS) (fI:=129) (o0:=.inst aTS []) E.hK (by kernel_rfl) (by kernel_rfl) (by kernel_rfl) (.inl rfl) (Rw E)
 unfold Hd;rw[E.hts];exact this
end
end Mine
end
section
namespace Mine
namespace L01
section
variable {C:Cx} {P:Params}
theorem Gj (E:Env0 C (KK P) aTS aNI):C.mg "TopologicalSorter" = some (.ref 193):=E.glob (by kernel_rfl)
theorem cT (E:Env0 C (KK P) aTS aNI):C.mg "list" = none:=E.glob (by kernel_rfl)
theorem cV (E:Env0 C (KK P) aTS aNI):C.mb "list" = some (.type "list"):=E.bi (by kernel_rfl)
theorem Sq (E:Env0 C (KK P) aTS aNI):C.mg "add" = some (.ref 28):=E.glob (by kernel_rfl)
theorem iM (E:Env0 C (KK P) aTS aNI):C.mg "sub" = some (.ref 77):=E.glob (by kernel_rfl)
theorem So (E:Env0 C (KK P) aTS aNI):C.mg "mul" = some (.ref 56):=E.glob (by kernel_rfl)
theorem Pg (E:Env0 C (KK P) aTS aNI):C.mg "neg" = some (.ref 63):=E.glob (by kernel_rfl)
theorem Wx (E:Env0 C (KK P) aTS aNI):C.mg "invert" = some (.ref 35):=E.glob (by kernel_rfl)
theorem Zm (E:Env0 C (KK P) aTS aNI):C.mg "pos" = some (.ref 70):=E.glob (by kernel_rfl)
theorem Oa (E:Env0 C (KK P) aTS aNI):C.mg "lshift" = some (.ref 42):=E.glob (by kernel_rfl)
theorem Iu (E:Env0 C (KK P) aTS aNI):C.mg "enumerate" = none:=E.glob (by kernel_rfl)
theorem Iw (E:Env0 C (KK P) aTS aNI):C.mb "enumerate" = some (.type "enumerate"):=E.bi (by kernel_rfl)
theorem iP (E:Env0 C (KK P) aTS aNI):C.mg "abs" = none:=E.glob (by kernel_rfl)
theorem iR (E:Env0 C (KK P) aTS aNI):C.mb "abs" = some (.builtin "abs"):=E.bi (by kernel_rfl)
theorem Sn (E:Env0 C (KK P) aTS aNI):C.mg "sum" = none:=E.glob (by kernel_rfl)
theorem Sr (E:Env0 C (KK P) aTS aNI):C.mb "sum" = some (.builtin "sum"):=E.bi (by kernel_rfl)
theorem Mh (E:Env0 C (KK P) aTS aNI):C.mg "range" = none:=E.glob (by kernel_rfl)
theorem Mi (E:Env0 C (KK P) aTS aNI):C.mb "range" = some (.type "range"):=E.bi (by kernel_rfl)
theorem Ir (E:Env0 C (KK P) aTS aNI):C.mg "_law_order" = some (.ref 204):=E.glob (by kernel_rfl)
theorem Sp (E:Env0 C (KK P) aTS aNI):C.mg "mod" = some (.ref 49):=E.glob (by kernel_rfl)
theorem Ip (E:Env0 C (KK P) aTS aNI):C.mg "_law_worked_out" = some (.ref 211):=E.glob (by kernel_rfl)
theorem It (E:Env0 C (KK P) aTS aNI):C.mg "_law_given_back" = some (.ref 218):=E.glob (by kernel_rfl)
theorem Iq (E:Env0 C (KK P) aTS aNI):C.mg "_law_plain" = some (.ref 223):=E.glob (by kernel_rfl)
theorem lF (E:Env0 C (KK P) aTS aNI):PBody C 0 iA (Bb (KK P) 28) fK :=
 (.ret (.bin (.var (mm 0 rfl)) (.var (mm 1 rfl)) .add))
theorem Tw (E:Env0 C (KK P) aTS aNI):PFn C 1 (.ref 28) Kx :=
 .fnK (params:=["a","b"]) E (fd:=(Da (KK P) 28).getD default) (by kernel_rfl) (by kernel_rfl) (by kernel_rfl) (by kernel_rfl) (.p2 fun _ _=>by kernel_rfl) (lF E)
theorem lE (E:Env0 C (KK P) aTS aNI):PBody C 0 hY (Bb (KK P) 35) fJ :=
 (.ret (.inP (.var (mm 0 rfl))))
theorem jN (E:Env0 C (KK P) aTS aNI):PFn C 1 (.ref 35) Vb :=
 .fnK (params:=["a"]) E (fd:=(Da (KK P) 35).getD default) (by kernel_rfl) (by kernel_rfl) (by kernel_rfl) (by kernel_rfl) (.p1 fun _=>by kernel_rfl) (lE E)
theorem cB (E:Env0 C (KK P) aTS aNI):PBody C 0 Wf (Bb (KK P) 42) Na :=
 (.ret (.bin (.var (mm 0 rfl)) (.var (mm 1 rfl)) .shl))
theorem Os (E:Env0 C (KK P) aTS aNI):PFn C 1 (.ref 42) Iz :=
 .fnK (params:=["a","b"]) E (fd:=(Da (KK P) 42).getD default) (by kernel_rfl) (by kernel_rfl) (by kernel_rfl) (by kernel_rfl) (.p2 fun _ _=>by kernel_rfl) (cB E)
theorem lC (E:Env0 C (KK P) aTS aNI):PBody C 0 gZ (Bb (KK P) 49) aZ :=
 (.ret (.bin (.var (mm 0 rfl)) (.var (mm 1 rfl)) .mod))
theorem Tv (E:Env0 C (KK P) aTS aNI):PFn C 1 (.ref 49) Kv :=
 .fnK (params:=["a","b"]) E (fd:=(Da (KK P) 49).getD default) (by kernel_rfl) (by kernel_rfl) (by kernel_rfl) (by kernel_rfl) (.p2 fun _ _=>by kernel_rfl) (lC E)
theorem lB (E:Env0 C (KK P) aTS aNI):PBody C 0 gY (Bb (KK P) 56) fH :=
 (.ret (.bin (.var (mm 0 rfl)) (.var (mm 1 rfl)) .mulB))
theorem Tu (E:Env0 C (KK P) aTS aNI):PFn C 1 (.ref 56) Ku :=
 .fnK (params:=["a","b"]) E (fd:=(Da (KK P) 56).getD default) (by kernel_rfl) (by kernel_rfl) (by kernel_rfl) (by kernel_rfl) (.p2 fun _ _=>by kernel_rfl) (lB E)
theorem lA (E:Env0 C (KK P) aTS aNI):PBody C 0 gX (Bb (KK P) 63) fG :=
 (.ret (.negP (.var (mm 0 rfl))))
theorem Pt (E:Env0 C (KK P) aTS aNI):PFn C 1 (.ref 63) Kt :=
 .fnK (params:=["a"]) E (fd:=(Da (KK P) 63).getD default) (by kernel_rfl) (by kernel_rfl) (by kernel_rfl) (by kernel_rfl) (.p1 fun _=>by kernel_rfl) (lA E)
theorem kZ (E:Env0 C (KK P) aTS aNI):PBody C 0 gW (Bb (KK P) 70) fF :=
 (.ret (.poP (.var (mm 0 rfl))))
theorem cD (E:Env0 C (KK P) aTS aNI):PFn C 1 (.ref 70) Ol :=
 .fnK (params:=["a"]) E (fd:=(Da (KK P) 70).getD default) (by kernel_rfl) (by kernel_rfl) (by kernel_rfl) (by kernel_rfl) (.p1 fun _=>by kernel_rfl) (kZ E)
theorem kY (E:Env0 C (KK P) aTS aNI):PBody C 0 gV (Bb (KK P) 77) fC :=
 (.ret (.bin (.var (mm 0 rfl)) (.var (mm 1 rfl)) .sub))
theorem jM (E:Env0 C (KK P) aTS aNI):PFn C 1 (.ref 77) Va :=
 .fnK (params:=["a","b"]) E (fd:=(Da (KK P) 77).getD default) (by kernel_rfl) (by kernel_rfl) (by kernel_rfl) (by kernel_rfl) (.p2 fun _ _=>by kernel_rfl) (kY E)
theorem aX (E:Env0 C (KK P) aTS aNI){k:Nat}(hk:1<=k){a:Addr}{vs:List AV}{H:AH}{v:AV}(h:fnT a vs H=some v):PFn C k (.ref a) (fnT a)/\∃ o fd,C.h0.get? a=some o/\o.data = .func fd:=by
 have fo:∀ {a:Addr},(Da (KK P) a).isSome=true->∃ o fd,C.h0.get? a=some o/\o.data = .func fd:=fun h=>by
  obtain⟨fd,hfd⟩:=Option.isSome_iff_exists.mp h
  obtain⟨o,ho,hod⟩:=Gy hfd
  exact⟨o,fd,E.hK _ o ho,hod⟩
 by_cases e0:a=Mz
 ·rw[e0];exact⟨.le (Tw E) hk,fo (by kernel_rfl)⟩
 by_cases e1:a=Mu
 ·rw[e1];exact⟨.le (jM E) hk,fo (by kernel_rfl)⟩
 by_cases e2:a=Mx
 ·rw[e2];exact⟨.le (Tu E) hk,fo (by kernel_rfl)⟩
 by_cases e3:a=Mw
 ·rw[e3];exact⟨.le (Pt E) hk,fo (by kernel_rfl)⟩
 by_cases e4:a=My
 ·rw[e4];exact⟨.le (jN E) hk,fo (by kernel_rfl)⟩
 by_cases e5:a=Mv
 ·rw[e5];exact⟨.le (cD E) hk,fo (by kernel_rfl)⟩
 refine absurd h ?_
 unfold fnT
 rw[if_neg e0,if_neg e1,if_neg e2,if_neg e3,if_neg e4,if_neg e5]
 exact nofun
theorem Rs (E:Env0 C (KK P) aTS aNI):StmtsR C 6 Oz (Bb (KK P) 204) (Gq C) :=
 (.cons (.let (mm 2 rfl) (.callC E.hK (mm 0 rfl) (Gj E) (by kernel_rfl) (.some (.cons (.var (mm 0 rfl)) .nil)) (.le (eI (Tt E)) (by decide))))
  (.cons (.expr (.meth E.hK (by rw[E.hts];kernel_rfl) (.var (mm 2 rfl)) .none (.le (Tx (Nu E)) (by decide))))
  (.cons (.let (mm 3 rfl) (.listT (mm 1 rfl) (cT E) (cV E) (.meth E.hK (by rw[E.hts];kernel_rfl) (.var (mm 2 rfl)) .none (.le (Jj (Gc E)) (by decide)))))
  (.cons (.let (mm 4 rfl) (.ofMake (.list .nil)))
  (.cons (.while (.ofTest (.cmp (.var (mm 3 rfl)) (MakeE.frz (.list .nil)) .neG)) (.cons (.expr (.appendI (.var (mm 4 rfl)) (.popI (.var (mm 3 rfl)) (.bin (.var (mm 1 rfl)) (.bcall (mm 2 rfl) (Gi E) (Gk E) (.some (.cons (.var (mm 3 rfl)) .nil)) .len) .mod))))
  (.cons (.expr (.meth E.hK (by rw[E.hts];kernel_rfl) (.var (mm 2 rfl)) (.some (.cons (.sub (.var (mm 4 rfl)) (.negP .int)) .nil)) (.le (eJ (Tr E)) (by decide))))
  (.cons (.expr (.extendI (.var (mm 3 rfl)) (.meth E.hK (by rw[E.hts];kernel_rfl) (.var (mm 2 rfl)) .none (.le (Jj (Gc E)) (by decide)))))
  .nil))) .nil)
  (.cons (.ret (.ofPure (.var (mm 4 rfl))))
  .nil))))))
theorem Jh (E:Env0 C (KK P) aTS aNI):CallR C 7 (.ref 204) (Ed C) :=
 .fnK (params:=["needs","turn"]) E (fd:=(Da (KK P) 204).getD default) (by kernel_rfl) (by kernel_rfl) (by kernel_rfl) (by kernel_rfl) (.p2 fun _ _=>by kernel_rfl) (Rs E)
theorem Kh (E:Env0 C (KK P) aTS aNI):PBody C 1 Ic (Bb (KK P) 211) Dt :=
 (.ite (.cmp (.var (mm 0 rfl)) .int .lt) (.ret (.callT (.sub (MakeE.frz (.list (.cons (.glob (mm 0 rfl) (.inl (Sq E)) (fun _ _ _=>rfl)) (.cons (.glob (mm 1 rfl) (.inl (iM E)) (fun _ _ _=>rfl)) (.cons (.glob (mm 2 rfl) (.inl (So E)) (fun _ _ _=>rfl)) .nil))))) (.var (mm 0 rfl))) (.some (.cons (.var (mm 2 rfl)) (.cons (.var (mm 3 rfl)) .nil))) (fun _ _ _ _ h=>aX E (by decide) h))) (.ite (.cmp (.var (mm 0 rfl)) .int .lt) (.ret (.callT (.sub (MakeE.frz (.list (.cons (.glob (mm 3 rfl) (.inl (Pg E)) (fun _ _ _=>rfl)) (.cons (.glob (mm 4 rfl) (.inl (Wx E)) (fun _ _ _=>rfl)) (.cons (.glob (mm 5 rfl) (.inl (Zm E)) (fun _ _ _=>rfl)) .nil))))) (.bin (.var (mm 0 rfl)) .int .sub)) (.some (.cons (.var (mm 2 rfl)) .nil)) (fun _ _ _ _ h=>aX E (by decide) h))) (.ret (.callNK E (mm 6 rfl) (Oa E) (by kernel_rfl) (.some (.cons (.var (mm 2 rfl)) (.cons (.var (mm 1 rfl)) .nil))) (.le (Os E) (by decide))))))
theorem Jf (E:Env0 C (KK P) aTS aNI):PFn C 2 (.ref 211) Ct :=
 .fnK (params:=["kind","size","x","y"]) E (fd:=(Da (KK P) 211).getD default) (by kernel_rfl) (by kernel_rfl) (by kernel_rfl) (by kernel_rfl) (.p4 fun _ _ _ _=>by kernel_rfl) (Kh E)
theorem Ki (E:Env0 C (KK P) aTS aNI):PBody C 1 Ie (Bb (KK P) 218) Du :=
 (.ite (.cmp (.var (mm 0 rfl)) .int .lt) (.ret (.sub (MakeE.frz (.list (.cons (.tuple (.cons (.var (mm 2 rfl)) (.cons (.var (mm 2 rfl)) .nil))) (.cons (.tuple (.cons (.var (mm 2 rfl)) (.cons (.callNK E (mm 0 rfl) (Pg E) (by kernel_rfl) (.some (.cons (.var (mm 2 rfl)) .nil)) (.le (Pt E) (by decide))) .nil))) (.cons (.tuple (.cons (.callNK E (mm 1 rfl) (So E) (by kernel_rfl) (.some (.cons (.var (mm 2 rfl)) (.cons (.var (mm 4 rfl)) .nil))) (.le (Tu E) (by decide))) (.cons (.callNK E (mm 1 rfl) (So E) (by kernel_rfl) (.some (.cons (.var (mm 2 rfl)) (.cons (.var (mm 3 rfl)) .nil))) (.le (Tu E) (by decide))) .nil))) .nil))))) (.var (mm 0 rfl)))) (.ite (.cmp (.var (mm 0 rfl)) .int .lt) (.ret (.sub (MakeE.frz (.list (.cons (.tuple (.cons (.callNK E (mm 0 rfl) (Pg E) (by kernel_rfl) (.some (.cons (.var (mm 2 rfl)) .nil)) (.le (Pt E) (by decide))) (.cons .int .nil))) (.cons (.tuple (.cons (.callNK E (mm 0 rfl) (Pg E) (by kernel_rfl) (.some (.cons (.var (mm 2 rfl)) .nil)) (.le (Pt E) (by decide))) (.cons .int .nil))) (.cons (.tuple (.cons (.callNK E (mm 2 rfl) (Zm E) (by kernel_rfl) (.some (.cons (.var (mm 2 rfl)) .nil)) (.le (cD E) (by decide))) (.cons .int .nil))) .nil))))) (.bin (.var (mm 0 rfl)) .int .sub))) (.ret (.tuple (.cons (.callNK E (mm 3 rfl) (Oa E) (by kernel_rfl) (.some (.cons (.var (mm 2 rfl)) (.cons (.var (mm 1 rfl)) .nil))) (.le (Os E) (by decide))) (.cons .int .nil))))))
theorem Ji (E:Env0 C (KK P) aTS aNI):PFn C 2 (.ref 218) Cu :=
 .fnK (params:=["kind","size","slope","x","y"]) E (fd:=(Da (KK P) 218).getD default) (by kernel_rfl) (by kernel_rfl) (by kernel_rfl) (by kernel_rfl) (.p5 fun _ _ _ _ _=>by kernel_rfl) (Ki E)
theorem Rp (E:Env0 C (KK P) aTS aNI):StmtsR C 0 Oy (Bb (KK P) 223) Gp :=
 (.cons (.letComp (sc':=Le) (mm 5 rfl) (.enum (mm 0 rfl) (Iu E) (Iw E) (.var (mm 1 rfl))) (.of rfl (by kernel_rfl)) (.tuple (.cons (mm 0 rfl) (.cons (mm 1 rfl) .nil))) .nil (.pure (.ifP (.cmp (.var (mm 0 rfl)) (.var (mm 2 rfl)) .eq) (.bin (.var (mm 1 rfl)) (.var (mm 3 rfl)) .add) (.var (mm 1 rfl)))) (.inl rfl))
  (.cons (.hold (.for (.val (.var (mm 0 rfl))) (.tuple (.cons (mm 6 rfl) (.cons (mm 7 rfl) (.cons (mm 8 rfl) (.cons (mm 9 rfl) .nil))))) (.cons (.unpack2 (mm 10 rfl) (mm 11 rfl) (by decide) (.tuple (.cons (.sub (.var (mm 5 rfl)) (.var (mm 7 rfl))) (.cons (.sub (.var (mm 5 rfl)) (.var (mm 8 rfl))) .nil))) (fun _=>rfl) (jO (by decide) (by decide) rfl rfl rfl))
  (.cons (.let (mm 12 rfl) (.ofPure (.sub (MakeE.frz (.list (.cons (.bin (.var (mm 10 rfl)) (.var (mm 11 rfl)) .add) (.cons (.bin (.var (mm 10 rfl)) (.var (mm 11 rfl)) .sub) (.cons (.bin (.var (mm 10 rfl)) (.var (mm 11 rfl)) .mulB) (.cons (.negP (.var (mm 10 rfl))) (.cons (.bin (.negP .int) (.var (mm 10 rfl)) .sub) (.cons (.var (mm 10 rfl)) (.cons (.bin (.var (mm 10 rfl)) (.bin .int (.var (mm 9 rfl)) .pow) .mulB) .nil))))))))) (.var (mm 6 rfl)))))
  (.cons (.expr (.append (.var (mm 5 rfl)) (.bin (.ifP (.cmp (.bcall (mm 1 rfl) (Gi E) (Gk E) (.some (.cons (.var (mm 5 rfl)) .nil)) .len) (.var (mm 3 rfl)) .eq) (.bin (.var (mm 12 rfl)) (.var (mm 4 rfl)) .add) (.var (mm 12 rfl))) (.var (mm 2 rfl)) .mod)))
  .nil)))))
  (.cons (.ret (.ofPure (.var (mm 5 rfl))))
  .nil)))
theorem Jg (E:Env0 C (KK P) aTS aNI):CallR C 1 (.ref 223) Ec :=
 .fnK (params:=["nodes","leaves","square","moved","step"]) E (fd:=(Da (KK P) 223).getD default) (by kernel_rfl) (by kernel_rfl) (by kernel_rfl) (by kernel_rfl) (.p5 fun _ _ _ _ _=>by kernel_rfl) (Rp E)
theorem lD (E:Env0 C (KK P) aTS aNI):StmtsR C 7 hJ (Bb (KK P) 228) (bY C) :=
 by
 with_reducible refine StmtsR.start (st:=?s) (rest:=?r) (t:=?t) (r:=?u) ?e ?f ?g ?h
 case e=>exact rfl
 case f=>exact rfl
 case g=>unfold st1;with_reducible refine .letInts ?_ (.itcons (.icons (.icons (.icons (.icons .nil)))) (.itcons (.icons (.icons (.icons (.icons .nil)))) (.itcons (.icons (.icons (.icons (.icons .nil)))) (.itcons (.icons (.icons (.icons (.icons .nil)))) .nil))));exact mm 1 rfl
 case h=>exact(.cons (.for (.val (.var (mm 0 rfl))) (.name (mm 2 rfl)) (.cons (.let (mm 3 rfl) (.ofPure (.bin .int (.bcall (mm 0 rfl) (Gi E) (Gk E) (.some (.cons (.var (mm 1 rfl)) .nil)) .len) .add)))
  (.cons (.let (mm 4 rfl) (.ofPure (.bin (.bin (.var (mm 2 rfl)) .int .fdiv) (.var (mm 3 rfl)) .fdiv)))
  (.cons (.expr (.append (.var (mm 1 rfl)) (.tuple (.cons (.bin (.var (mm 2 rfl)) .int .mod) (.cons (.bin (.bin (.var (mm 3 rfl)) .int .sub) (.bin (.bin (.var (mm 2 rfl)) .int .fdiv) (.var (mm 3 rfl)) .mod) .sub) (.cons (.bin (.var (mm 4 rfl)) (.var (mm 3 rfl)) .mod) (.cons (.bin .int (.bin (.var (mm 4 rfl)) .int .mod) .add) .nil)))))))
  .nil))))
  (.cons (.let (mm 5 rfl) (.ofPure (.bcall (mm 1 rfl) (iP E) (iR E) (.some (.cons (.bcall (mm 2 rfl) (Sn E) (Sr E) (.some (.cons (.var (mm 0 rfl)) .nil)) .sum) .nil)) .abs)))
  (.cons (.let (mm 3 rfl) (.ofPure (.bin .int (.bcall (mm 0 rfl) (Gi E) (Gk E) (.some (.cons (.var (mm 1 rfl)) .nil)) .len) .add)))
  (.cons (.let (mm 6 rfl) (.ofPure (.bin (.bin .int .int .pow) (.bin (.var (mm 5 rfl)) (.bin .int .int .pow) .mod) .add)))
  (.cons (.let (mm 7 rfl) (.ofMake (.list (.cons (.var (mm 6 rfl)) (.cons (.negP (.var (mm 6 rfl))) .nil)))))
  (.cons (.let (mm 8 rfl) (.ofMake (.list (.cons (.bin (.bin .int (.var (mm 5 rfl)) .add) (.var (mm 6 rfl)) .mod) (.cons (.negP (.bin (.bin .int (.bin (.var (mm 5 rfl)) .int .fdiv) .add) (.var (mm 6 rfl)) .mod)) (.cons (.bin (.bin .int (.var (mm 5 rfl)) .sub) (.var (mm 6 rfl)) .mod) .nil))))))
  (.cons (.let (mm 9 rfl) (.ofMake .dict0))
  (.cons (.letCompD (sc':=Wg) (mm 10 rfl) (.range (mm 3 rfl) (.inr ⟨Mh E,Mi E⟩) (.cons (.var (mm 3 rfl)) .nil)) (.of rfl (by kernel_rfl)) (.name (mm 0 rfl)) (.pure .nil) (.var (mm 0 rfl)) (.make (.list .nil)))
  (.cons (.for (.range (mm 3 rfl) (.inr ⟨Mh E,Mi E⟩) (.cons (.bin (.var (mm 3 rfl)) .int .sub) (.cons .int (.cons (.negP .int) .nil)))) (.name (mm 11 rfl)) (.cons (.unpack (.tuple (.cons (mm 12 rfl) (.cons (mm 13 rfl) (.cons (mm 14 rfl) (.cons (mm 15 rfl) .nil))))) (.ofPure (.sub (.var (mm 1 rfl)) (.bin (.var (mm 11 rfl)) .int .sub))))
  (.cons (.dset (.ofMake (.ifM (.cmp (.var (mm 12 rfl)) .int .lt) (.list (.cons (.var (mm 13 rfl)) (.cons (.var (mm 14 rfl)) .nil))) (.list (.cons (.var (mm 13 rfl)) .nil)))) (.var (mm 9 rfl)) (.var (mm 11 rfl)))
  (.cons (.hold (.for (.val (.sub (.var (mm 9 rfl)) (.var (mm 11 rfl)))) (.name (mm 16 rfl)) (.cons (.expr (.append (.sub (.var (mm 10 rfl)) (.var (mm 16 rfl))) (.var (mm 11 rfl))))
  .nil)))
  .nil))))
  (.cons (.let (mm 17 rfl) (.ofMake (.cat (.var (mm 8 rfl)) (MakeE.frz (.mul (MakeE.frz (.list (.cons .int .nil))) (.bcall (mm 0 rfl) (Gi E) (Gk E) (.some (.cons (.var (mm 1 rfl)) .nil)) .len))))))
  (.cons (.forI (.callK E (mm 4 rfl) (Ir E) (by kernel_rfl) (.some (.cons (.var (mm 9 rfl)) (.cons (.var (mm 5 rfl)) .nil))) (.le (Jh E) (by decide))) (.name (mm 11 rfl)) (.cons (.ite (.ofTest (.cmp (.var (mm 11 rfl)) .int .gtG)) (.cons (.unpack (.tuple (.cons (mm 12 rfl) (.cons (mm 13 rfl) (.cons (mm 14 rfl) (.cons (mm 15 rfl) .nil))))) (.ofPure (.sub (.var (mm 1 rfl)) (.bin (.var (mm 11 rfl)) .int .sub))))
  (.cons (.set (.ofPure (.callNK E (mm 5 rfl) (Sp E) (by kernel_rfl) (.some (.cons (.callNK E (mm 6 rfl) (Ip E) (by kernel_rfl) (.some (.cons (.var (mm 12 rfl)) (.cons (.var (mm 15 rfl)) (.cons (.sub (.var (mm 17 rfl)) (.var (mm 13 rfl))) (.cons (.sub (.var (mm 17 rfl)) (.var (mm 14 rfl))) .nil))))) (.le (Jf E) (by decide))) (.cons (.sub (.var (mm 7 rfl)) (.bin (.var (mm 11 rfl)) .int .mod)) .nil))) (.le (Tv E) (by decide)))) (.var (mm 17 rfl)) (.var (mm 11 rfl)))
  .nil)) .nil)
  .nil))
  (.cons (.let (mm 18 rfl) (.ofMake (.mul (MakeE.frz (.list (.cons .int .nil))) (.var (mm 3 rfl)))))
  (.cons (.forI (.callK E (mm 4 rfl) (Ir E) (by kernel_rfl) (.some (.cons (.var (mm 10 rfl)) (.cons (.var (mm 5 rfl)) .nil))) (.le (Jh E) (by decide))) (.name (mm 11 rfl)) (.cons (.ite (.ofTest (.cmp (.var (mm 11 rfl)) .int .gtG)) (.cons (.unpack (.tuple (.cons (mm 12 rfl) (.cons (mm 13 rfl) (.cons (mm 14 rfl) (.cons (mm 15 rfl) .nil))))) (.ofPure (.sub (.var (mm 1 rfl)) (.bin (.var (mm 11 rfl)) .int .sub))))
  (.cons (.unpack (.tuple (.cons (mm 19 rfl) (.cons (mm 20 rfl) .nil))) (.ofPure (.callNK E (mm 7 rfl) (It E) (by kernel_rfl) (.some (.cons (.var (mm 12 rfl)) (.cons (.var (mm 15 rfl)) (.cons (.sub (.var (mm 18 rfl)) (.var (mm 11 rfl))) (.cons (.sub (.var (mm 17 rfl)) (.var (mm 13 rfl))) (.cons (.sub (.var (mm 17 rfl)) (.var (mm 14 rfl))) .nil)))))) (.le (Ji E) (by decide)))))
  (.cons (.set (.ofPure (.callNK E (mm 5 rfl) (Sp E) (by kernel_rfl) (.some (.cons (.callNK E (mm 8 rfl) (Sq E) (by kernel_rfl) (.some (.cons (.sub (.var (mm 18 rfl)) (.var (mm 13 rfl))) (.cons (.var (mm 19 rfl)) .nil))) (.le (Tw E) (by decide))) (.cons (.sub (.var (mm 7 rfl)) (.bin (.var (mm 13 rfl)) .int .mod)) .nil))) (.le (Tv E) (by decide)))) (.var (mm 18 rfl)) (.var (mm 13 rfl)))
  (.cons (.set (.ofPure (.callNK E (mm 5 rfl) (Sp E) (by kernel_rfl) (.some (.cons (.callNK E (mm 8 rfl) (Sq E) (by kernel_rfl) (.some (.cons (.sub (.var (mm 18 rfl)) (.var (mm 14 rfl))) (.cons (.var (mm 20 rfl)) .nil))) (.le (Tw E) (by decide))) (.cons (.sub (.var (mm 7 rfl)) (.bin (.var (mm 14 rfl)) .int .mod)) .nil))) (.le (Tv E) (by decide)))) (.var (mm 18 rfl)) (.var (mm 14 rfl)))
  .nil)))) .nil)
  .nil))
  (.cons (.let (mm 21 rfl) (.ofPure (.bin (.var (mm 6 rfl)) (.var (mm 6 rfl)) .mulB)))
  (.cons (.let (mm 22 rfl) (.callK E (mm 9 rfl) (Iq E) (by kernel_rfl) (.some (.cons (.var (mm 1 rfl)) (.cons (.var (mm 8 rfl)) (.cons (.var (mm 21 rfl)) (.cons (.negP .int) (.cons .int .nil)))))) (.le (Jg E) (by decide))))
  (.cons (.ite (.ofTest (.cmp (.var (mm 17 rfl)) (MakeE.frz (.comp (sc':=Wh) (.enum (mm 10 rfl) (Iu E) (Iw E) (.var (mm 22 rfl))) (.of rfl (by kernel_rfl)) (.tuple (.cons (mm 0 rfl) (.cons (mm 1 rfl) .nil))) .nil (.pure (.ifP (.cmp (.bin (.var (mm 0 rfl)) .int .mod) .int .eq) (.negP (.bin (.negP (.var (mm 1 rfl))) (.var (mm 2 rfl)) .mod)) (.bin (.var (mm 1 rfl)) (.var (mm 2 rfl)) .mod))) (.inl rfl))) .neG)) (.cons (.ret (.ofPure .bool))
  .nil) .nil)
  (.cons (.for (.range (mm 3 rfl) (.inr ⟨Mh E,Mi E⟩) (.cons (.var (mm 3 rfl)) .nil)) (.name (mm 11 rfl)) (.cons (.let (mm 23 rfl) (.callK E (mm 9 rfl) (Iq E) (by kernel_rfl) (.some (.cons (.var (mm 1 rfl)) (.cons (.var (mm 8 rfl)) (.cons (.var (mm 21 rfl)) (.cons (.var (mm 11 rfl)) (.cons (.var (mm 6 rfl)) .nil)))))) (.le (Jg E) (by decide))))
  (.cons (.ite (.ofTest (.cmp (.bin (.bin (.bcall (mm 2 rfl) (Sn E) (Sr E) (.some (.cons (.var (mm 23 rfl)) .nil)) .sum) (.bcall (mm 2 rfl) (Sn E) (Sr E) (.some (.cons (.var (mm 22 rfl)) .nil)) .sum) .sub) (.var (mm 21 rfl)) .mod) (.bin (.bin (.var (mm 6 rfl)) (.sub (.var (mm 18 rfl)) (.var (mm 11 rfl))) .mulB) (.var (mm 21 rfl)) .mod) .neG)) (.cons (.ret (.ofPure .bool))
  .nil) .nil)
  .nil)))
  (.cons (.ret (.ofPure .bool))
  .nil))))))))))))))))))
theorem CW_law (E:Env0 C (KK P) aTS aNI):CallR C 8 (.ref 228) (bX C) :=
 .fnK (params:=["script"]) E (fd:=(Da (KK P) 228).getD default) (by kernel_rfl) (by kernel_rfl) (by kernel_rfl) (by kernel_rfl) (.p1 fun _=>by kernel_rfl) (by with_reducible exact lD E)
end
end L01
end Mine
end
section
namespace Mine
theorem Ks {h:Heap}{O:Addr->Prop}{G:Gh}:∀ {vs:List Value} {xs:List Int},IntsAre vs xs->VRels h O G (xs.map .int) vs
 | _,_,.nil=>by simp[vSn]
 | _,_,.cons n t r=>by
  simp only [List.map_cons,vSc]
  exact⟨_,_,rfl,⟨t,rfl⟩,Ks r⟩
theorem Pw {P:Params}{h:Heap}:∀ {vs:List Value} {xs:List Int},WellAll P h vs (ofPys (xs.map .int))->IntsAre vs xs
 | [],[],_=>.nil
 | [],_ :: _,w=>by simp[ofPys]at w;cases w
 | _ :: _,[],w=>by simp[ofPys]at w;cases w
 | v :: vs,x :: xs,w=>by
  simp only [List.map_cons,ofPys]at w
  cases w with
  | cons a b =>
   simp only [ofPy]at a
   cases a with
   | int i t=>exact .cons _ t (Pw b)
theorem law_end {C:Cx}{k:Nat}{fa scr:Addr}{W:FW}{c:ClaimW}{cl:Str->Option Addr}{mean:ExcName->Option Value}{args:List WData}{s1:Shared}{xs:List Int}(hC:C.h0=s1.heap)(hf:CallR C k (.ref fa) W)(hk:k<=60)
  (hW:∀ (Q:AV->AH->Prop) (H:AH),(∀ H',Q (.bool true) H')->W [.fl (xs.map .int)] Q H) (hz:xs.length<=63)
  {P:Params} (hw:Well P s1.heap (.ref scr) (ofPy (.list (xs.map .int)))) (hg:s1.gens = #[]) (hr:∀ cls,c.raises args cls=false) (hp:c.post args (.bool true) args=true) :
  codeAny (model C.prog C.w) callerA (.call (.ref fa) ⟨[.ref scr],[]⟩) (GoodWG c cl mean args s1) s1:=by
 have own0:∀ b,¬ own (fun z0=>none) (fun z0=>[]) b:=fun b ⟨a,h,_⟩=>h rfl
 have R:Rel C (fun z0=>none) (fun z0=>[]) (own (fun z0=>none) (fun z0=>[])) s1.heap :=
  ⟨fun z0 x=>x,(by intro a o e;exact nqa e),fun a h=>absurd rfl h,fun a b x h=>absurd rfl h,fun b o e=>⟨by rw[<- hC];exact e,own0 b⟩,fun b h=>absurd h (own0 b)⟩
 have hscr:∃ n items,s1.heap.get? scr=some (Bu items n)/\IntsAre items xs:=by
  simp only [ofPy]at hw
  cases hw with
  | list h1 h2=>exact⟨_,_,h1,Pw h2⟩
 obtain⟨n,items,hl,hI⟩:=hscr
 refine codeAny_mono (hf callerA s1 (fun z0=>none) (fun z0=>[]) [.fl (xs.map .int)] [.ref scr] (fun v z0=>v = .bool true) ⟨rfl,by refine(?_:1 + claimMargin + k + 20<=900);have:claimMargin=300:=rfl;exact Ar.r82 hk this,by refine(?_:4 + 100 * (k + 1)<=9000);exact Ar.r83 hk⟩ ⟨[],rfl,trivial,by simp⟩ R ?_ ?_ (hW _ _ fun z0=>rfl)) fun r s' hr'=>?_
 ·simp only [vSn,vSc,vRf]
  exact⟨_,_,rfl,⟨scr,n,items,rfl,hl,own0 _,by simp[An];exact Ar.r85 hz,Ks hI⟩,rfl⟩
 ·simp only [AV.stos,AV.sto,Bool.and_true]
  rw[stos_iff];intro v hv;obtain⟨x,_,rfl⟩:=List.mem_map.mp hv;rfl
 rcases r with e | (v | _ | _ | _) <;> first | exact hr'.elim | skip
 obtain⟨v',H',G',rfl,hv,_,R',S⟩:=hr'
 simp only [vRb]at hv
 subst hv
 obtain⟨h',tk,rfl⟩:=S.same
 refine⟨.inl ⟨_,.bool true,[],rfl,hr,.bool true,hp,fun z0=>⟨by simp,by simp⟩⟩,.of_keep fun b o e=>(R'.base b o (by rw[hC];exact e)).1,rfl,.of_eq hg⟩
end Mine
end
set_option tactic.hygienic true
theorem PySem.Challenge.cw_dn0073_01_holds : PySem.Challenge.rw_dn0073_01.Holds := by
  refine Mine.hd01 ?_
  intro w s0 s1 mg mb G Y fa o pm cd doc dV kV ho hd hcd hD hmg hg args vals as hpre hlay hrd hwl hlo
  have KX:=kIn_of Y
  refine Ground.open G ?_
  intro T B D TE TW
  wrow_args hpre hlay hrd hwl hlo
  rename_i xs _ _ _ _ _ _ _ scr _ _ _ _ hw _ _ _ hlen _
  refine enter_call ?_
  let C:Mine.Cx:=⟨PySem.Challenge.rw_dn0073_01.row.prog,w,s1.heap,mg,mb,Mine.aTS,Mine.aNI,T.g,T.b,T.nolimit⟩
  have E:Mine.Env0 C (Mine.KK w.params) Mine.aTS Mine.aNI:=⟨KX,rfl,rfl,T.builtins⟩
  have hfa:fa=228:=by
    have h1:=Mine.Env0.glob E (x:="law") (v:=some (.ref 228)) (by kernel_rfl)
    have h2:C.mg "law" = some (.ref fa):=hmg
    rw[h1]at h2;injection h2 with h2;injection h2 with h2;exact h2.symm
  subst hfa
  exact Mine.law_end (C:=C) rfl (Mine.L01.CW_law E) (by decide) (fun Q H hQ=>Mine.L01.law_spec (by lia) hQ) (by lia) hw hg (fun z0=>rfl) (by first | rfl | wrow_post)
